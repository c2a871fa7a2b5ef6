/-
  'zzSame' (12) ON TWO SLICES THAT READ AS THE SAME CANDIDATES: true.
-/
import Derived.Test.Qxb6001205aReads
import Derived.WalkSpells
import Derived.WalkSmall
import Derived.Deep.QuietTactic
import Derived.BigQuiet
namespace Go.Proofs.Qxb6001205a
open Go.ChangeShapes Go.WideShapes Go.ChangeAt Go.RowKit
open Plain

set_option maxHeartbeats 400000 in
theorem same_any (a0 a1 : Option Addr) (c0 c1 : Nat) (C : List (ByteArray × ByteArray)) (w : World) (h0 : Cands w a0 C) (h1 : Cands w a1 C) (hl : C.length ≤ 8192) :
    Calls Try.prog 12 #[.slice a0 C.length c0, .slice a1 C.length c1] w fun e w' => e = .returned (.bool true) ∧ Below w.heap.size w w' := by
  go_enter Try.func12, Try.ntmps12
  go_wp2_with fail
  go_loopw [5] (fun i wr => ∃ k : Nat, k ≤ C.length ∧ i = .int .i64 k ∧ Below w.heap.size w wr) (fun i _ => C.length - (intOf i).toNat)
  case atStart => exact ⟨0, Nat.zero_le _, rfl, Below.refl _ _⟩
  case round =>
    obtain ⟨k, hk, rfl, hb⟩ := hrel
    by_cases hlt : k < C.length
    · obtain ⟨b, off, rfl, x1, x2⟩ := h0 k hlt
      obtain ⟨b', off', rfl, y1, y2⟩ := h1 k hlt
      have X1 := cell_later hb x1
      have X2 := cell_later hb x2
      have Y1 := cell_later hb y1
      have Y2 := cell_later hb y2
      have HB : Hid _ := hb
      clear x1 x2 y1 y2 hb
      have hlt' : (k : Int) < (C.length : Int) := by omega
      have hnn : (0 : Int) ≤ (k : Int) := by omega
      go_wp2_with fail
      go_quiet (fail)
      go_wp2_with fail
      go_roundw
      case rel => exact ⟨k + 1, by omega, by go_num, below_drewN HB.out _⟩
      case measure => simp [intOf]; omega
    · go_wp2_with fail
      go_ret
      exact ⟨rfl, hb⟩
end Go.Proofs.Qxb6001205a
