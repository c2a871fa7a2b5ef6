/-
  'zzBytes_..' (6): it only reads, and answers a bool.
-/
import Derived.Test.Qxb6001205aReads
namespace Go.Proofs.Qxb6001205a
open Go.ChangeShapes Go.WideShapes Go.ChangeAt Go.RowKit
open Plain

/-- A bool comes back. -/
def SomeBool (e : Ending) : Prop := ∃ t : Bool, e = .returned (.bool t)
theorem SomeBool.mk (t : Bool) : SomeBool (.returned (.bool t)) := ⟨t, rfl⟩

set_option maxHeartbeats 1000000 in
theorem bytes_any (a0 a1 a2 : Option Addr) (c0 c1 c2 : Nat) (L0 L1 L2 : List ByteArray) (w : World) (h0 : Strs w a0 L0) (h1 : Strs w a1 L1) (h2 : Strs w a2 L2) :
    Calls Try.prog 6 #[.slice a0 L0.length c0, .slice a1 L1.length c1, .slice a2 L2.length c2] w fun e w' => SomeBool e ∧ w' = w := by
  by_cases b0 : (1048576 : Int) < (L0.length : Int)
  · go_enter Try.func6, Try.ntmps6
    go_wp2_with fail
    go_ret
    exact ⟨SomeBool.mk _, rfl⟩
  have l0 : L0.length ≤ 1048576 := by omega
  go_enter Try.func6, Try.ntmps6
  go_wp2_with fail
  go_loop [7, 8] (fun n i => ∃ (k : Nat) (z : Int), k ≤ L0.length ∧ i = .int .i64 k ∧ n = .int .i64 z) (fun _ i => L0.length - (intOf i).toNat)
  case atStart => exact ⟨0, _, Nat.zero_le _, rfl, rfl⟩
  case round =>
    obtain ⟨k0, z0, hk0, rfl, rfl⟩ := hrel
    by_cases hlt0 : k0 < L0.length
    · obtain ⟨b, off, rfl, hc⟩ := h0 k0 hlt0
      go_wp2_with fail
      · go_ret
        exact ⟨SomeBool.mk _, rfl⟩
      · go_ret
        exact ⟨SomeBool.mk _, rfl⟩
      · go_round
        case rel => exact ⟨k0 + 1, _, by omega, by go_num, rfl⟩
        case measure => simp [intOf]; omega
    · go_wp2_with fail
      · go_ret
        exact ⟨SomeBool.mk _, rfl⟩
      · go_ret
        exact ⟨SomeBool.mk _, rfl⟩
      · have l1 : L1.length ≤ 1048576 := by omega
        go_loop [7, 9] (fun n i => ∃ (k : Nat) (z : Int), k ≤ L1.length ∧ i = .int .i64 k ∧ n = .int .i64 z) (fun _ i => L1.length - (intOf i).toNat)
        case atStart => exact ⟨0, _, Nat.zero_le _, rfl, rfl⟩
        case round =>
          obtain ⟨k1, z1, hk1, rfl, rfl⟩ := hrel
          by_cases hlt1 : k1 < L1.length
          · obtain ⟨b, off, rfl, hc⟩ := h1 k1 hlt1
            go_wp2_with fail
            · go_ret
              exact ⟨SomeBool.mk _, rfl⟩
            · go_ret
              exact ⟨SomeBool.mk _, rfl⟩
            · go_round
              case rel => exact ⟨k1 + 1, _, by omega, by go_num, rfl⟩
              case measure => simp [intOf]; omega
          · go_wp2_with fail
            · go_ret
              exact ⟨SomeBool.mk _, rfl⟩
            · go_ret
              exact ⟨SomeBool.mk _, rfl⟩
            · have l2 : L2.length ≤ 1048576 := by omega
              go_loop [7, 10] (fun n i => ∃ (k : Nat) (z : Int), k ≤ L2.length ∧ i = .int .i64 k ∧ n = .int .i64 z) (fun _ i => L2.length - (intOf i).toNat)
              case atStart => exact ⟨0, _, Nat.zero_le _, rfl, rfl⟩
              case round =>
                obtain ⟨k2, z2, hk2, rfl, rfl⟩ := hrel
                by_cases hlt2 : k2 < L2.length
                · obtain ⟨b, off, rfl, hc⟩ := h2 k2 hlt2
                  go_wp2_with fail
                  · go_ret
                    exact ⟨SomeBool.mk _, rfl⟩
                  · go_ret
                    exact ⟨SomeBool.mk _, rfl⟩
                  · go_round
                    case rel => exact ⟨k2 + 1, _, by omega, by go_num, rfl⟩
                    case measure => simp [intOf]; omega
                · go_wp2_with fail
                  go_ret
                  exact ⟨SomeBool.mk _, rfl⟩
end Go.Proofs.Qxb6001205a
