/-
  THE CALLEES THAT ONLY READ: slices.Index (19), slices.Contains (18), zzStringsBytes (16), zzTooBig (7).
-/
import Derived.Test.Qxb6001205aProg
import Derived.Test.Qxb6001205aPlain
import Derived.Test.Qxb6001205aViews
import Derived.ProofKit
namespace Go.Proofs.Qxb6001205a
open Go.ChangeShapes Go.WideShapes Go.ChangeAt Go.RowKit
open Plain

theorem ret_bool {a b : Bool} (h : a = b) : Ending.returned (.bool a) = .returned (.bool b) := by rw [h]

set_option maxHeartbeats 400000 in
theorem index_any (ao : Option Addr) (cap : Nat) (L : List ByteArray) (x : ByteArray) (w : World) (hS : Strs w ao L) (hl : L.length ≤ 8192) :
    Calls Try.prog 19 #[.slice ao L.length cap, .string x] w fun e w' => (∃ n : Int, e = .returned (.int .i64 n) ∧ decide (0 ≤ n) = has L x) ∧ w' = w := by
  go_enter Try.func19, Try.ntmps19
  go_wp2
  go_loop [5, 8] (fun _ i => ∃ k : Nat, k ≤ L.length ∧ i = .int .i64 k ∧ has (L.take k) x = false) (fun _ i => L.length - (intOf i).toNat)
  case atStart => exact ⟨0, Nat.zero_le _, rfl, rfl⟩
  case round =>
    obtain ⟨k, hk, rfl, hno⟩ := hrel
    have HN : Hid (has (L.take k) x = false) := hno
    clear hno
    by_cases hlt : k < L.length
    · obtain ⟨b, off, rfl, hc⟩ := hS k hlt
      by_cases he : (x.toList == L[k].toList) = true
      · go_wp2
        go_ret
        exact ⟨⟨k, rfl, by rw [has_at L x k hlt he]; simp⟩, rfl⟩
      · have hf : (x.toList == L[k].toList) = false := by simpa using he
        clear he
        go_wp2
        go_round
        case rel => exact ⟨k + 1, by omega, by go_num, has_take_succ L x k hlt HN.out hf⟩
        case measure => simp [intOf]; omega
    · go_wp2
      go_ret
      have e : L.take k = L := List.take_of_length_le (by omega)
      have h := HN.out
      rw [e] at h
      exact ⟨⟨-1, rfl, by rw [h]; rfl⟩, rfl⟩

theorem contains_any (ao : Option Addr) (cap : Nat) (L : List ByteArray) (x : ByteArray) (w : World) (hS : Strs w ao L) (hl : L.length ≤ 8192) :
    Calls Try.prog 18 #[.slice ao L.length cap, .string x] w fun e w' => e = .returned (.bool (has L x)) ∧ w' = w := by
  go_enter Try.func18, Try.ntmps18
  go_wp2_with fail
  refine (index_any ao cap L x w hS hl).mono ?_
  rintro e w' ⟨⟨n, rfl, hn⟩, rfl⟩
  have HN : Hid (decide (0 ≤ n) = has L x) := hn
  clear hn
  go_wp2_with fail
  go_ret
  exact ⟨ret_bool HN.out, rfl⟩

set_option maxHeartbeats 400000 in
theorem strbytes_any (ao : Option Addr) (cap : Nat) (L : List ByteArray) (w : World) (hS : Strs w ao L) (hl : L.length ≤ 8192) :
    Calls Try.prog 16 #[.slice ao L.length cap] w fun e w' => (∃ n : Int, e = .returned (.int .i64 n)) ∧ w' = w := by
  go_enter Try.func16, Try.ntmps16
  go_wp2
  go_loop [3, 4] (fun n i => ∃ (k : Nat) (z : Int), k ≤ L.length ∧ i = .int .i64 k ∧ n = .int .i64 z) (fun _ i => L.length - (intOf i).toNat)
  case atStart => exact ⟨0, 0, Nat.zero_le _, rfl, rfl⟩
  case round =>
    obtain ⟨k, z, hk, rfl, rfl⟩ := hrel
    by_cases hlt : k < L.length
    · obtain ⟨b, off, rfl, hc⟩ := hS k hlt
      go_wp2
      go_round
      case rel => exact ⟨k + 1, _, by omega, by go_num, rfl⟩
      case measure => simp [intOf]; omega
    · go_wp2
      go_ret
      exact ⟨⟨_, rfl⟩, rfl⟩

/-- What 'zzTooBig' says: a bool; where it is false no list is longer than 4096. -/
def Bigness (L0 L1 L2 : List ByteArray) (e : Ending) : Prop := ∃ t : Bool, e = .returned (.bool t) ∧ (t = false → L0.length ≤ 4096 ∧ L1.length ≤ 4096 ∧ L2.length ≤ 4096)

theorem Bigness.yes (L0 L1 L2 : List ByteArray) : Bigness L0 L1 L2 (.returned (.bool true)) := ⟨true, rfl, fun h => by cases h⟩

set_option maxHeartbeats 400000 in
theorem toobig_any (a0 a1 a2 : Option Addr) (c0 c1 c2 : Nat) (L0 L1 L2 : List ByteArray) (w : World) (h0 : Strs w a0 L0) (h1 : Strs w a1 L1) (h2 : Strs w a2 L2) :
    Calls Try.prog 7 #[.slice a0 L0.length c0, .slice a1 L1.length c1, .slice a2 L2.length c2] w fun e w' =>
      Bigness L0 L1 L2 e ∧ w' = w := by
  by_cases hb : L0.length ≤ 4096 ∧ L1.length ≤ 4096 ∧ L2.length ≤ 4096
  · have HB : Hid (L0.length ≤ 4096 ∧ L1.length ≤ 4096 ∧ L2.length ≤ 4096) := hb
    obtain ⟨b0, b1, b2⟩ := hb
    have C0 := strbytes_any a0 c0 L0 w h0 (by omega)
    have C1 := strbytes_any a1 c1 L1 w h1 (by omega)
    have C2 := strbytes_any a2 c2 L2 w h2 (by omega)
    have H0 : Hid _ := C0
    have H1 : Hid _ := C1
    have H2 : Hid _ := C2
    clear C0 C1 C2
    go_enter Try.func7, Try.ntmps7
    go_wp2_with fail
    refine Calls.mono H0.out ?_
    rintro e w' ⟨⟨n0, rfl⟩, rfl⟩
    go_wp2_with fail
    refine Calls.mono H1.out ?_
    rintro e w' ⟨⟨n1, rfl⟩, rfl⟩
    go_wp2_with fail
    refine Calls.mono H2.out ?_
    rintro e w' ⟨⟨n2, rfl⟩, rfl⟩
    go_wp2_with fail
    go_ret
    exact ⟨⟨_, rfl, fun _ => HB.out⟩, rfl⟩
  · clear h0 h1 h2
    by_cases b0 : (4096 : Int) < (L0.length : Int)
    · clear hb
      go_enter Try.func7, Try.ntmps7
      go_wp2_with fail
      go_ret
      exact ⟨Bigness.yes L0 L1 L2, rfl⟩
    · by_cases b1 : (4096 : Int) < (L1.length : Int)
      · clear hb
        go_enter Try.func7, Try.ntmps7
        go_wp2_with fail
        go_ret
        exact ⟨Bigness.yes L0 L1 L2, rfl⟩
      · have b2 : (4096 : Int) < (L2.length : Int) := by omega
        clear hb
        go_enter Try.func7, Try.ntmps7
        go_wp2_with fail
        go_ret
        exact ⟨Bigness.yes L0 L1 L2, rfl⟩
end Go.Proofs.Qxb6001205a
