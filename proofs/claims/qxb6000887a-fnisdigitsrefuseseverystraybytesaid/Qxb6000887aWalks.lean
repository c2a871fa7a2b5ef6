/-
  THE WALKS of the callees: 'zzBytes_..' (7), 'isDigits' (8), 'ZZIsDigits' (6).
-/
import Derived.Test.Qxb6000887aProg
import Derived.Test.Qxb6000887aPlain
import Derived.WalkKit
import Derived.ProofKit
namespace Go.Proofs.Qxb6000887a
open Go.ChangeShapes Go.WideShapes Go.ChangeAt Go.RowKit
open Plain

theorem ret_bool {a b : Bool} (h : a = b) : Ending.returned (.bool a) = .returned (.bool b) := by rw [h]

set_option maxHeartbeats 400000 in
theorem bytes_any (s : ByteArray) (i c : Int) (w : World) (hs : s.size ≤ maxLen) :
    Calls Try.prog 7 #[.string s, .int .i64 i, .int .u8 c] w fun e w' => e = .returned (.bool (decide (s.size ≤ 1048576))) ∧ w' = w := by
  unfold maxLen at hs
  by_cases h : s.size ≤ 1048576
  · have h1 : ¬ (1048576 : Int) < (s.size : Int) := by omega
    go_enter Try.func7, Try.ntmps7
    go_wp2
    go_ret
    exact ⟨rfl, rfl⟩
  · have h1 : (1048576 : Int) < (s.size : Int) := by omega
    go_enter Try.func7, Try.ntmps7
    go_wp2
    go_ret
    exact ⟨ret_bool (decide_eq_false h).symm, rfl⟩

theorem digB_iff (c : UInt8) : digB c = true ↔ (48 : Int) ≤ (c.toNat : Int) ∧ (c.toNat : Int) ≤ 57 := by
  simp [digB]; omega

set_option maxHeartbeats 400000 in
theorem isDigits_any (s : ByteArray) (w : World) (hs : s.size ≤ maxLen) :
    Calls Try.prog 8 #[.string s] w fun e w' => e = .returned (.bool (isDig s.data.toList)) ∧ w' = w := by
  unfold maxLen at hs
  by_cases h0 : s.size = 0
  · have he : s.data.toList = [] := by
      apply List.eq_nil_of_length_eq_zero
      simpa using h0
    have he2 : s = ByteArray.empty := by
      cases s; simp at he; subst he; rfl
    subst he2
    go_enter Try.func8, Try.ntmps8
    go_wp2
    go_ret
    exact ⟨rfl, rfl⟩
  · have hl : s.data.toList.length = s.size := by simp
    have hne : s.toList.isEmpty = false := by
      rw [ByteArray.toList_eq, List.isEmpty_eq_false_iff]
      intro h
      rw [h] at hl
      simp at hl
      omega
    go_enter Try.func8, Try.ntmps8
    go_wp2
    go_loop [3] (fun i => ∃ k : Nat, k ≤ s.size ∧ i = .int .i64 k ∧ (s.data.toList.take k).all digB = true) (fun i => s.size - (intOf i).toNat)
    case atStart => exact ⟨0, Nat.zero_le _, rfl, rfl⟩
    case round =>
      obtain ⟨k, hk, rfl, ha⟩ := hrel
      by_cases hlt : k < s.size
      · have HA : Hid ((s.data.toList.take k).all digB = true) := ha
        clear ha
        have hkl : k < s.data.toList.length := by omega
        have hb : s.data.toList[k] = s[k] := rfl
        have no : ¬ ((48 : Int) ≤ (s[k].toNat : Int) ∧ (s[k].toNat : Int) ≤ 57) → isDig s.data.toList = false := fun h => by
          refine isDig_false_at _ k hkl ?_
          rw [hb, Bool.eq_false_iff]
          exact fun h' => h ((digB_iff _).1 h')
        have NO : Hid (¬ ((48 : Int) ≤ (s[k].toNat : Int) ∧ (s[k].toNat : Int) ≤ 57) → isDig s.data.toList = false) := no
        clear no hb
        go_wp2
        · go_ret
          exact ⟨ret_bool (NO.out (by omega)).symm, rfl⟩
        · go_round
          case rel => exact ⟨k + 1, by omega, by go_num, all_take_succ _ k hkl HA.out ((digB_iff _).2 ‹_›)⟩
          case measure => simp [intOf]; omega
        · go_ret
          exact ⟨ret_bool (NO.out (by omega)).symm, rfl⟩
      · go_wp2
        go_ret
        have e : k = s.data.toList.length := by omega
        exact ⟨ret_bool (isDig_true _ (by omega) (by rw [← e]; exact ha)).symm, rfl⟩

theorem zz_any (s : ByteArray) (w : World) (hs : s.size ≤ maxLen) :
    Calls Try.prog 6 #[.string s] w fun e w' => e = .returned (.bool (isDig s.data.toList)) ∧ w' = w := by
  go_enter Try.func6, Try.ntmps6
  go_wp2_with (go_at_call 8; refine (isDigits_any _ _ hs).mono ?_; rintro e w' ⟨rfl, rfl⟩)
  go_ret
  exact ⟨rfl, rfl⟩
end Go.Proofs.Qxb6000887a
