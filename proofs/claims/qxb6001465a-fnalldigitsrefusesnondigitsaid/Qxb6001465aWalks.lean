/-
  THE WALKS of the callees: 'zzBytes_..' (8), 'allDigits' (10), 'ZZallDigits' (7).
-/
import Derived.Test.Qxb6001465aProg
import Derived.Test.Qxb6001465aPlain
import Derived.WalkKit
import Derived.ProofKit
import Derived.WalkSpells
import Derived.Laws.IdiomStrings
namespace Go.Proofs.Qxb6001465a
open Go.ChangeShapes Go.WideShapes Go.ChangeAt Go.RowKit
open Plain

theorem ret_bool {a b : Bool} (h : a = b) : Ending.returned (.bool a) = .returned (.bool b) := by rw [h]

theorem cell_later {w wx : World} {a : Addr} {v : Value} (hb : Below w.heap.size w wx) (h : w.cell? a = some v) : wx.cell? a = some v := (hb.cell (World.block_lt_of_cell? _ _ h)).trans h

set_option maxHeartbeats 400000 in
theorem bytes_any (s : ByteArray) (i c : Int) (w : World) (hs : s.size ≤ maxLen) :
    Calls Try.prog 8 #[.string s, .int .i64 i, .int .u8 c] w fun e w' => e = .returned (.bool (decide (s.size ≤ 1048576))) ∧ w' = w := by
  unfold maxLen at hs
  by_cases h : s.size ≤ 1048576
  · have h1 : ¬ (1048576 : Int) < (s.size : Int) := by omega
    go_enter Try.func8, Try.ntmps8
    go_wp2
    go_ret
    exact ⟨rfl, rfl⟩
  · have h1 : (1048576 : Int) < (s.size : Int) := by omega
    go_enter Try.func8, Try.ntmps8
    go_wp2
    go_ret
    exact ⟨ret_bool (decide_eq_false h).symm, rfl⟩

theorem digB_iff (c : UInt8) : digB c = true ↔ (48 : Int) ≤ (c.toNat : Int) ∧ (c.toNat : Int) ≤ 57 := by
  simp [digB]; omega

/-- '[]byte(s)': a new row that holds s's bytes. -/
theorem to_bytes (s : ByteArray) (w : World) : ∃ cap W1, (convert 9 25 (.string s)).run Try.prog w = .ok (.slice (some ⟨w.heap.size, 0, none⟩) s.size cap) W1 ∧
    (∀ j (h : j < s.size), W1.cell? ⟨w.heap.size, j, none⟩ = some (.int .u8 (s[j].toNat : Int))) ∧ Below w.heap.size w W1 := by
  refine ⟨_, _, run_bytes_of_string (P := Try.prog) w 9 25 5 s Try.underlying9 Try.underlying25 Try.underlying5, fun j h => ?_, ((Below.refl _ _).drew).alloc (Nat.le_refl _) _⟩
  refine (World.cell?_alloc_mark w.drew _ _ _ j).trans ?_
  unfold bytesRow
  rw [Array.getElem?_append_left (by simpa using h)]
  have h' : j < s.data.size := h
  simp only [Array.getElem?_map, Array.getElem?_eq_getElem h']
  rfl

set_option maxHeartbeats 400000 in
theorem allDigits_any (s : ByteArray) (w : World) (hs : s.size ≤ maxLen) :
    Calls Try.prog 10 #[.string s] w fun e w' => e = .returned (.bool (isDig s.data.toList)) ∧ Below w.heap.size w w' := by
  unfold maxLen at hs
  by_cases h0 : s.size = 0
  · have he : s.data.toList = [] := by
      apply List.eq_nil_of_length_eq_zero
      simpa using h0
    have he2 : s = ByteArray.empty := by
      cases s; simp at he; subst he; rfl
    subst he2
    go_enter Try.func10, Try.ntmps10
    go_wp2
    go_ret
    exact ⟨rfl, Below.refl _ _⟩
  · have hl : s.data.toList.length = s.size := by simp
    have hne : s.toList.isEmpty = false := by
      rw [ByteArray.toList_eq, List.isEmpty_eq_false_iff]
      intro h
      rw [h] at hl
      simp at hl
      omega
    obtain ⟨cap, W1, hcv, hcell, hb1⟩ := to_bytes s w
    have HB : Hid _ := hb1
    clear hb1
    go_enter Try.func10, Try.ntmps10
    go_wp2
    go_loop [4, 10] (fun _ i => ∃ k : Nat, k ≤ s.size ∧ i = .int .i64 k ∧ (s.data.toList.take k).all digB = true) (fun _ i => s.size - (intOf i).toNat)
    case atStart => exact ⟨0, Nat.zero_le _, rfl, rfl⟩
    case round =>
      obtain ⟨k, hk, rfl, ha⟩ := hrel
      by_cases hlt : k < s.size
      · have HA : Hid ((s.data.toList.take k).all digB = true) := ha
        clear ha
        have hkl : k < s.data.toList.length := by omega
        have hb : s.data.toList[k] = s[k] := rfl
        have no : ¬ ((48 : Int) ≤ (s[k].toNat : Int) ∧ (s[k].toNat : Int) ≤ 57) → isDig s.data.toList = false := fun h => by
          refine isDig_false_at _ k hkl ?_
          rw [hb, Bool.eq_false_iff]
          exact fun h' => h ((digB_iff _).1 h')
        have NO : Hid (¬ ((48 : Int) ≤ (s[k].toNat : Int) ∧ (s[k].toNat : Int) ≤ 57) → isDig s.data.toList = false) := no
        clear no hb
        have hc := hcell k hlt
        clear hcell
        go_wp2
        · go_ret
          exact ⟨ret_bool (NO.out (by omega)).symm, HB.out⟩
        · go_round
          case rel => exact ⟨k + 1, by omega, by go_num, all_take_succ _ k hkl HA.out ((digB_iff _).2 ‹_›)⟩
          case measure => simp [intOf]; omega
        · go_ret
          exact ⟨ret_bool (NO.out (by omega)).symm, HB.out⟩
      · go_wp2
        go_ret
        have e : k = s.data.toList.length := by omega
        exact ⟨ret_bool (isDig_true _ (by omega) (by rw [← e]; exact ha)).symm, HB.out⟩

theorem zz_any (s : ByteArray) (w : World) (hs : s.size ≤ maxLen) :
    Calls Try.prog 7 #[.string s] w fun e w' => e = .returned (.bool (isDig s.data.toList)) ∧ Below w.heap.size w w' := by
  go_enter Try.func7, Try.ntmps7
  go_wp2_with fail
  refine (allDigits_any s w hs).mono ?_
  rintro e w' ⟨rfl, hb⟩
  go_wp2_with fail
  go_ret
  exact ⟨rfl, hb⟩

/-- 'ZZallDigits' where the plain law says no. -/
theorem zz_no (s : ByteArray) (w : World) (hs : s.size ≤ maxLen) (h : isDig s.data.toList = false) :
    Calls Try.prog 7 #[.string s] w fun e w' => e = .returned (.bool false) ∧ Below w.heap.size w w' := by
  rw [← h]
  exact zz_any s w hs
end Go.Proofs.Qxb6001465a
