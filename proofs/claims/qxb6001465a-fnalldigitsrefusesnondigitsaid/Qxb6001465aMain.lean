/-
  THE LAW's OWN WALK (4): out of the callees' contracts.
-/
import Derived.Test.Qxb6001465aWalks
namespace Go.Proofs.Qxb6001465a
open Go.ChangeShapes Go.WideShapes Go.ChangeAt Go.RowKit
open Plain

theorem info5 : (Try.prog.info? 5).map (fun i => (i.zero, i.size, i.bytes)) = some (some (.int .u8 0), 1, 1) := by kernel_rfl

/-- Bytes as cells. -/
def bc (l : List UInt8) : List Value := l.map fun b => Value.int .u8 (b.toNat : Int)

theorem bc_length (l : List UInt8) : (bc l).length = l.length := by simp [bc]

theorem bc_snoc (l : List UInt8) (b : UInt8) : bc (l ++ [b]) = bc l ++ [.int .u8 (b.toNat : Int)] := by simp [bc]

/-- 'string(buf)': what an owned row of bytes reads as. -/
theorem to_string {w : World} {base : Nat} {v : Value} {l : List UInt8} (h : w.ownsRow base 5 1 v l.length (bc l)) (hp : 0 < l.length) :
    (convert 25 9 v).run Try.prog w = .ok (.string ⟨l.toArray⟩) w := by
  rcases h.2 with ⟨_, h0⟩ | ⟨g, cap, cur, rfl, _⟩
  · omega
  · refine run_convert_bytes_back (P := Try.prog) w 25 9 5 ⟨g, 0, none⟩ cap l Try.underlying25 Try.underlying5 Try.underlying9 (fun j hj => ?_)
    rw [Addr.add_lit, Nat.zero_add, h.cellAt j (by omega)]
    simp [bc, hj]

/-- The text while it is being built: the first i bytes, c, and j of the rest. -/
def built (l : List UInt8) (i : Nat) (c : UInt8) (j : Nat) : List UInt8 := l.take i ++ [c] ++ (l.drop i).take j

theorem built_length (l : List UInt8) (i : Nat) (c : UInt8) (j : Nat) (hi : i ≤ l.length) (hj : i + j ≤ l.length) : (built l i c j).length = i + j + 1 := by
  simp [built]; omega

theorem built_zero (l : List UInt8) (i : Nat) (c : UInt8) : built l i c 0 = l.take i ++ [c] := by simp [built]

theorem built_succ (l : List UInt8) (i : Nat) (c : UInt8) (j : Nat) (h : i + j < l.length) : built l i c (j + 1) = built l i c j ++ [l[i + j]] := by
  unfold built
  rw [List.take_succ_eq_append_getElem (by simp; omega), ← List.append_assoc]
  simp

theorem built_no (l : List UInt8) (i : Nat) (c : UInt8) (j : Nat) (hd : digB c = false) : isDig (built l i c j) = false := isDig_stray _ _ _ hd

set_option maxHeartbeats 1000000 in
theorem rest_walk (a0 : ByteArray) (n : Nat) (a2 : Int) (w0 : a0.size ≤ maxLen) (h8 : 0 ≤ a2 ∧ a2 ≤ 255) (hb : a0.size ≤ 1048576) (hn : n ≤ a0.size) (hc : a2 < 48 ∨ 57 < a2) (w : World) :
    Calls Try.prog 4 #[.string a0, .int .i64 n, .int .u8 a2] w fun e w' => e = .returned (.bool true) ∧ Below w.heap.size w w' := by
  have hs := w0
  unfold maxLen at hs
  have hd : decide (a0.size ≤ 1048576) = true := decide_eq_true (by omega)
  have hb2 : ¬ (1048576 : Int) < (a0.size : Int) := by omega
  have hi1 : ¬ ((n : Int) < 0) := by omega
  have hi2 : ¬ ((a0.size : Int) < (n : Int)) := by omega
  obtain ⟨c, hce⟩ : ∃ c : UInt8, c = UInt8.ofNat a2.toNat := ⟨_, rfl⟩
  have hcv : (c.toNat : Int) = a2 := by rw [hce]; simp [UInt8.toNat_ofNat']; omega
  have hdc : digB c = false := by
    rw [Bool.eq_false_iff]
    intro h
    have := (digB_iff _).1 h
    omega
  have HDC : Hid _ := hdc
  have HCV : Hid _ := hcv
  clear hce hdc hcv
  obtain ⟨i0, hi, hz0, hz1, hz2⟩ := info_parts info5
  have hl : a0.data.toList.length = a0.size := by simp
  have HL : Hid _ := hl
  clear hl
  rcases hc with hc | hc
  all_goals
    go_enter Try.func4, Try.ntmps4
    go_wp2_with fail
    refine (bytes_any _ _ _ _ w0).mono ?_
    rintro e w' ⟨rfl, rfl⟩
    go_wp2_with (at_make; refine wpList_make_own _ rfl _ _ 25 rfl _ 5 i0 _ 1 Try.underlying25 hi hz0 hz1 _ _ _ (a0.size + 1) rfl rfl (by omega) (by rw [hz2]; omega) (by unfold maxLen; omega) (Nat.le_refl _) ?_)
    intro w1 hown hgrow
    have hb1 : Below w'.heap.size w' w1 := (Below.refl _ _).grown hgrow (Nat.le_refl _) (fun k h => by cases h)
    clear hgrow
    go_wp2_with fail
    go_loopw [7, 8] (fun v i wr => ∃ k : Nat, k ≤ n ∧ i = .int .i64 k ∧ wr.ownsRow w'.heap.size 5 1 v k (bc (a0.data.toList.take k)) ∧ Below w'.heap.size w' wr) (fun _ i _ => n - (intOf i).toNat)
    case atStart => exact ⟨0, Nat.zero_le _, rfl, hown, hb1⟩
    case round =>
      obtain ⟨k, hk, rfl, ho, hbw⟩ := hrel
      clear hown hb1
      have hsz := hbw.size
      by_cases hlt : k < n
      · have HP : Hid (bc (a0.data.toList.take (k + 1)) = bc (a0.data.toList.take k) ++ [.int .u8 (a0[k].toNat : Int)]) := by
          have h := List.take_succ_eq_append_getElem (l := a0.data.toList) (i := k) (by have := HL.out; omega)
          unfold Hid
          rw [h, bc_snoc]
          rfl
        have HB : Hid _ := hbw
        clear hbw
        have hk2 : k < a0.size := by omega
        go_wp2_with (at_builtin; (refine wpList_append_own _ rfl _ _ 25 rfl w'.heap.size 5 i0 _ 1 1 Try.underlying25 hi hz0 hz1 hz2 rfl (by decide) _ _ _ rfl (ho.alloc _) ⟨wr.heap.size, 0, none⟩ 1 1 [.int .u8 (a0[k].toNat : Int)] rfl rfl ?_ ?_ ?_ ?_ ?_ ?_))
        · exact cell_one_new _ _ _
        · intro u hu
          simp only [List.mem_cons, List.not_mem_nil, or_false] at hu
          subst hu
          rfl
        · unfold maxLen; omega
        · omega
        · simp; omega
        · intro v' wa hown2 hgrow2 _
          have HR : Hid (wa.ownsRow w'.heap.size 5 1 v' (k + 1) (bc (a0.data.toList.take (k + 1)))) := by
            unfold Hid
            rw [HP.out]
            exact hown2
          have HB2 : Hid (Below w'.heap.size w' wa) := (HB.out.alloc hsz _).grown hgrow2 (by simp; omega) (fun j hj => (ho.lt j hj).1)
          clear hown2 hgrow2 ho
          go_wp2_with fail
          go_roundw
          case rel => exact ⟨k + 1, by omega, by go_num, HR.out, HB2.out⟩
          case measure => simp [intOf]; omega
      · have e : k = n := by omega
        subst e
        clear hlt hk
        go_wp2_with (at_builtin; (refine wpList_append_own _ rfl _ _ 25 rfl w'.heap.size 5 i0 _ 1 1 Try.underlying25 hi hz0 hz1 hz2 rfl (by decide) _ _ _ rfl (ho.alloc _) ⟨wr.heap.size, 0, none⟩ 1 1 [.int .u8 a2] rfl rfl ?_ ?_ ?_ ?_ ?_ ?_))
        · exact cell_one_new _ _ _
        · intro u hu
          simp only [List.mem_cons, List.not_mem_nil, or_false] at hu
          subst hu
          rfl
        · unfold maxLen; omega
        · omega
        · simp; omega
        · intro v' wa hown2 hgrow2 _
          have hR : wa.ownsRow w'.heap.size 5 1 v' (k + 0 + 1) (bc (built a0.data.toList k c 0)) := by
            rw [built_zero, bc_snoc, HCV.out]
            exact hown2
          have hB2 : Below w'.heap.size w' wa := (hbw.alloc hsz _).grown hgrow2 (by simp; omega) (fun j hj => (ho.lt j hj).1)
          clear hown2 hgrow2 ho hbw
          go_wp2_with fail
          go_loopw [7, 8] (fun v i wr => ∃ j : Nat, k + j ≤ a0.size ∧ i = .int .i64 ((k + j : Nat) : Int) ∧ wr.ownsRow w'.heap.size 5 1 v (k + j + 1) (bc (built a0.data.toList k c j)) ∧ Below w'.heap.size w' wr) (fun _ i _ => a0.size - (intOf i).toNat)
          case atStart => exact ⟨0, by omega, rfl, hR, hB2⟩
          case round =>
            clear hR hB2
            obtain ⟨j, hj, rfl, ho, hbw⟩ := hrel
            have hsz2 := hbw.size
            obtain ⟨m, hme⟩ : ∃ m, m = k + j := ⟨_, rfl⟩
            rw [← hme] at hj ho
            rw [← hme]
            by_cases hlt : m < a0.size
            · have HP : Hid (bc (built a0.data.toList k c (j + 1)) = bc (built a0.data.toList k c j) ++ [.int .u8 (a0[m].toNat : Int)]) := by
                subst hme
                have h := built_succ a0.data.toList k c j (by have := HL.out; omega)
                unfold Hid
                rw [h, bc_snoc]
                rfl
              have HB : Hid _ := hbw
              have HM : Hid _ := hme
              clear hbw hme
              go_wp2_with (at_builtin; (refine wpList_append_own _ rfl _ _ 25 rfl w'.heap.size 5 i0 _ 1 1 Try.underlying25 hi hz0 hz1 hz2 rfl (by decide) _ _ _ rfl (ho.alloc _) ⟨wr.heap.size, 0, none⟩ 1 1 [.int .u8 (a0[m].toNat : Int)] rfl rfl ?_ ?_ ?_ ?_ ?_ ?_))
              · exact cell_one_new _ _ _
              · intro u hu
                simp only [List.mem_cons, List.not_mem_nil, or_false] at hu
                subst hu
                rfl
              · unfold maxLen; omega
              · omega
              · simp; omega
              · intro v2 wb hown2 hgrow2 _
                have HR : Hid (wb.ownsRow w'.heap.size 5 1 v2 (k + (j + 1) + 1) (bc (built a0.data.toList k c (j + 1)))) := by
                  unfold Hid
                  rw [HP.out]
                  have e : k + (j + 1) + 1 = m + 1 + 1 := by have := HM.out; omega
                  rw [e]
                  exact hown2
                have HB2 : Hid (Below w'.heap.size w' wb) := (HB.out.alloc hsz2 _).grown hgrow2 (by simp; omega) (fun j hj => (ho.lt j hj).1)
                clear hown2 hgrow2 ho
                go_wp2_with fail
                go_roundw
                case rel => exact ⟨j + 1, by have := HM.out; omega, by have := HM.out; congr 1; omega, HR.out, HB2.out⟩
                case measure => simp [intOf]; omega
            · have hsb : (built a0.data.toList k c j).length = m + 1 := by rw [built_length _ _ _ _ (by have := HL.out; omega) (by have := HL.out; omega), hme]
              have hts := to_string (l := built a0.data.toList k c j) (by rw [hsb]; exact ho) (by omega)
              have HZ : Hid _ := zz_no ⟨(built a0.data.toList k c j).toArray⟩ wr (by show (built a0.data.toList k c j).toArray.size ≤ _; rw [List.size_toArray, hsb]; unfold maxLen; omega) (built_no _ _ _ _ HDC.out)
              have HB : Hid _ := hbw
              clear hbw ho hsb
              go_wp2_with fail
              refine Calls.mono HZ.out ?_
              rintro e wz ⟨rfl, hbz⟩
              have HBZ : Hid _ := HB.out.trans (hbz.mono hsz2)
              clear hbz HZ
              go_wp2_with fail
              go_ret
              exact ⟨rfl, HBZ.out⟩

set_option maxHeartbeats 400000 in
/-- The ways on which the law has nothing to say. -/
theorem idle_walk (a0 : ByteArray) (a1 a2 : Int) (w0 : a0.size ≤ maxLen) (h8 : 0 ≤ a2 ∧ a2 ≤ 255) (h : (1048576 : Int) < (a0.size : Int) ∨ (48 ≤ a2 ∧ a2 ≤ 57) ∨ a1 < 0 ∨ (a0.size : Int) < a1) (w : World) :
    Calls Try.prog 4 #[.string a0, .int .i64 a1, .int .u8 a2] w fun e w' => e = .returned (.bool true) ∧ Below w.heap.size w w' := by
  have hs := w0
  unfold maxLen at hs
  by_cases hb : (1048576 : Int) < (a0.size : Int)
  · have hd : decide (a0.size ≤ 1048576) = false := decide_eq_false (by omega)
    clear h
    go_enter Try.func4, Try.ntmps4
    go_wp2_with (go_at_call 8; refine (bytes_any _ _ _ _ w0).mono ?_; rintro e w' ⟨rfl, rfl⟩)
    go_ret
    exact ⟨rfl, Below.refl _ _⟩
  have hd : decide (a0.size ≤ 1048576) = true := decide_eq_true (by omega)
  by_cases hi : a1 < 0
  · clear h
    go_enter Try.func4, Try.ntmps4
    go_wp2_with (go_at_call 8; refine (bytes_any _ _ _ _ w0).mono ?_; rintro e w' ⟨rfl, rfl⟩)
    go_ret
    exact ⟨rfl, Below.refl _ _⟩
  by_cases hi2 : (a0.size : Int) < a1
  · clear h
    go_enter Try.func4, Try.ntmps4
    go_wp2_with (go_at_call 8; refine (bytes_any _ _ _ _ w0).mono ?_; rintro e w' ⟨rfl, rfl⟩)
    go_ret
    exact ⟨rfl, Below.refl _ _⟩
  obtain ⟨hc1, hc2⟩ : 48 ≤ a2 ∧ a2 ≤ 57 := by omega
  clear h
  go_enter Try.func4, Try.ntmps4
  go_wp2_with (go_at_call 8; refine (bytes_any _ _ _ _ w0).mono ?_; rintro e w' ⟨rfl, rfl⟩)
  go_ret
  exact ⟨rfl, Below.refl _ _⟩
end Go.Proofs.Qxb6001465a
