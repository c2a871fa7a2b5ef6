/-
  'candidatesOf' (17) AND ITS DOOR 'ZZcandidatesOf' (10): a slice that reads as 'pick C ids'.
-/
import Derived.Test.Qxb6001205aReads
import Derived.WalkSpells
namespace Go.Proofs.Qxb6001205a
open Go.ChangeShapes Go.WideShapes Go.ChangeAt Go.RowKit
open Plain

theorem info34 : (Try.prog.info? 34).map (fun i => (i.zero, i.size, i.bytes)) = some (some (.agg #[.string ⟨#[]⟩, .string ⟨#[]⟩]), 2, 32) := by kernel_rfl

/-- A slice of candidates came back: it reads as C; nothing old has turned. -/
def GaveCands (w : World) (C : List (ByteArray × ByteArray)) (e : Ending) (w' : World) : Prop := ∃ ao cap, e = .returned (.slice ao C.length cap) ∧ Cands w' ao C ∧ Below w.heap.size w w'

theorem contains_yes (ao : Option Addr) (cap : Nat) (L : List ByteArray) (x : ByteArray) (w : World) (hS : Strs w ao L) (hl : L.length ≤ 8192) (h : has L x = true) :
    Calls Try.prog 18 #[.slice ao L.length cap, .string x] w fun e w' => e = .returned (.bool true) ∧ w' = w := by
  have := contains_any ao cap L x w hS hl
  rwa [h] at this

theorem contains_no (ao : Option Addr) (cap : Nat) (L : List ByteArray) (x : ByteArray) (w : World) (hS : Strs w ao L) (hl : L.length ≤ 8192) (h : has L x = false) :
    Calls Try.prog 18 #[.slice ao L.length cap, .string x] w fun e w' => e = .returned (.bool false) ∧ w' = w := by
  have := contains_any ao cap L x w hS hl
  rwa [h] at this

/-- The two cells of a candidate that was just laid in a block of its own. -/
theorem pair_new (w : World) (x y : Value) (t n : Nat) (hn : n = w.heap.size) : ∀ j u, [x, y][j]? = some u → (w.alloc (.cells #[x, y] t)).cell? ((⟨n, 0, none⟩ : Addr).add j) = some u := by
  subst hn
  intro j u hu
  match j, hu with
  | 0, hu => simp at hu; subst hu; simp [Addr.add]
  | 1, hu => simp at hu; subst hu; simp [Addr.add]
  | j + 2, hu => simp at hu

set_option maxHeartbeats 400000 in
theorem select_any (f0 f1 f2 : ByteArray) (f3 : Int) (ac : Option Addr) (cc : Nat) (C : List (ByteArray × ByteArray)) (ai : Option Addr) (ci : Nat) (L : List ByteArray) (w : World) (hC : Cands w ac C) (hS : Strs w ai L) (hlC : C.length ≤ 4096) (hlL : L.length ≤ 8192) :
    Calls Try.prog 17 #[.agg #[.string f0, .string f1, .string f2, .int .i64 f3, .slice ac C.length cc], .slice ai L.length ci] w fun e w' => GaveCands w (pick C L) e w' := by
  obtain ⟨i0, hi, hz0, hz1, hz2⟩ := info_parts info34
  go_enter Try.func17, Try.ntmps17
  go_wp2_with (at_make; refine wpList_make_own _ rfl _ _ 26 rfl w.heap.size 34 i0 _ 2 Try.underlying26 hi hz0 hz1 _ _ _ L.length rfl rfl rfl (by rw [hz2]; omega) (by unfold maxLen; omega) (by simp) ?_)
  intro w1 hown hgrow
  have hbx := hgrow
  clear hgrow
  have hb1 : Below w.heap.size w w1 := ((Below.refl _ _).alloc (Nat.le_refl _) _).grown hbx (by simp) (fun k h => by cases h)
  have hfc : w1.cell? ⟨w.heap.size, 4, none⟩ = some (.slice ac C.length cc) := hbx.cell (a := ⟨w.heap.size, 4, none⟩) (by simp) (by simp)
  clear hbx
  go_wp2_with fail
  go_loopw [5, 7, 14] (fun v _ i wr => ∃ k : Nat, k ≤ C.length ∧ i = .int .i64 k ∧ wr.ownsRow w.heap.size 34 2 v (pick (C.take k) L).length (pairCells (pick (C.take k) L)) ∧ Below w.heap.size w wr) (fun _ _ i _ => C.length - (intOf i).toNat)
  case atStart => exact ⟨0, Nat.zero_le _, rfl, hown, hb1⟩
  case round =>
    obtain ⟨k, hk, rfl, ho, hb⟩ := hrel
    clear hown hb1 hfc
    by_cases hlt : k < C.length
    · obtain ⟨b, off, rfl, x1, x2⟩ := hC k hlt
      have X1 := cell_later hb x1
      have X2 := cell_later hb x2
      clear x1 x2
      have hlt' : (k : Int) < (C.length : Int) := by omega
      have hbA : Below w.heap.size w (wr.alloc (.cells #[.string C[k].fst, .string C[k].snd] 34)) := hb.alloc hb.size _
      have hSA := hS.later hbA
      by_cases hh : has L C[k].fst = true
      · have HC : Hid _ := contains_yes ai ci L C[k].fst _ hSA hlL hh
        have HP : Hid _ := pick_take_hit C L k hlt hh
        have HB : Hid _ := hb
        have hsz := hb.size
        have hpl := pick_length (C.take k) L
        have hpl2 : (C.take k).length ≤ 4096 := by rw [List.length_take]; omega
        clear hh hSA hbA hb hC hS
        go_wp2_with fail
        refine Calls.mono HC.out ?_
        rintro e wz ⟨rfl, rfl⟩
        go_wp2_with (at_builtin; (refine wpList_append_own _ rfl _ _ 26 rfl w.heap.size 34 i0 _ 2 32 Try.underlying26 hi hz0 hz1 hz2 rfl (by decide) _ _ _ rfl ((ho.alloc _).alloc _) ⟨wr.heap.size + 1, 0, none⟩ 1 1 [.string C[k].fst, .string C[k].snd] rfl rfl ?_ ?_ ?_ ?_ ?_ ?_))
        · exact pair_new (wr.alloc _) _ _ _ _ (by simp)
        · intro u hu
          simp only [List.mem_cons, List.not_mem_nil, or_false] at hu
          rcases hu with rfl | rfl <;> rfl
        · unfold maxLen; omega
        · omega
        · simp; omega
        · intro v' w2 hown2 hgrow2 _
          have hR : w2.ownsRow w.heap.size 34 2 v' (pick (C.take (k + 1)) L).length (pairCells (pick (C.take (k + 1)) L)) := by
            rw [HP.out, pairCells_snoc, List.length_append]
            exact hown2
          have hB2 : Below w.heap.size w w2 := ((HB.out.alloc hsz _).alloc (by simp; omega) _).grown hgrow2 (by simp; omega) (fun j hj => (ho.lt j hj).1)
          have HR : Hid _ := hR
          have HB2 : Hid _ := hB2
          clear hown2 hgrow2 hR hB2 ho
          go_wp2_with fail
          go_roundw
          case rel => exact ⟨k + 1, by omega, by go_num, HR.out, HB2.out⟩
          case measure => simp [intOf]; omega
      · have hh' : has L C[k].fst = false := by simpa using hh
        have HC : Hid _ := contains_no ai ci L C[k].fst _ hSA hlL hh'
        have HR : Hid (wr.ownsRow w.heap.size 34 2 u5 (pick (C.take (k + 1)) L).length (pairCells (pick (C.take (k + 1)) L))) := by
          rw [pick_take_miss C L k hlt hh']
          exact ho
        have HB2 : Hid _ := hbA
        clear hh hh' hSA hbA hb hC hS ho
        go_wp2_with fail
        refine Calls.mono HC.out ?_
        rintro e wz ⟨rfl, rfl⟩
        go_wp2_with fail
        go_roundw
        case rel => exact ⟨k + 1, by omega, by go_num, HR.out.alloc _, HB2.out⟩
        case measure => simp [intOf]; omega
    · go_wp2_with fail
      go_ret
      have e : C.take k = C := List.take_of_length_le (by omega)
      rw [e] at ho
      obtain ⟨ao, cap, rfl, hcs⟩ := cands_of_owns ho
      exact ⟨ao, cap, rfl, hcs, hb⟩

set_option maxHeartbeats 400000 in
theorem door_any (f0 f1 f2 : ByteArray) (f3 : Int) (ac : Option Addr) (cc : Nat) (C : List (ByteArray × ByteArray)) (ai : Option Addr) (ci : Nat) (L : List ByteArray) (w : World) (hC : Cands w ac C) (hS : Strs w ai L) (hlC : C.length ≤ 4096) (hlL : L.length ≤ 8192) :
    Calls Try.prog 10 #[.agg #[.string f0, .string f1, .string f2, .int .i64 f3, .slice ac C.length cc], .slice ai L.length ci] w fun e w' => GaveCands w (pick C L) e w' := by
  have hbA : Below w.heap.size w (w.alloc (.cells #[.string f0, .string f1, .string f2, .int .i64 f3, .slice ac C.length cc] 28)) := (Below.refl _ _).alloc (Nat.le_refl _) _
  have HC : Hid _ := select_any f0 f1 f2 f3 ac cc C ai ci L _ (hC.later hbA) (hS.later hbA) hlC hlL
  have HB : Hid _ := hbA
  clear hbA hC hS
  go_enter Try.func10, Try.ntmps10
  go_wp2_with fail
  refine Calls.mono HC.out ?_
  rintro e w1 ⟨ao, cap, rfl, hc, hb⟩
  go_wp2_with fail
  go_ret
  exact ⟨ao, cap, rfl, hc, HB.out.trans (hb.mono (by simp))⟩
end Go.Proofs.Qxb6001205a
