/-
  'zzGroup' (9): a struct whose candidates are the ids, each with the name at its place, or none.
-/
import Derived.Test.Qxb6001205aSelect
namespace Go.Proofs.Qxb6001205a
open Go.ChangeShapes Go.WideShapes Go.ChangeAt Go.RowKit
open Plain

/-- The candidates that the group holds. -/
def grouped (ids names : List ByteArray) : Nat → List (ByteArray × ByteArray)
  | 0 => []
  | k + 1 => grouped ids names k ++ [(ids.getD k ⟨#[]⟩, names.getD k ⟨#[]⟩)]

theorem grouped_length (ids names : List ByteArray) : ∀ k, (grouped ids names k).length = k
  | 0 => rfl
  | k + 1 => by simp [grouped, grouped_length ids names k]

theorem grouped_named (I N : List ByteArray) (k : Nat) (h : k < I.length) (h' : k < N.length) : grouped I N (k + 1) = grouped I N k ++ [(I[k], N[k])] := by
  simp [grouped, h, h']

theorem grouped_bare (I N : List ByteArray) (k : Nat) (h : k < I.length) (h' : ¬ k < N.length) : grouped I N (k + 1) = grouped I N k ++ [(I[k], ⟨#[]⟩)] := by
  have e : N[k]? = none := List.getElem?_eq_none (by omega)
  simp [grouped, h, e]

/-- The block of the result, as it is laid. -/
def blank : Obj := .cells #[.string ⟨#[]⟩, .string ⟨#[]⟩, .string ⟨#[]⟩, .int .i64 0, .slice none 0 0] 28

theorem blank_cells (w : World) : (w.alloc blank).cell? ⟨w.heap.size, 0, none⟩ = some (.string ⟨#[]⟩) ∧ (w.alloc blank).cell? ⟨w.heap.size, 1, none⟩ = some (.string ⟨#[]⟩) ∧ (w.alloc blank).cell? ⟨w.heap.size, 2, none⟩ = some (.string ⟨#[]⟩) ∧
    (w.alloc blank).cell? ⟨w.heap.size, 3, none⟩ = some (.int .i64 0) ∧ (w.alloc blank).cell? ⟨w.heap.size, 4, none⟩ = some (.slice none 0 0) := by
  unfold blank
  simp

theorem blank_free (w : World) (j : Nat) : (w.alloc blank).frozen? ⟨w.heap.size, j, none⟩ = false := by
  unfold blank
  rw [frozen?_alloc_cells]
  simp [World.frozen?]

theorem cands_fixed {w : World} {base e cap : Nat} {ao : Option Addr} {C : List (ByteArray × ByteArray)} (h : w.ownsRow base e 2 (.slice ao C.length cap) C.length (pairCells C)) : Cands w ao C := by
  obtain ⟨ao', cap', h', hc⟩ := cands_of_owns h
  cases h'
  exact hc

/-- A group came back. -/
def GaveGroup (w : World) (C : List (ByteArray × ByteArray)) (e : Ending) (w' : World) : Prop :=
  ∃ ao cap, e = .returned (.agg #[.string ⟨#[103]⟩, .string ⟨#[103, 114, 111, 117, 112]⟩, .string ⟨#[98, 111, 97, 114, 100]⟩, .int .i64 1, .slice ao C.length cap]) ∧ Cands w' ao C ∧ Below w.heap.size w w'

set_option maxHeartbeats 400000 in
theorem group_any (a0 a1 : Option Addr) (c0 c1 : Nat) (I N : List ByteArray) (w : World) (h0 : Strs w a0 I) (h1 : Strs w a1 N) (hl0 : I.length ≤ 4096) (_hl1 : N.length ≤ 4096) :
    Calls Try.prog 9 #[.slice a0 I.length c0, .slice a1 N.length c1] w fun e w' => GaveGroup w (grouped I N I.length) e w' := by
  obtain ⟨i0, hi, hz0, hz1, hz2⟩ := info_parts info34
  go_enter Try.func9, Try.ntmps9
  go_wp2_with (at_make; refine wpList_make_own _ rfl _ _ 26 rfl (w.heap.size + 1) 34 i0 _ 2 Try.underlying26 hi hz0 hz1 _ _ _ I.length rfl rfl rfl (by rw [hz2]; omega) (by unfold maxLen; omega) (by simp) ?_)
  intro w1 hown hgrow
  have hb1 : Below (w.heap.size + 1) (w.alloc blank) w1 := (Below.refl _ _).grown hgrow (by simp) (fun k h => by cases h)
  clear hgrow
  go_wp2_with fail
  go_loopw [5, 6, 7] (fun v i _ wr => ∃ k : Nat, k ≤ I.length ∧ i = .int .i64 k ∧ wr.ownsRow (w.heap.size + 1) 34 2 v k (pairCells (grouped I N k)) ∧ Below (w.heap.size + 1) (w.alloc blank) wr) (fun _ i _ _ => I.length - (intOf i).toNat)
  case atStart => exact ⟨0, Nat.zero_le _, rfl, hown, hb1⟩
  case round =>
    obtain ⟨k, hk, rfl, ho, hb⟩ := hrel
    clear hown hb1
    have hsz : w.heap.size + 1 ≤ wr.heap.size := by have := hb.size; simpa using this
    have hbW : Below w.heap.size w wr := ((Below.refl _ _).alloc (Nat.le_refl _) _).trans (hb.mono (by omega))
    by_cases hlt : k < I.length
    · obtain ⟨b, off, rfl, x0⟩ := h0 k hlt
      have X0 := cell_later hbW x0
      by_cases hln : k < N.length
      · obtain ⟨b', off', rfl, y0⟩ := h1 k hln
        have Y0 := cell_later hbW y0
        have HP : Hid _ := grouped_named I N k hlt hln
        have HB : Hid _ := hb
        clear x0 y0 hbW hb h0 h1
        go_wp2_with (at_builtin; (refine wpList_append_own _ rfl _ _ 26 rfl (w.heap.size + 1) 34 i0 _ 2 32 Try.underlying26 hi hz0 hz1 hz2 rfl (by decide) _ _ _ rfl (ho.alloc _) ⟨wr.heap.size, 0, none⟩ 1 1 [.string I[k], .string N[k]] rfl rfl ?_ ?_ ?_ ?_ ?_ ?_))
        · exact pair_new wr _ _ _ _ rfl
        · intro u hu
          simp only [List.mem_cons, List.not_mem_nil, or_false] at hu
          rcases hu with rfl | rfl <;> rfl
        · unfold maxLen; omega
        · omega
        · simp; omega
        · intro v' w2 hown2 hgrow2 _
          have hR : w2.ownsRow (w.heap.size + 1) 34 2 v' (k + 1) (pairCells (grouped I N (k + 1))) := by
            rw [HP.out, pairCells_snoc]
            exact hown2
          have hB2 : Below (w.heap.size + 1) (w.alloc blank) w2 := (HB.out.alloc hsz _).grown hgrow2 (by simp; omega) (fun j hj => (ho.lt j hj).1)
          have HR : Hid _ := hR
          have HB2 : Hid _ := hB2
          clear hown2 hgrow2 hR hB2 ho
          go_wp2_with fail
          go_roundw
          case rel => exact ⟨k + 1, by omega, by go_num, HR.out, HB2.out⟩
          case measure => simp [intOf]; omega
      · have HP : Hid _ := grouped_bare I N k hlt hln
        have HB : Hid _ := hb
        clear x0 hbW hb h0 h1
        go_wp2_with (at_builtin; (refine wpList_append_own _ rfl _ _ 26 rfl (w.heap.size + 1) 34 i0 _ 2 32 Try.underlying26 hi hz0 hz1 hz2 rfl (by decide) _ _ _ rfl (ho.alloc _) ⟨wr.heap.size, 0, none⟩ 1 1 [.string I[k], .string ⟨#[]⟩] rfl rfl ?_ ?_ ?_ ?_ ?_ ?_))
        · exact pair_new wr _ _ _ _ rfl
        · intro u hu
          simp only [List.mem_cons, List.not_mem_nil, or_false] at hu
          rcases hu with rfl | rfl <;> rfl
        · unfold maxLen; omega
        · omega
        · simp; omega
        · intro v' w2 hown2 hgrow2 _
          have hR : w2.ownsRow (w.heap.size + 1) 34 2 v' (k + 1) (pairCells (grouped I N (k + 1))) := by
            rw [HP.out, pairCells_snoc]
            exact hown2
          have hB2 : Below (w.heap.size + 1) (w.alloc blank) w2 := (HB.out.alloc hsz _).grown hgrow2 (by simp; omega) (fun j hj => (ho.lt j hj).1)
          have HR : Hid _ := hR
          have HB2 : Hid _ := hB2
          clear hown2 hgrow2 hR hB2 ho
          go_wp2_with fail
          go_roundw
          case rel => exact ⟨k + 1, by omega, by go_num, HR.out, HB2.out⟩
          case measure => simp [intOf]; omega
    · have e : k = I.length := by omega
      subst e
      have hgl := grouped_length I N I.length
      have ho2 : wr.ownsRow (w.heap.size + 1) 34 2 u5 (grouped I N I.length).length (pairCells (grouped I N I.length)) := by
        rw [hgl]
        exact ho
      obtain ⟨ao, cap, rfl, _⟩ := cands_of_owns ho2
      have HO : Hid _ := ho2
      obtain ⟨g0, g1, g2, g3, g4⟩ := blank_cells w
      have G0 := (hb.cell (p := ⟨w.heap.size, 0, none⟩) (by simp)).trans g0
      have G1 := (hb.cell (p := ⟨w.heap.size, 1, none⟩) (by simp)).trans g1
      have G2 := (hb.cell (p := ⟨w.heap.size, 2, none⟩) (by simp)).trans g2
      have G3 := (hb.cell (p := ⟨w.heap.size, 3, none⟩) (by simp)).trans g3
      have G4 := (hb.cell (p := ⟨w.heap.size, 4, none⟩) (by simp)).trans g4
      have F : ∀ j, wr.frozen? ⟨w.heap.size, j, none⟩ = false := fun j => (hb.frozen (p := ⟨w.heap.size, j, none⟩) (by simp)).trans (blank_free w j)
      have HB : Hid _ := hbW
      clear ho ho2 g0 g1 g2 g3 g4 hb hbW hgl
      go_wp2_with fail
      refine bodyPost_ret (v := .agg #[.string ⟨#[103]⟩, .string ⟨#[103, 114, 111, 117, 112]⟩, .string ⟨#[98, 111, 97, 114, 100]⟩, .int .i64 1, .slice ao (grouped I N I.length).length cap]) ?_ rfl ?_
      · simp [results, Try.results9, go_sem, G0, G1, G2, G3, G4]
      · have s0 := ownsRow_setCell_below HO.out (a := ⟨w.heap.size, 0, none⟩) (by simp) (.string ⟨#[103]⟩)
        have s1 := ownsRow_setCell_below s0 (a := ⟨w.heap.size, 1, none⟩) (by simp) (.string ⟨#[103, 114, 111, 117, 112]⟩)
        have s2 := ownsRow_setCell_below s1 (a := ⟨w.heap.size, 2, none⟩) (by simp) (.string ⟨#[98, 111, 97, 114, 100]⟩)
        have s3 := ownsRow_setCell_below s2 (a := ⟨w.heap.size, 3, none⟩) (by simp) (.int .i64 1)
        have s4 := ownsRow_setCell_below s3 (a := ⟨w.heap.size, 4, none⟩) (by simp) (.slice ao (grouped I N I.length).length cap)
        exact ⟨ao, cap, rfl, cands_fixed s4, ((((HB.out.setCell (Nat.le_refl _) _).setCell (Nat.le_refl _) _).setCell (Nat.le_refl _) _).setCell (Nat.le_refl _) _).setCell (Nat.le_refl _) _⟩
end Go.Proofs.Qxb6001205a
