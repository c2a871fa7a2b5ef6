/-
  THE CALLEES THAT MAKE A SLICE OF STRINGS: zzCopy (8), zzReversed (11).
-/
import Derived.Test.Qxb6001205aReads
import Derived.WalkSpells
namespace Go.Proofs.Qxb6001205a
open Go.ChangeShapes Go.WideShapes Go.ChangeAt Go.RowKit
open Plain

theorem info9 : (Try.prog.info? 9).map (fun i => (i.zero, i.size, i.bytes)) = some (some (.string ⟨#[]⟩), 1, 16) := by kernel_rfl

/-- A slice of strings came back: it reads as L; nothing old has turned. -/
def GaveStrs (w : World) (L : List ByteArray) (e : Ending) (w' : World) : Prop := ∃ ao cap, e = .returned (.slice ao L.length cap) ∧ (ao = none → L = [] ∧ cap = 0) ∧ Strs w' ao L ∧ Below w.heap.size w w'

/-- The row while it is being filled: F j at each place j below k, empty strings behind. -/
def part (F : List ByteArray) (n k : Nat) : List Value := (F.take k).map Value.string ++ List.replicate (n - k) (.string ⟨#[]⟩)

theorem part_zero (F : List ByteArray) (n : Nat) : part F n 0 = List.replicate n (.string ⟨#[]⟩) := by simp [part]

theorem part_all (F : List ByteArray) : part F F.length F.length = F.map Value.string := by simp [part]

theorem part_set (F : List ByteArray) (k : Nat) (h : k < F.length) : (part F F.length k).set k (.string F[k]) = part F F.length (k + 1) := by
  unfold part
  have e : F.length - k = (F.length - (k + 1)) + 1 := by omega
  rw [e, List.replicate_succ, List.set_append_right _ _ (by simp; omega), List.take_succ_eq_append_getElem h]
  have e2 : k - ((F.take k).map Value.string).length = 0 := by simp; omega
  rw [e2, List.map_append, List.append_assoc]
  rfl

theorem part_some (F : List ByteArray) (k : Nat) (h : k < F.length) : ∃ u, (part F F.length k)[k]? = some u := by
  have hl : (part F F.length k).length = F.length := by simp [part]; omega
  exact ⟨_, List.getElem?_eq_getElem (by omega)⟩

/-- One store of the filling loop. -/
theorem fill_step {w wr : World} {B n : Nat} {F : List ByteArray} {k : Nat} {x : ByteArray} (hn : F.length = n) (hx : F[k]? = some x) (hB : w.heap.size ≤ B)
    (hown : wr.ownsRow w.heap.size 9 1 (.slice (some ⟨B, 0, none⟩) n n) n (part F n k)) (hb : Below w.heap.size w wr) :
    (wr.setCell ⟨B, k, none⟩ (.string x)).ownsRow w.heap.size 9 1 (.slice (some ⟨B, 0, none⟩) n n) n (part F n (k + 1)) ∧
      Below w.heap.size w (wr.setCell ⟨B, k, none⟩ (.string x)) := by
  subst hn
  obtain ⟨h, rfl⟩ := List.getElem?_eq_some_iff.1 hx
  have := (hown.stored k (.string F[k])).1
  rw [part_set F k h] at this
  exact ⟨this, hb.setCell hB _⟩

theorem copy_nil (w : World) : Calls Try.prog 8 #[.slice none 0 0] w fun e w' => e = .returned (.slice none 0 0) ∧ w' = w := by
  have hn := fun wx => Lib.run_eql_slice_nil (P := Try.prog) wx 22 9 none 0 0 0 0 Try.underlying22
  go_enter Try.func8, Try.ntmps8
  go_wp2_with fail
  go_ret
  exact ⟨rfl, rfl⟩

set_option maxHeartbeats 400000 in
theorem copy_some (a : Addr) (cap : Nat) (L : List ByteArray) (w : World) (hS : Strs w (some a) L) (hl : L.length ≤ 4096) :
    Calls Try.prog 8 #[.slice (some a) L.length cap] w fun e w' => GaveStrs w L e w' := by
  obtain ⟨i0, hi, hz0, hz1, hz2⟩ := info_parts info9
  have hn := fun wx => Lib.run_eql_slice_nil (P := Try.prog) wx 22 9 (some a) L.length cap 0 0 Try.underlying22
  go_enter Try.func8, Try.ntmps8
  go_wp2_with (at_make; refine wpList_make_full _ rfl _ _ 22 rfl w.heap.size 9 i0 _ 1 Try.underlying22 hi hz0 hz1 _ _ _ _ L.length rfl rfl rfl rfl (by rw [hz2]; omega) (by unfold maxLen; omega) (Nat.le_refl _) ?_)
  intro w1 hown hgrow
  rw [toList_madeCells_one] at hown
  have hb1 : Below w.heap.size w w1 := (Below.refl _ _).grown hgrow (Nat.le_refl _) (fun k h => by cases h)
  clear hgrow hn
  go_wp2_with fail
  go_loopw [4] (fun i wr => ∃ k : Nat, k ≤ L.length ∧ i = .int .i64 k ∧ wr.ownsRow w.heap.size 9 1 (.slice (some ⟨w.heap.size, 0, none⟩) L.length L.length) L.length (part L L.length k) ∧ Below w.heap.size w wr) (fun i _ => L.length - (intOf i).toNat)
  case atStart => exact ⟨0, Nat.zero_le _, rfl, by rw [part_zero]; exact hown, hb1⟩
  case round =>
    obtain ⟨k, hk, rfl, ho, hb⟩ := hrel
    clear hown hb1
    by_cases hlt : k < L.length
    · obtain ⟨b, off, ha, hc0⟩ := hS k hlt
      cases ha
      have hc := cell_later hb hc0
      obtain ⟨u, hu⟩ := part_some L k hlt
      have hcu : wr.cell? ⟨w.heap.size, k, none⟩ = some u := (ho.cellAt k (by omega)).trans hu
      have hfu := ho.frozenAt k
      have hst := fill_step (x := L[k]) rfl (List.getElem?_eq_getElem hlt) (Nat.le_refl _) ho hb
      have HST : Hid _ := hst
      clear hst ho hb hu hc0
      go_wp2_with fail
      go_roundw
      case rel => exact ⟨k + 1, by omega, by go_num, HST.out⟩
      case measure => simp [intOf]; omega
    · go_wp2_with fail
      go_ret
      have e : k = L.length := by omega
      subst e
      rw [part_all] at ho
      exact ⟨some _, L.length, rfl, fun h => (by cases h), strs_fixed ho, hb⟩

theorem copy_any (ao : Option Addr) (cap : Nat) (L : List ByteArray) (w : World) (hn : ao = none → L = [] ∧ cap = 0) (hS : Strs w ao L) (hl : L.length ≤ 4096) :
    Calls Try.prog 8 #[.slice ao L.length cap] w fun e w' => GaveStrs w L e w' := by
  cases ao with
  | some a => exact copy_some a cap L w hS hl
  | none =>
    obtain ⟨rfl, rfl⟩ := hn rfl
    refine (copy_nil w).mono ?_
    rintro e w' ⟨rfl, rfl⟩
    exact ⟨none, 0, rfl, fun _ => ⟨rfl, rfl⟩, hS, Below.refl _ _⟩

set_option maxHeartbeats 400000 in
theorem reversed_any (ao : Option Addr) (cap : Nat) (L : List ByteArray) (w : World) (hS : Strs w ao L) (hl : L.length ≤ 4096) :
    Calls Try.prog 11 #[.slice ao L.length cap] w fun e w' => GaveStrs w L.reverse e w' := by
  obtain ⟨i0, hi, hz0, hz1, hz2⟩ := info_parts info9
  have hrl : L.reverse.length = L.length := List.length_reverse
  have HR : Hid (L.reverse.length = L.length) := hrl
  clear hrl
  go_enter Try.func11, Try.ntmps11
  go_wp2_with (at_make; refine wpList_make_full _ rfl _ _ 22 rfl w.heap.size 9 i0 _ 1 Try.underlying22 hi hz0 hz1 _ _ _ _ L.length rfl rfl rfl rfl (by rw [hz2]; omega) (by unfold maxLen; omega) (Nat.le_refl _) ?_)
  intro w1 hown hgrow
  rw [toList_madeCells_one] at hown
  have hb1 : Below w.heap.size w w1 := (Below.refl _ _).grown hgrow (Nat.le_refl _) (fun k h => by cases h)
  clear hgrow
  go_wp2_with fail
  go_loopw [4] (fun i wr => ∃ k : Nat, k ≤ L.length ∧ i = .int .i64 k ∧ wr.ownsRow w.heap.size 9 1 (.slice (some ⟨w.heap.size, 0, none⟩) L.length L.length) L.length (part L.reverse L.length k) ∧ Below w.heap.size w wr) (fun i _ => L.length - (intOf i).toNat)
  case atStart => exact ⟨0, Nat.zero_le _, rfl, by rw [part_zero]; exact hown, hb1⟩
  case round =>
    obtain ⟨k, hk, rfl, ho, hb⟩ := hrel
    clear hown hb1
    by_cases hlt : k < L.length
    · obtain ⟨b, off, rfl, hc0⟩ := hS (L.length - 1 - k) (by omega)
      have hc := cell_later hb hc0
      have hst : (wr.setCell ⟨w.heap.size, k, none⟩ (.string L[L.length - 1 - k])).ownsRow w.heap.size 9 1 (.slice (some ⟨w.heap.size, 0, none⟩) L.length L.length) L.length (part L.reverse L.length (k + 1)) ∧
          Below w.heap.size w (wr.setCell ⟨w.heap.size, k, none⟩ (.string L[L.length - 1 - k])) := by
        exact fill_step (F := L.reverse) HR.out (by rw [List.getElem?_reverse hlt, List.getElem?_eq_getElem (by omega)]) (Nat.le_refl _) ho hb
      obtain ⟨u, hu⟩ : ∃ u, (part L.reverse L.length k)[k]? = some u := by
        have := part_some L.reverse k (by rw [HR.out]; exact hlt)
        rwa [HR.out] at this
      have hcu : wr.cell? ⟨w.heap.size, k, none⟩ = some u := (ho.cellAt k (by omega)).trans hu
      have hfu := ho.frozenAt k
      have HST : Hid _ := hst
      clear hst ho hb hu hc0
      go_wp2_with fail
      go_roundw
      case rel => exact ⟨k + 1, by omega, by go_num, HST.out⟩
      case measure => simp [intOf]; omega
    · go_wp2_with fail
      go_ret
      have e : k = L.length := by omega
      subst e
      have ho' : wr.ownsRow w.heap.size 9 1 (.slice (some ⟨w.heap.size, 0, none⟩) L.reverse.length L.length) L.reverse.length (L.reverse.map Value.string) := by
        rw [← part_all, HR.out]
        exact ho
      exact ⟨some _, L.length, by rw [HR.out]; rfl, fun h => (by cases h), strs_fixed ho', hb⟩
end Go.Proofs.Qxb6001205a
