/-
  HOW A SLICE OF STRINGS, AND A SLICE OF CANDIDATES (two strings each), LIES IN MEMORY; nothing of the dump.
-/
import Derived.WalkKit
namespace Go.Proofs.Qxb6001205a
open Go.RowKit

/-- The slice at 'ao' reads as the strings L. -/
def Strs (w : World) (ao : Option Addr) (L : List ByteArray) : Prop :=
  ∀ i (h : i < L.length), ∃ b off, ao = some ⟨b, off, none⟩ ∧ w.cell? ⟨b, off + i, none⟩ = some (.string L[i])

/-- The slice at 'ao' reads as the candidates C: two cells each. -/
def Cands (w : World) (ao : Option Addr) (C : List (ByteArray × ByteArray)) : Prop :=
  ∀ i (h : i < C.length), ∃ b off, ao = some ⟨b, off, none⟩ ∧ w.cell? ⟨b, off + i * 2, none⟩ = some (.string C[i].1) ∧ w.cell? ⟨b, off + i * 2 + 1, none⟩ = some (.string C[i].2)

theorem cell_later {w wx : World} {a : Addr} {v : Value} (hb : Below w.heap.size w wx) (h : w.cell? a = some v) : wx.cell? a = some v := (hb.cell (World.block_lt_of_cell? _ _ h)).trans h

theorem Strs.later {w wx : World} {ao : Option Addr} {L : List ByteArray} (h : Strs w ao L) (hb : Below w.heap.size w wx) : Strs wx ao L := fun i hi => by
  obtain ⟨b, off, rfl, hc⟩ := h i hi
  exact ⟨b, off, rfl, cell_later hb hc⟩

theorem Cands.later {w wx : World} {ao : Option Addr} {C : List (ByteArray × ByteArray)} (h : Cands w ao C) (hb : Below w.heap.size w wx) : Cands wx ao C := fun i hi => by
  obtain ⟨b, off, rfl, h1, h2⟩ := h i hi
  exact ⟨b, off, rfl, cell_later hb h1, cell_later hb h2⟩

/-- The cells of candidates. -/
def pairCells (C : List (ByteArray × ByteArray)) : List Value := C.flatMap fun c => [.string c.1, .string c.2]

theorem pairCells_length (C : List (ByteArray × ByteArray)) : (pairCells C).length = C.length * 2 := by
  induction C with
  | nil => rfl
  | cons c C ih => simp [pairCells] at ih ⊢; omega

theorem pairCells_snoc (C : List (ByteArray × ByteArray)) (c : ByteArray × ByteArray) : pairCells (C ++ [c]) = pairCells C ++ [.string c.1, .string c.2] := by simp [pairCells]

theorem pairCells_at (C : List (ByteArray × ByteArray)) : ∀ i (h : i < C.length), (pairCells C)[i * 2]? = some (.string C[i].1) ∧ (pairCells C)[i * 2 + 1]? = some (.string C[i].2) := by
  induction C with
  | nil => intro i h; simp at h
  | cons c C ih =>
    intro i h
    cases i with
    | zero => exact ⟨rfl, rfl⟩
    | succ i =>
      have := ih i (by simpa using h)
      have e1 : (i + 1) * 2 = i * 2 + 2 := by omega
      rw [e1]
      have e2 : i * 2 + 2 + 1 = i * 2 + 1 + 2 := by omega
      rw [e2]
      exact this

theorem strs_of_owns {w : World} {base e : Nat} {v : Value} {L : List ByteArray} (h : w.ownsRow base e 1 v L.length (L.map Value.string)) :
    ∃ ao cap, v = .slice ao L.length cap ∧ Strs w ao L := by
  rcases h.2 with ⟨rfl, h0⟩ | ⟨g, cap, cur, rfl, _⟩
  · refine ⟨none, 0, by rw [h0], fun i hi => by omega⟩
  · refine ⟨_, cap, rfl, fun i hi => ⟨g, 0, rfl, ?_⟩⟩
    rw [Nat.zero_add, h.cellAt i (by omega)]
    simp [hi]

theorem strs_fixed {w : World} {base e g cap : Nat} {L : List ByteArray} (h : w.ownsRow base e 1 (.slice (some ⟨g, 0, none⟩) L.length cap) L.length (L.map Value.string)) : Strs w (some ⟨g, 0, none⟩) L :=
  fun i hi => ⟨g, 0, rfl, by rw [Nat.zero_add, h.cellAt i (by omega)]; simp [hi]⟩

theorem cands_of_owns {w : World} {base e : Nat} {v : Value} {C : List (ByteArray × ByteArray)} (h : w.ownsRow base e 2 v C.length (pairCells C)) :
    ∃ ao cap, v = .slice ao C.length cap ∧ Cands w ao C := by
  rcases h.2 with ⟨rfl, h0⟩ | ⟨g, cap, cur, rfl, _⟩
  · refine ⟨none, 0, by rw [h0], fun i hi => by omega⟩
  · refine ⟨_, cap, rfl, fun i hi => ⟨g, 0, rfl, ?_, ?_⟩⟩
    · rw [Nat.zero_add, h.cellAt (i * 2) (by omega)]
      exact (pairCells_at C i hi).1
    · rw [Nat.zero_add, h.cellAt (i * 2 + 1) (by omega)]
      exact (pairCells_at C i hi).2

end Go.Proofs.Qxb6001205a
