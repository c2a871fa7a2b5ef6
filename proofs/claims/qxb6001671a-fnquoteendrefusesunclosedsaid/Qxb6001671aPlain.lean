/-
  PLAIN LAW: no Go in sight: a text with each quote byte doubled, and where its steps stand behind an opening quote.
-/
namespace Go.Proofs.Qxb6001671a.Plain

/-- The body with each q doubled. -/
def esc (q : UInt8) : List UInt8 → List UInt8
  | [] => []
  | b :: l => if b = q then b :: q :: esc q l else b :: esc q l

theorem esc_append (q : UInt8) : ∀ (a b : List UInt8), esc q (a ++ b) = esc q a ++ esc q b
  | [], _ => rfl
  | x :: a, b => by
    simp only [List.cons_append, esc, esc_append q a b]
    split <;> rfl

theorem esc_length (q : UInt8) : ∀ l : List UInt8, (esc q l).length ≤ 2 * l.length
  | [] => Nat.le_refl _
  | x :: l => by
    have := esc_length q l
    unfold esc
    split <;> simp <;> omega

theorem esc_take_eq (q : UInt8) (l : List UInt8) (k : Nat) (h : k < l.length) (he : l[k] = q) : esc q (l.take (k + 1)) = esc q (l.take k) ++ [l[k], q] := by
  rw [List.take_succ_eq_append_getElem h, esc_append]
  simp [esc, he]

theorem esc_take_ne (q : UInt8) (l : List UInt8) (k : Nat) (h : k < l.length) (he : l[k] ≠ q) : esc q (l.take (k + 1)) = esc q (l.take k) ++ [l[k]] := by
  rw [List.take_succ_eq_append_getElem h, esc_append]
  simp [esc, he]

/-- The whole text: a head, the opening quote, the body with each quote doubled. -/
def text (p : List UInt8) (q : UInt8) (l : List UInt8) : List UInt8 := p ++ [q] ++ esc q l

/-- Where the body's m-th byte stands in it. -/
def place (p : List UInt8) (q : UInt8) (l : List UInt8) (m : Nat) : Nat := p.length + 1 + (esc q (l.take m)).length

theorem place_zero (p : List UInt8) (q : UInt8) (l : List UInt8) : place p q l 0 = p.length + 1 := by simp [place, esc]

theorem text_length (p : List UInt8) (q : UInt8) (l : List UInt8) : (text p q l).length = place p q l l.length := by
  simp [place, text]
  omega

theorem text_quote (p : List UInt8) (q : UInt8) (l : List UInt8) : (text p q l)[p.length]? = some q := by
  simp [text]

/-- The text, cut where the body's m-th byte stands. -/
theorem text_cut (p : List UInt8) (q : UInt8) (l : List UInt8) (m : Nat) : text p q l = (p ++ [q] ++ esc q (l.take m)) ++ esc q (l.drop m) := by
  unfold text
  rw [List.append_assoc (p ++ [q]), ← esc_append, List.take_append_drop]

theorem place_cut (p : List UInt8) (q : UInt8) (l : List UInt8) (m : Nat) : place p q l m = (p ++ [q] ++ esc q (l.take m)).length := by simp [place]; omega

/-- ONE STEP: a byte that is no quote stands alone; a quote stands twice. -/
theorem step (p : List UInt8) (q : UInt8) (l : List UInt8) (m : Nat) (h : m < l.length) :
    (∃ b, (text p q l)[place p q l m]? = some b ∧ b ≠ q ∧ place p q l (m + 1) = place p q l m + 1) ∨
    ((text p q l)[place p q l m]? = some q ∧ (text p q l)[place p q l m + 1]? = some q ∧ place p q l (m + 1) = place p q l m + 2) := by
  have hd : l.drop m = l[m] :: l.drop (m + 1) := (List.getElem_cons_drop h).symm
  by_cases he : l[m] = q
  · right
    have e : esc q (l.drop m) = q :: q :: esc q (l.drop (m + 1)) := by
      rw [hd]
      simp [esc, he]
    refine ⟨?_, ?_, ?_⟩
    · rw [text_cut p q l m, place_cut, e]
      simp
    · rw [text_cut p q l m, place_cut, e, List.getElem?_append_right (by omega)]
      simp
    · unfold place
      rw [esc_take_eq q l m h he]
      simp
      omega
  · left
    have e : esc q (l.drop m) = l[m] :: esc q (l.drop (m + 1)) := by
      rw [hd]
      simp [esc, he]
    refine ⟨l[m], ?_, he, ?_⟩
    · rw [text_cut p q l m, place_cut, e]
      simp
    · unfold place
      rw [esc_take_ne q l m h he]
      simp
      omega

end Go.Proofs.Qxb6001671a.Plain
