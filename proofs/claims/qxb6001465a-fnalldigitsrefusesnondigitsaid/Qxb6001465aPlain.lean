/-
  PLAIN LAW: no Go in sight: what 'allDigits' computes, and that a list with a stray byte in it is refused.
-/
namespace Go.Proofs.Qxb6001465a.Plain

/-- A byte between 48 and 57. -/
def digB (c : UInt8) : Bool := decide (48 ≤ c.toNat) && decide (c.toNat ≤ 57)

/-- What 'allDigits' answers. -/
def isDig (l : List UInt8) : Bool := !l.isEmpty && l.all digB

theorem all_take_succ (l : List UInt8) (k : Nat) (h : k < l.length) (ha : (l.take k).all digB = true) (hd : digB l[k] = true) : (l.take (k + 1)).all digB = true := by
  rw [List.take_succ_eq_append_getElem h, List.all_append, ha]
  simp [hd]

theorem isDig_false_at (l : List UInt8) (k : Nat) (h : k < l.length) (hd : digB l[k] = false) : isDig l = false := by
  have hx : l.all digB = false := by
    rw [List.all_eq_false]
    exact ⟨l[k], List.getElem_mem h, by simp [hd]⟩
  simp [isDig, hx]

theorem isDig_true (l : List UInt8) (h : 0 < l.length) (ha : (l.take l.length).all digB = true) : isDig l = true := by
  have hne : l.isEmpty = false := by
    cases l with
    | nil => simp at h
    | cons a b => rfl
  rw [List.take_length] at ha
  simp [isDig, hne, ha]

/-- THE LAW: a stray byte in the middle. -/
theorem isDig_stray (a b : List UInt8) (c : UInt8) (hd : digB c = false) : isDig (a ++ [c] ++ b) = false := by
  have hx : (a ++ [c] ++ b).all digB = false := by
    rw [List.all_eq_false]
    exact ⟨c, by simp, by simp [hd]⟩
  unfold isDig
  rw [hx, Bool.and_false]

end Go.Proofs.Qxb6001465a.Plain
