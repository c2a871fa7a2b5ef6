/-
  THE ROW's CLOSED FACTS, A LEMMA EACH. Three of them read the signs of the dump's own head word (some thousand signs): over the string itself the kernel outgrows its lid (10 GB, 80 s each); over the list of its signs ('String.toList_ofList') each takes a second.
-/
import Derived.Test.Qxb6001671aRows
import Derived.JoinedOf
import Derived.KernelRfl
namespace Go.Proofs.Qxb6001671a.Facts

theorem and_mk {a b : Bool} (ha : a = true) (hb : b = true) : (a && b) = true := by rw [ha, hb]; rfl

theorem beq_right {α : Type} [BEq α] {a x b : α} (h : x = b) (h2 : (a == b) = true) : (a == x) = true := by rw [h]; exact h2

theorem beq_left {α : Type} [BEq α] {a x b : α} (h : x = b) (h2 : (b == a) = true) : (x == a) = true := by rw [h]; exact h2

def mayAt (P : Program) (l : List Char) : { b : Bool // P.initOrder.toList = l → P.mayEnter = b } := ⟨_, fun h => by unfold Program.mayEnter; rw [h]⟩
def finAt (P : Program) (l : List Char) : { b : Bool // P.initOrder.toList = l → P.liftsFinal = b } := ⟨_, fun h => by unfold Program.liftsFinal Program.headLifts; rw [h]⟩
def makeAt (P : Program) (l : List Char) : { b : Option Make // P.initOrder.toList = l → P.make = b } := ⟨_, fun h => by unfold Program.make Program.headLifts; rw [h]⟩

set_option maxRecDepth 100000 in
theorem enters : Try.pinned.checked.prog.mayEnter = true := by
  have io : Try.pinned.checked.prog.initOrder.toList = _ := String.toList_ofList
  exact ((mayAt _ _).2 io).trans (by as_aux_lemma => kernel_rfl)

set_option maxRecDepth 100000 in
theorem lifts : (Rows.fnQuoteEndRefusesUnclosedRow.lifted == Try.pinned.checked.prog.liftsFinal) = true := by
  have io : Try.pinned.checked.prog.initOrder.toList = _ := String.toList_ofList
  exact beq_right ((finAt _ _).2 io) (by as_aux_lemma => kernel_rfl)

set_option maxRecDepth 100000 in
theorem makes : (Try.pinned.checked.prog.make == some Rows.fnQuoteEndRefusesUnclosedRow.make) = true := by
  have io : Try.pinned.checked.prog.initOrder.toList = _ := String.toList_ofList
  exact beq_left ((makeAt _ _).2 io) (by as_aux_lemma => kernel_rfl)

theorem closed : joinedFacts Try.pinned.checked.prog 6 Try.f6 Rows.fnQuoteEndRefusesUnclosedSpec Rows.fnQuoteEndRefusesUnclosedRow = true := by
  unfold joinedFacts
  repeat (refine and_mk ?_ ?_)
  all_goals with_reducible first | exact enters | exact lifts | exact makes | as_aux_lemma => kernel_rfl

theorem named : Try.pinned.checked.prog.funcNamed Rows.fnQuoteEndRefusesUnclosedRow.func = some 6 := by kernel_rfl

theorem inst : Try.f6.isInstance Try.pinned.checked.prog Rows.fnQuoteEndRefusesUnclosedRow.origin Rows.fnQuoteEndRefusesUnclosedRow.targs := of_decide_eq_true (by kernel_rfl)

theorem wrapped : Try.f6.isWrapper Try.pinned.checked.prog Rows.fnQuoteEndRefusesUnclosedRow.wrapper Rows.fnQuoteEndRefusesUnclosedRow.mainSum := by
  unfold Func.isWrapper
  first | (rw [if_pos (by decide +kernel)]; kernel_rfl) | (rw [if_neg (by decide +kernel)]; exact ⟨rfl, rfl⟩)
end Go.Proofs.Qxb6001671a.Facts
