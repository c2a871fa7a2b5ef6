/-
  No cell of these rows narrows 'for every input' (looked for: loops, veiled, ifaces, maps, wideKeys, modest, calm, conditions, laid).
  DERIVED. THE GIVEN ROWS OF THIS SEAT. 2 by the template 'for every input the law returns true; each argument reads behind the call as it read before'; 0 by the template 'total and deterministic' (their statements: Qxb6000887aTotals.lean).
  GIVEN WITH THE SEED: the statements are not yours to turn. If you find one false, say at which input.
  Laid BY PROGRAM, IN A SANDBOX (cutbox-rows.mjs): the forced cells as the released guide's own fill.sh prints them over the translation 6bea03520f54c0a3… (all of the seat's roots in one cut). By AI agents, Wed Nov 11 2026. No macro, syntax, notation, axiom, sorry.
-/
import Derived.Test.Qxb6000887aChecked
import GoSem.Claim
import GoSem.ClaimJoined
import GoSem.ClaimMapViews
import Derived.JoinedTies
import Derived.KernelRfl
namespace Go.Proofs.Qxb6000887a
/- THE CELL 'sum', in the pinned program and in every row, IS THE sha256 OF THE DUMP (.gsa) THAT Qxb6000887aProg.lean LOADS. Nothing in Lean hashes anything: it is a label: what it is worth is what the hold of that sum in a sandbox is worth. -/
noncomputable def Try.pinned : Pinned := { name := "qxb6000887a", sum := "6bea03520f54c0a3ffb40d3419168e15fa4e93637048f442f247c803481e418f", checked := Try.checked }
namespace Rows
def none {H : Type} : Left H := { results := [], args := [] }

/-- 'zzlaws_money_b1.FnIsDigitsSplitsOverConcatenation': WHATEVER THE INPUT: true; the input reads as it did. -/
def fnIsDigitsSplitsOverConcatenationSpec : ChangeSpec := { name := "fnIsDigitsSplitsOverConcatenation", fn := fun _ => fun
  | [d1, d2] => { results := [.lit (.bool true)], args := [d1, d2] }
  | _ => none }
def fnIsDigitsSplitsOverConcatenationRow : OpenClaim := { program := "qxb6000887a", sum := "6bea03520f54c0a3ffb40d3419168e15fa4e93637048f442f247c803481e418f", func := "example.com/loadstone/loadstone/zzlaws_money_b1.FnIsDigitsSplitsOverConcatenation", spec := "fnIsDigitsSplitsOverConcatenation", apart := false }
def FnIsDigitsSplitsOverConcatenationSaid : Prop := fnIsDigitsSplitsOverConcatenationRow.holds Try.pinned (OpenSpec.ofChange fnIsDigitsSplitsOverConcatenationSpec)

/-- ITS FALSE NEIGHBOUR: 'it returns false'. Refute it at one input. -/
def fnIsDigitsSplitsOverConcatenationWrong : ChangeSpec := { name := "fnIsDigitsSplitsOverConcatenation", fn := fun _ => fun
  | [d1, d2] => { results := [.lit (.bool false)], args := [d1, d2] }
  | _ => none }
def FnIsDigitsSplitsOverConcatenationWrongFalsely : Prop := fnIsDigitsSplitsOverConcatenationRow.holds Try.pinned (OpenSpec.ofChange fnIsDigitsSplitsOverConcatenationWrong)

/-- 'zzlaws_money_b1.FnIsDigitsRefusesEveryStrayByte': WHATEVER THE INPUT: true; the input reads as it did. -/
def fnIsDigitsRefusesEveryStrayByteSpec : ChangeSpec := { name := "fnIsDigitsRefusesEveryStrayByte", fn := fun _ => fun
  | [d1, d2, d3] => { results := [.lit (.bool true)], args := [d1, d2, d3] }
  | _ => none }
def fnIsDigitsRefusesEveryStrayByteRow : OpenClaim := { program := "qxb6000887a", sum := "6bea03520f54c0a3ffb40d3419168e15fa4e93637048f442f247c803481e418f", func := "example.com/loadstone/loadstone/zzlaws_money_b1.FnIsDigitsRefusesEveryStrayByte", spec := "fnIsDigitsRefusesEveryStrayByte", apart := false }
def FnIsDigitsRefusesEveryStrayByteSaid : Prop := fnIsDigitsRefusesEveryStrayByteRow.holds Try.pinned (OpenSpec.ofChange fnIsDigitsRefusesEveryStrayByteSpec)

/-- ITS FALSE NEIGHBOUR: 'it returns false'. Refute it at one input. -/
def fnIsDigitsRefusesEveryStrayByteWrong : ChangeSpec := { name := "fnIsDigitsRefusesEveryStrayByte", fn := fun _ => fun
  | [d1, d2, d3] => { results := [.lit (.bool false)], args := [d1, d2, d3] }
  | _ => none }
def FnIsDigitsRefusesEveryStrayByteWrongFalsely : Prop := fnIsDigitsRefusesEveryStrayByteRow.holds Try.pinned (OpenSpec.ofChange fnIsDigitsRefusesEveryStrayByteWrong)

end Rows
end Go.Proofs.Qxb6000887a
