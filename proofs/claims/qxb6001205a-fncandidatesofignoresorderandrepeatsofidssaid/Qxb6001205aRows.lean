/-
  No cell of these rows narrows 'for every input' (looked for: loops, veiled, ifaces, maps, wideKeys, modest, calm, conditions, laid).
  DERIVED. THE GIVEN ROWS OF THIS SEAT. 3 by the template 'for every input the law returns true; each argument reads behind the call as it read before'; 0 by the template 'total and deterministic' (their statements: Qxb6001205aTotals.lean).
  GIVEN WITH THE SEED: the statements are not yours to turn. If you find one false, say at which input.
  Laid BY PROGRAM, IN A SANDBOX (cutbox-rows.mjs): the forced cells as the released guide's own fill.sh prints them over the translation 8f0e1db535ecdfaa… (all of the seat's roots in one cut). By AI agents, Wed Nov 11 2026. No macro, syntax, notation, axiom, sorry.
-/
import Derived.Test.Qxb6001205aChecked
import GoSem.Claim
import GoSem.ClaimJoined
import GoSem.ClaimMapViews
import Derived.JoinedTies
import Derived.KernelRfl
namespace Go.Proofs.Qxb6001205a
/- THE CELL 'sum', in the pinned program and in every row, IS THE sha256 OF THE DUMP (.gsa) THAT Qxb6001205aProg.lean LOADS. Nothing in Lean hashes anything: it is a label: what it is worth is what the hold of that sum in a sandbox is worth. -/
noncomputable def Try.pinned : Pinned := { name := "qxb6001205a", sum := "8f0e1db535ecdfaa5deb84b28944e66b021fd3fd15ac015fb6e4d5acf4fafb3b", checked := Try.checked }
namespace Rows
def none {H : Type} : Left H := { results := [], args := [] }

/-- 'zzlaws_pkg_tally_b1.FnCandidatesOfIgnoresOrderAndRepeatsOfIds': WHATEVER THE INPUT: true; the input reads as it did. -/
def fnCandidatesOfIgnoresOrderAndRepeatsOfIdsSpec : ChangeSpec := { name := "fnCandidatesOfIgnoresOrderAndRepeatsOfIds", fn := fun _ => fun
  | [d1, d2, d3] => { results := [.lit (.bool true)], args := [d1, d2, d3] }
  | _ => none }
def fnCandidatesOfIgnoresOrderAndRepeatsOfIdsRow : OpenClaim := { program := "qxb6001205a", sum := "8f0e1db535ecdfaa5deb84b28944e66b021fd3fd15ac015fb6e4d5acf4fafb3b", func := "example.com/tallyseat/tallyseat/zzlaws_pkg_tally_b1.FnCandidatesOfIgnoresOrderAndRepeatsOfIds", spec := "fnCandidatesOfIgnoresOrderAndRepeatsOfIds", apart := false }
def FnCandidatesOfIgnoresOrderAndRepeatsOfIdsSaid : Prop := fnCandidatesOfIgnoresOrderAndRepeatsOfIdsRow.holds Try.pinned (OpenSpec.ofChange fnCandidatesOfIgnoresOrderAndRepeatsOfIdsSpec)

/-- ITS FALSE NEIGHBOUR: 'it returns false'. Refute it at one input. -/
def fnCandidatesOfIgnoresOrderAndRepeatsOfIdsWrong : ChangeSpec := { name := "fnCandidatesOfIgnoresOrderAndRepeatsOfIds", fn := fun _ => fun
  | [d1, d2, d3] => { results := [.lit (.bool false)], args := [d1, d2, d3] }
  | _ => none }
def FnCandidatesOfIgnoresOrderAndRepeatsOfIdsWrongFalsely : Prop := fnCandidatesOfIgnoresOrderAndRepeatsOfIdsRow.holds Try.pinned (OpenSpec.ofChange fnCandidatesOfIgnoresOrderAndRepeatsOfIdsWrong)

/-- 'zzlaws_pkg_tally_b1.FnCandidatesOfIsTheOrderedSelectionAndIdempotent': WHATEVER THE INPUT: true; the input reads as it did. -/
def fnCandidatesOfIsTheOrderedSelectionAndIdempotentSpec : ChangeSpec := { name := "fnCandidatesOfIsTheOrderedSelectionAndIdempotent", fn := fun _ => fun
  | [d1, d2, d3] => { results := [.lit (.bool true)], args := [d1, d2, d3] }
  | _ => none }
def fnCandidatesOfIsTheOrderedSelectionAndIdempotentRow : OpenClaim := { program := "qxb6001205a", sum := "8f0e1db535ecdfaa5deb84b28944e66b021fd3fd15ac015fb6e4d5acf4fafb3b", func := "example.com/tallyseat/tallyseat/zzlaws_pkg_tally_b1.FnCandidatesOfIsTheOrderedSelectionAndIdempotent", spec := "fnCandidatesOfIsTheOrderedSelectionAndIdempotent", apart := false }
def FnCandidatesOfIsTheOrderedSelectionAndIdempotentSaid : Prop := fnCandidatesOfIsTheOrderedSelectionAndIdempotentRow.holds Try.pinned (OpenSpec.ofChange fnCandidatesOfIsTheOrderedSelectionAndIdempotentSpec)

/-- ITS FALSE NEIGHBOUR: 'it returns false'. Refute it at one input. -/
def fnCandidatesOfIsTheOrderedSelectionAndIdempotentWrong : ChangeSpec := { name := "fnCandidatesOfIsTheOrderedSelectionAndIdempotent", fn := fun _ => fun
  | [d1, d2, d3] => { results := [.lit (.bool false)], args := [d1, d2, d3] }
  | _ => none }
def FnCandidatesOfIsTheOrderedSelectionAndIdempotentWrongFalsely : Prop := fnCandidatesOfIsTheOrderedSelectionAndIdempotentRow.holds Try.pinned (OpenSpec.ofChange fnCandidatesOfIsTheOrderedSelectionAndIdempotentWrong)

/-- 'zzlaws_pkg_tally_b1.FnCandidatesOfAllIdsGiveTheWholeListNoneGiveAnEmptyOne': WHATEVER THE INPUT: true; the input reads as it did. -/
def fnCandidatesOfAllIdsGiveTheWholeListNoneGiveAnEmptyOneSpec : ChangeSpec := { name := "fnCandidatesOfAllIdsGiveTheWholeListNoneGiveAnEmptyOne", fn := fun _ => fun
  | [d1, d2] => { results := [.lit (.bool true)], args := [d1, d2] }
  | _ => none }
def fnCandidatesOfAllIdsGiveTheWholeListNoneGiveAnEmptyOneRow : OpenClaim := { program := "qxb6001205a", sum := "8f0e1db535ecdfaa5deb84b28944e66b021fd3fd15ac015fb6e4d5acf4fafb3b", func := "example.com/tallyseat/tallyseat/zzlaws_pkg_tally_b1.FnCandidatesOfAllIdsGiveTheWholeListNoneGiveAnEmptyOne", spec := "fnCandidatesOfAllIdsGiveTheWholeListNoneGiveAnEmptyOne", apart := false }
def FnCandidatesOfAllIdsGiveTheWholeListNoneGiveAnEmptyOneSaid : Prop := fnCandidatesOfAllIdsGiveTheWholeListNoneGiveAnEmptyOneRow.holds Try.pinned (OpenSpec.ofChange fnCandidatesOfAllIdsGiveTheWholeListNoneGiveAnEmptyOneSpec)

/-- ITS FALSE NEIGHBOUR: 'it returns false'. Refute it at one input. -/
def fnCandidatesOfAllIdsGiveTheWholeListNoneGiveAnEmptyOneWrong : ChangeSpec := { name := "fnCandidatesOfAllIdsGiveTheWholeListNoneGiveAnEmptyOne", fn := fun _ => fun
  | [d1, d2] => { results := [.lit (.bool false)], args := [d1, d2] }
  | _ => none }
def FnCandidatesOfAllIdsGiveTheWholeListNoneGiveAnEmptyOneWrongFalsely : Prop := fnCandidatesOfAllIdsGiveTheWholeListNoneGiveAnEmptyOneRow.holds Try.pinned (OpenSpec.ofChange fnCandidatesOfAllIdsGiveTheWholeListNoneGiveAnEmptyOneWrong)

end Rows
end Go.Proofs.Qxb6001205a
