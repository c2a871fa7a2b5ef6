/-
  No cell of these rows narrows 'for every input' (looked for: loops, veiled, ifaces, maps, wideKeys, modest, calm, conditions, laid).
  DERIVED. THE GIVEN ROWS OF THIS SEAT. 10 by the template 'for every input the law returns true; each argument reads behind the call as it read before'; 0 by the template 'total and deterministic' (their statements: Qxb6001671aTotals.lean).
  GIVEN WITH THE SEED: the statements are not yours to turn. If you find one false, say at which input.
  Laid BY PROGRAM, IN A SANDBOX (cutbox-rows.mjs): the forced cells as the released guide's own fill.sh prints them over the translation 3812a4e12e86a62c… (all of the seat's roots in one cut). By AI agents, Wed Nov 11 2026. No macro, syntax, notation, axiom, sorry.
-/
import Derived.Test.Qxb6001671aChecked
import GoSem.Claim
import GoSem.ClaimJoined
import GoSem.ClaimMapViews
import Derived.JoinedTies
import Derived.KernelRfl
namespace Go.Proofs.Qxb6001671a
/- THE CELL 'sum', in the pinned program and in every row, IS THE sha256 OF THE DUMP (.gsa) THAT Qxb6001671aProg.lean LOADS. Nothing in Lean hashes anything: it is a label: what it is worth is what the hold of that sum in a sandbox is worth. -/
noncomputable def Try.pinned : Pinned := { name := "qxb6001671a", sum := "3812a4e12e86a62cc5a5c65346a76923e0af3a6823dbc7d1ec6b87336972df20", checked := Try.checked }
namespace Rows
def none {H : Type} : Left H := { results := [], args := [] }

/-- 'zzlaws_internal_script_g1.FnSessionNameIgnoresWhatFollowsItsEnd': WHATEVER THE INPUT: true; the input reads as it did. -/
def fnSessionNameIgnoresWhatFollowsItsEndSpec : ChangeSpec := { name := "fnSessionNameIgnoresWhatFollowsItsEnd", fn := fun _ => fun
  | [d1, d2] => { results := [.lit (.bool true)], args := [d1, d2] }
  | _ => none }
def fnSessionNameIgnoresWhatFollowsItsEndRow : OpenClaim := { program := "qxb6001671a", sum := "3812a4e12e86a62cc5a5c65346a76923e0af3a6823dbc7d1ec6b87336972df20", func := "example.com/chronorow/chronorow/zzlaws_internal_script_g1.FnSessionNameIgnoresWhatFollowsItsEnd", spec := "fnSessionNameIgnoresWhatFollowsItsEnd", apart := false }
def FnSessionNameIgnoresWhatFollowsItsEndSaid : Prop := fnSessionNameIgnoresWhatFollowsItsEndRow.holds Try.pinned (OpenSpec.ofChange fnSessionNameIgnoresWhatFollowsItsEndSpec)

/-- ITS FALSE NEIGHBOUR: 'it returns false'. Refute it at one input. -/
def fnSessionNameIgnoresWhatFollowsItsEndWrong : ChangeSpec := { name := "fnSessionNameIgnoresWhatFollowsItsEnd", fn := fun _ => fun
  | [d1, d2] => { results := [.lit (.bool false)], args := [d1, d2] }
  | _ => none }
def FnSessionNameIgnoresWhatFollowsItsEndWrongFalsely : Prop := fnSessionNameIgnoresWhatFollowsItsEndRow.holds Try.pinned (OpenSpec.ofChange fnSessionNameIgnoresWhatFollowsItsEndWrong)

/-- 'zzlaws_internal_sqlparse_g1.FnIsReservedExactlyKeywords': WHATEVER THE INPUT: true; the input reads as it did. -/
def fnIsReservedExactlyKeywordsSpec : ChangeSpec := { name := "fnIsReservedExactlyKeywords", fn := fun _ => fun
  | [d] => { results := [.lit (.bool true)], args := [d] }
  | _ => none }
def fnIsReservedExactlyKeywordsRow : OpenClaim := { program := "qxb6001671a", sum := "3812a4e12e86a62cc5a5c65346a76923e0af3a6823dbc7d1ec6b87336972df20", func := "example.com/chronorow/chronorow/zzlaws_internal_sqlparse_g1.FnIsReservedExactlyKeywords", spec := "fnIsReservedExactlyKeywords", apart := false }
def FnIsReservedExactlyKeywordsSaid : Prop := fnIsReservedExactlyKeywordsRow.holds Try.pinned (OpenSpec.ofChange fnIsReservedExactlyKeywordsSpec)

/-- ITS FALSE NEIGHBOUR: 'it returns false'. Refute it at one input. -/
def fnIsReservedExactlyKeywordsWrong : ChangeSpec := { name := "fnIsReservedExactlyKeywords", fn := fun _ => fun
  | [d] => { results := [.lit (.bool false)], args := [d] }
  | _ => none }
def FnIsReservedExactlyKeywordsWrongFalsely : Prop := fnIsReservedExactlyKeywordsRow.holds Try.pinned (OpenSpec.ofChange fnIsReservedExactlyKeywordsWrong)

/-- 'zzlaws_internal_sqlparse_g1.FnQuoteEndFindsClosingQuote': WHATEVER THE INPUT: true; the input reads as it did. -/
def fnQuoteEndFindsClosingQuoteSpec : ChangeSpec := { name := "fnQuoteEndFindsClosingQuote", fn := fun _ => fun
  | [d1, d2, d3, d4] => { results := [.lit (.bool true)], args := [d1, d2, d3, d4] }
  | _ => none }
def fnQuoteEndFindsClosingQuoteRow : OpenClaim := { program := "qxb6001671a", sum := "3812a4e12e86a62cc5a5c65346a76923e0af3a6823dbc7d1ec6b87336972df20", func := "example.com/chronorow/chronorow/zzlaws_internal_sqlparse_g1.FnQuoteEndFindsClosingQuote", spec := "fnQuoteEndFindsClosingQuote", apart := false }
def FnQuoteEndFindsClosingQuoteSaid : Prop := fnQuoteEndFindsClosingQuoteRow.holds Try.pinned (OpenSpec.ofChange fnQuoteEndFindsClosingQuoteSpec)

/-- ITS FALSE NEIGHBOUR: 'it returns false'. Refute it at one input. -/
def fnQuoteEndFindsClosingQuoteWrong : ChangeSpec := { name := "fnQuoteEndFindsClosingQuote", fn := fun _ => fun
  | [d1, d2, d3, d4] => { results := [.lit (.bool false)], args := [d1, d2, d3, d4] }
  | _ => none }
def FnQuoteEndFindsClosingQuoteWrongFalsely : Prop := fnQuoteEndFindsClosingQuoteRow.holds Try.pinned (OpenSpec.ofChange fnQuoteEndFindsClosingQuoteWrong)

/-- 'zzlaws_internal_sqlparse_g1.FnQuoteEndRefusesUnclosed': WHATEVER THE INPUT: true; the input reads as it did. -/
def fnQuoteEndRefusesUnclosedSpec : ChangeSpec := { name := "fnQuoteEndRefusesUnclosed", fn := fun _ => fun
  | [d1, d2, d3] => { results := [.lit (.bool true)], args := [d1, d2, d3] }
  | _ => none }
def fnQuoteEndRefusesUnclosedRow : OpenClaim := { program := "qxb6001671a", sum := "3812a4e12e86a62cc5a5c65346a76923e0af3a6823dbc7d1ec6b87336972df20", func := "example.com/chronorow/chronorow/zzlaws_internal_sqlparse_g1.FnQuoteEndRefusesUnclosed", spec := "fnQuoteEndRefusesUnclosed", apart := false }
def FnQuoteEndRefusesUnclosedSaid : Prop := fnQuoteEndRefusesUnclosedRow.holds Try.pinned (OpenSpec.ofChange fnQuoteEndRefusesUnclosedSpec)

/-- ITS FALSE NEIGHBOUR: 'it returns false'. Refute it at one input. -/
def fnQuoteEndRefusesUnclosedWrong : ChangeSpec := { name := "fnQuoteEndRefusesUnclosed", fn := fun _ => fun
  | [d1, d2, d3] => { results := [.lit (.bool false)], args := [d1, d2, d3] }
  | _ => none }
def FnQuoteEndRefusesUnclosedWrongFalsely : Prop := fnQuoteEndRefusesUnclosedRow.holds Try.pinned (OpenSpec.ofChange fnQuoteEndRefusesUnclosedWrong)

/-- 'zzlaws_internal_sqlparse_g1.FnIsPairAgreesWithComparison': WHATEVER THE INPUT: true; the input reads as it did. -/
def fnIsPairAgreesWithComparisonSpec : ChangeSpec := { name := "fnIsPairAgreesWithComparison", fn := fun _ => fun
  | [d] => { results := [.lit (.bool true)], args := [d] }
  | _ => none }
def fnIsPairAgreesWithComparisonRow : OpenClaim := { program := "qxb6001671a", sum := "3812a4e12e86a62cc5a5c65346a76923e0af3a6823dbc7d1ec6b87336972df20", func := "example.com/chronorow/chronorow/zzlaws_internal_sqlparse_g1.FnIsPairAgreesWithComparison", spec := "fnIsPairAgreesWithComparison", apart := false }
def FnIsPairAgreesWithComparisonSaid : Prop := fnIsPairAgreesWithComparisonRow.holds Try.pinned (OpenSpec.ofChange fnIsPairAgreesWithComparisonSpec)

/-- ITS FALSE NEIGHBOUR: 'it returns false'. Refute it at one input. -/
def fnIsPairAgreesWithComparisonWrong : ChangeSpec := { name := "fnIsPairAgreesWithComparison", fn := fun _ => fun
  | [d] => { results := [.lit (.bool false)], args := [d] }
  | _ => none }
def FnIsPairAgreesWithComparisonWrongFalsely : Prop := fnIsPairAgreesWithComparisonRow.holds Try.pinned (OpenSpec.ofChange fnIsPairAgreesWithComparisonWrong)

/-- 'zzlaws_internal_sqlparse_g1.FnOperatorReadingsAreCanonicalAndDisjoint': WHATEVER THE INPUT: true; the input reads as it did. -/
def fnOperatorReadingsAreCanonicalAndDisjointSpec : ChangeSpec := { name := "fnOperatorReadingsAreCanonicalAndDisjoint", fn := fun _ => fun
  | [d1, d2] => { results := [.lit (.bool true)], args := [d1, d2] }
  | _ => none }
def fnOperatorReadingsAreCanonicalAndDisjointRow : OpenClaim := { program := "qxb6001671a", sum := "3812a4e12e86a62cc5a5c65346a76923e0af3a6823dbc7d1ec6b87336972df20", func := "example.com/chronorow/chronorow/zzlaws_internal_sqlparse_g1.FnOperatorReadingsAreCanonicalAndDisjoint", spec := "fnOperatorReadingsAreCanonicalAndDisjoint", apart := false }
def FnOperatorReadingsAreCanonicalAndDisjointSaid : Prop := fnOperatorReadingsAreCanonicalAndDisjointRow.holds Try.pinned (OpenSpec.ofChange fnOperatorReadingsAreCanonicalAndDisjointSpec)

/-- ITS FALSE NEIGHBOUR: 'it returns false'. Refute it at one input. -/
def fnOperatorReadingsAreCanonicalAndDisjointWrong : ChangeSpec := { name := "fnOperatorReadingsAreCanonicalAndDisjoint", fn := fun _ => fun
  | [d1, d2] => { results := [.lit (.bool false)], args := [d1, d2] }
  | _ => none }
def FnOperatorReadingsAreCanonicalAndDisjointWrongFalsely : Prop := fnOperatorReadingsAreCanonicalAndDisjointRow.holds Try.pinned (OpenSpec.ofChange fnOperatorReadingsAreCanonicalAndDisjointWrong)

/-- 'zzlaws_internal_sqlparse_g1.FnParamNumbersQuestionMarksInOrder': WHATEVER THE INPUT: true; the input reads as it did. -/
def fnParamNumbersQuestionMarksInOrderSpec : ChangeSpec := { name := "fnParamNumbersQuestionMarksInOrder", fn := fun _ => fun
  | [d1, d2] => { results := [.lit (.bool true)], args := [d1, d2] }
  | _ => none }
def fnParamNumbersQuestionMarksInOrderRow : OpenClaim := { program := "qxb6001671a", sum := "3812a4e12e86a62cc5a5c65346a76923e0af3a6823dbc7d1ec6b87336972df20", func := "example.com/chronorow/chronorow/zzlaws_internal_sqlparse_g1.FnParamNumbersQuestionMarksInOrder", spec := "fnParamNumbersQuestionMarksInOrder", apart := false }
def FnParamNumbersQuestionMarksInOrderSaid : Prop := fnParamNumbersQuestionMarksInOrderRow.holds Try.pinned (OpenSpec.ofChange fnParamNumbersQuestionMarksInOrderSpec)

/-- ITS FALSE NEIGHBOUR: 'it returns false'. Refute it at one input. -/
def fnParamNumbersQuestionMarksInOrderWrong : ChangeSpec := { name := "fnParamNumbersQuestionMarksInOrder", fn := fun _ => fun
  | [d1, d2] => { results := [.lit (.bool false)], args := [d1, d2] }
  | _ => none }
def FnParamNumbersQuestionMarksInOrderWrongFalsely : Prop := fnParamNumbersQuestionMarksInOrderRow.holds Try.pinned (OpenSpec.ofChange fnParamNumbersQuestionMarksInOrderWrong)

/-- 'zzlaws_root_g1.FnKleeneLogic': WHATEVER THE INPUT: true; the input reads as it did. -/
def fnKleeneLogicSpec : ChangeSpec := { name := "fnKleeneLogic", fn := fun _ => fun
  | [d1, d2, d3, d4] => { results := [.lit (.bool true)], args := [d1, d2, d3, d4] }
  | _ => none }
def fnKleeneLogicRow : OpenClaim := { program := "qxb6001671a", sum := "3812a4e12e86a62cc5a5c65346a76923e0af3a6823dbc7d1ec6b87336972df20", func := "example.com/chronorow/chronorow/zzlaws_root_g1.FnKleeneLogic", spec := "fnKleeneLogic", apart := false }
def FnKleeneLogicSaid : Prop := fnKleeneLogicRow.holds Try.pinned (OpenSpec.ofChange fnKleeneLogicSpec)

/-- ITS FALSE NEIGHBOUR: 'it returns false'. Refute it at one input. -/
def fnKleeneLogicWrong : ChangeSpec := { name := "fnKleeneLogic", fn := fun _ => fun
  | [d1, d2, d3, d4] => { results := [.lit (.bool false)], args := [d1, d2, d3, d4] }
  | _ => none }
def FnKleeneLogicWrongFalsely : Prop := fnKleeneLogicRow.holds Try.pinned (OpenSpec.ofChange fnKleeneLogicWrong)

/-- 'zzlaws_root_g1.FnTruthIntRoundTrip': WHATEVER THE INPUT: true; the input reads as it did. -/
def fnTruthIntRoundTripSpec : ChangeSpec := { name := "fnTruthIntRoundTrip", fn := fun _ => fun
  | [d1, d2] => { results := [.lit (.bool true)], args := [d1, d2] }
  | _ => none }
def fnTruthIntRoundTripRow : OpenClaim := { program := "qxb6001671a", sum := "3812a4e12e86a62cc5a5c65346a76923e0af3a6823dbc7d1ec6b87336972df20", func := "example.com/chronorow/chronorow/zzlaws_root_g1.FnTruthIntRoundTrip", spec := "fnTruthIntRoundTrip", apart := false }
def FnTruthIntRoundTripSaid : Prop := fnTruthIntRoundTripRow.holds Try.pinned (OpenSpec.ofChange fnTruthIntRoundTripSpec)

/-- ITS FALSE NEIGHBOUR: 'it returns false'. Refute it at one input. -/
def fnTruthIntRoundTripWrong : ChangeSpec := { name := "fnTruthIntRoundTrip", fn := fun _ => fun
  | [d1, d2] => { results := [.lit (.bool false)], args := [d1, d2] }
  | _ => none }
def FnTruthIntRoundTripWrongFalsely : Prop := fnTruthIntRoundTripRow.holds Try.pinned (OpenSpec.ofChange fnTruthIntRoundTripWrong)

/-- 'zzlaws_root_g1.FnOrderedSwapSymmetric': WHATEVER THE INPUT: true; the input reads as it did. -/
def fnOrderedSwapSymmetricSpec : ChangeSpec := { name := "fnOrderedSwapSymmetric", fn := fun _ => fun
  | [d1, d2, d3, d4, d5, d6] => { results := [.lit (.bool true)], args := [d1, d2, d3, d4, d5, d6] }
  | _ => none }
def fnOrderedSwapSymmetricRow : OpenClaim := { program := "qxb6001671a", sum := "3812a4e12e86a62cc5a5c65346a76923e0af3a6823dbc7d1ec6b87336972df20", func := "example.com/chronorow/chronorow/zzlaws_root_g1.FnOrderedSwapSymmetric", spec := "fnOrderedSwapSymmetric", apart := false }
def FnOrderedSwapSymmetricSaid : Prop := fnOrderedSwapSymmetricRow.holds Try.pinned (OpenSpec.ofChange fnOrderedSwapSymmetricSpec)

/-- ITS FALSE NEIGHBOUR: 'it returns false'. Refute it at one input. -/
def fnOrderedSwapSymmetricWrong : ChangeSpec := { name := "fnOrderedSwapSymmetric", fn := fun _ => fun
  | [d1, d2, d3, d4, d5, d6] => { results := [.lit (.bool false)], args := [d1, d2, d3, d4, d5, d6] }
  | _ => none }
def FnOrderedSwapSymmetricWrongFalsely : Prop := fnOrderedSwapSymmetricRow.holds Try.pinned (OpenSpec.ofChange fnOrderedSwapSymmetricWrong)

end Rows
end Go.Proofs.Qxb6001671a
