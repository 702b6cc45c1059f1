/-
  No cell of these rows narrows 'for every input' (looked for: loops, veiled, ifaces, maps, wideKeys, modest, calm, conditions, laid).
  DERIVED. THE GIVEN ROWS OF THIS SEAT. 5 by the template 'for every input the law returns true; each argument reads behind the call as it read before'; 0 by the template 'total and deterministic' (their statements: Qxb6601954aTotals.lean).
  GIVEN WITH THE SEED: the statements are not yours to turn. If you find one false, say at which input.
  Laid BY PROGRAM, IN A SANDBOX (cutbox-rows.mjs): the forced cells as the released guide's own fill.sh prints them over the translation ecd46a7249ee12f9… (all of the seat's roots in one cut). By AI agents, Wed Nov 11 2026. No macro, syntax, notation, axiom, sorry.
-/
import Derived.Test.Qxb6601954aChecked
import GoSem.Claim
import GoSem.ClaimJoined
import GoSem.ClaimMapViews
import Derived.JoinedTies
import Derived.KernelRfl
namespace Go.Proofs.Qxb6601954a
/- THE CELL 'sum', in the pinned program and in every row, IS THE sha256 OF THE DUMP (.gsa) THAT Qxb6601954aProg.lean LOADS. Nothing in Lean hashes anything: it is a label: what it is worth is what the hold of that sum in a sandbox is worth. -/
noncomputable def Try.pinned : Pinned := { name := "qxb6601954a", sum := "ecd46a7249ee12f99cec83309c4dd2c8c445acef5d17ff005930c0939f4b07c7", checked := Try.checked }
namespace Rows
def none {H : Type} : Left H := { results := [], args := [] }

/-- 'zzlaws_internal_jsonscan_b1.FnIntMatchesDecimalModel': WHATEVER THE INPUT: true; the input reads as it did. -/
def fnIntMatchesDecimalModelSpec : ChangeSpec := { name := "fnIntMatchesDecimalModel", fn := fun _ => fun
  | [d1, d2] => { results := [.lit (.bool true)], args := [d1, d2] }
  | _ => none }
def fnIntMatchesDecimalModelRow : OpenClaim := { program := "qxb6601954a", sum := "ecd46a7249ee12f99cec83309c4dd2c8c445acef5d17ff005930c0939f4b07c7", func := "example.com/quorumscope/quorumscope/zzlaws_internal_jsonscan_b1.FnIntMatchesDecimalModel", spec := "fnIntMatchesDecimalModel", apart := false }
def FnIntMatchesDecimalModelSaid : Prop := fnIntMatchesDecimalModelRow.holds Try.pinned (OpenSpec.ofChange fnIntMatchesDecimalModelSpec)

/-- ITS FALSE NEIGHBOUR: 'it returns false'. Refute it at one input. -/
def fnIntMatchesDecimalModelWrong : ChangeSpec := { name := "fnIntMatchesDecimalModel", fn := fun _ => fun
  | [d1, d2] => { results := [.lit (.bool false)], args := [d1, d2] }
  | _ => none }
def FnIntMatchesDecimalModelWrongFalsely : Prop := fnIntMatchesDecimalModelRow.holds Try.pinned (OpenSpec.ofChange fnIntMatchesDecimalModelWrong)

/-- 'zzlaws_internal_jsonscan_b1.FnIntReadsBackEveryInt64': WHATEVER THE INPUT: true; the input reads as it did. -/
def fnIntReadsBackEveryInt64Spec : ChangeSpec := { name := "fnIntReadsBackEveryInt64", fn := fun _ => fun
  | [d1, d2] => { results := [.lit (.bool true)], args := [d1, d2] }
  | _ => none }
def fnIntReadsBackEveryInt64Row : OpenClaim := { program := "qxb6601954a", sum := "ecd46a7249ee12f99cec83309c4dd2c8c445acef5d17ff005930c0939f4b07c7", func := "example.com/quorumscope/quorumscope/zzlaws_internal_jsonscan_b1.FnIntReadsBackEveryInt64", spec := "fnIntReadsBackEveryInt64", apart := false }
def FnIntReadsBackEveryInt64Said : Prop := fnIntReadsBackEveryInt64Row.holds Try.pinned (OpenSpec.ofChange fnIntReadsBackEveryInt64Spec)

/-- ITS FALSE NEIGHBOUR: 'it returns false'. Refute it at one input. -/
def fnIntReadsBackEveryInt64Wrong : ChangeSpec := { name := "fnIntReadsBackEveryInt64", fn := fun _ => fun
  | [d1, d2] => { results := [.lit (.bool false)], args := [d1, d2] }
  | _ => none }
def FnIntReadsBackEveryInt64WrongFalsely : Prop := fnIntReadsBackEveryInt64Row.holds Try.pinned (OpenSpec.ofChange fnIntReadsBackEveryInt64Wrong)

/-- 'zzlaws_internal_jsonscan_b1.FnQuotedMatchesStringAutomaton': WHATEVER THE INPUT: true; the input reads as it did. -/
def fnQuotedMatchesStringAutomatonSpec : ChangeSpec := { name := "fnQuotedMatchesStringAutomaton", fn := fun _ => fun
  | [d1, d2, d3] => { results := [.lit (.bool true)], args := [d1, d2, d3] }
  | _ => none }
def fnQuotedMatchesStringAutomatonRow : OpenClaim := { program := "qxb6601954a", sum := "ecd46a7249ee12f99cec83309c4dd2c8c445acef5d17ff005930c0939f4b07c7", func := "example.com/quorumscope/quorumscope/zzlaws_internal_jsonscan_b1.FnQuotedMatchesStringAutomaton", spec := "fnQuotedMatchesStringAutomaton", apart := false }
def FnQuotedMatchesStringAutomatonSaid : Prop := fnQuotedMatchesStringAutomatonRow.holds Try.pinned (OpenSpec.ofChange fnQuotedMatchesStringAutomatonSpec)

/-- ITS FALSE NEIGHBOUR: 'it returns false'. Refute it at one input. -/
def fnQuotedMatchesStringAutomatonWrong : ChangeSpec := { name := "fnQuotedMatchesStringAutomaton", fn := fun _ => fun
  | [d1, d2, d3] => { results := [.lit (.bool false)], args := [d1, d2, d3] }
  | _ => none }
def FnQuotedMatchesStringAutomatonWrongFalsely : Prop := fnQuotedMatchesStringAutomatonRow.holds Try.pinned (OpenSpec.ofChange fnQuotedMatchesStringAutomatonWrong)

/-- 'zzlaws_internal_jsonscan_b1.FnQuotedStrictAgreesWithLenient': WHATEVER THE INPUT: true; the input reads as it did. -/
def fnQuotedStrictAgreesWithLenientSpec : ChangeSpec := { name := "fnQuotedStrictAgreesWithLenient", fn := fun _ => fun
  | [d1, d2] => { results := [.lit (.bool true)], args := [d1, d2] }
  | _ => none }
def fnQuotedStrictAgreesWithLenientRow : OpenClaim := { program := "qxb6601954a", sum := "ecd46a7249ee12f99cec83309c4dd2c8c445acef5d17ff005930c0939f4b07c7", func := "example.com/quorumscope/quorumscope/zzlaws_internal_jsonscan_b1.FnQuotedStrictAgreesWithLenient", spec := "fnQuotedStrictAgreesWithLenient", apart := false }
def FnQuotedStrictAgreesWithLenientSaid : Prop := fnQuotedStrictAgreesWithLenientRow.holds Try.pinned (OpenSpec.ofChange fnQuotedStrictAgreesWithLenientSpec)

/-- ITS FALSE NEIGHBOUR: 'it returns false'. Refute it at one input. -/
def fnQuotedStrictAgreesWithLenientWrong : ChangeSpec := { name := "fnQuotedStrictAgreesWithLenient", fn := fun _ => fun
  | [d1, d2] => { results := [.lit (.bool false)], args := [d1, d2] }
  | _ => none }
def FnQuotedStrictAgreesWithLenientWrongFalsely : Prop := fnQuotedStrictAgreesWithLenientRow.holds Try.pinned (OpenSpec.ofChange fnQuotedStrictAgreesWithLenientWrong)

/-- 'zzlaws_internal_jsonscan_b1.FnQuotedReadsBackEscapedBytes': WHATEVER THE INPUT: true; the input reads as it did. -/
def fnQuotedReadsBackEscapedBytesSpec : ChangeSpec := { name := "fnQuotedReadsBackEscapedBytes", fn := fun _ => fun
  | [d1, d2] => { results := [.lit (.bool true)], args := [d1, d2] }
  | _ => none }
def fnQuotedReadsBackEscapedBytesRow : OpenClaim := { program := "qxb6601954a", sum := "ecd46a7249ee12f99cec83309c4dd2c8c445acef5d17ff005930c0939f4b07c7", func := "example.com/quorumscope/quorumscope/zzlaws_internal_jsonscan_b1.FnQuotedReadsBackEscapedBytes", spec := "fnQuotedReadsBackEscapedBytes", apart := false }
def FnQuotedReadsBackEscapedBytesSaid : Prop := fnQuotedReadsBackEscapedBytesRow.holds Try.pinned (OpenSpec.ofChange fnQuotedReadsBackEscapedBytesSpec)

/-- ITS FALSE NEIGHBOUR: 'it returns false'. Refute it at one input. -/
def fnQuotedReadsBackEscapedBytesWrong : ChangeSpec := { name := "fnQuotedReadsBackEscapedBytes", fn := fun _ => fun
  | [d1, d2] => { results := [.lit (.bool false)], args := [d1, d2] }
  | _ => none }
def FnQuotedReadsBackEscapedBytesWrongFalsely : Prop := fnQuotedReadsBackEscapedBytesRow.holds Try.pinned (OpenSpec.ofChange fnQuotedReadsBackEscapedBytesWrong)

end Rows
end Go.Proofs.Qxb6601954a
