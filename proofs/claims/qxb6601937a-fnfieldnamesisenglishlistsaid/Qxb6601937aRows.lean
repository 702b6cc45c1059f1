/-
  No cell of these rows narrows 'for every input' (looked for: loops, veiled, ifaces, maps, wideKeys, modest, calm, conditions, laid).
  DERIVED. THE GIVEN ROWS OF THIS SEAT. 4 by the template 'for every input the law returns true; each argument reads behind the call as it read before'; 0 by the template 'total and deterministic' (their statements: Qxb6601937aTotals.lean).
  GIVEN WITH THE SEED: the statements are not yours to turn. If you find one false, say at which input.
  Laid BY PROGRAM, IN A SANDBOX (cutbox-rows.mjs): the forced cells as the released guide's own fill.sh prints them over the translation 1acafd62ffd3b5ec… (all of the seat's roots in one cut). By AI agents, Wed Nov 11 2026. No macro, syntax, notation, axiom, sorry.
-/
import Derived.Test.Qxb6601937aChecked
import GoSem.Claim
import GoSem.ClaimJoined
import GoSem.ClaimMapViews
import Derived.JoinedTies
import Derived.KernelRfl
namespace Go.Proofs.Qxb6601937a
/- THE CELL 'sum', in the pinned program and in every row, IS THE sha256 OF THE DUMP (.gsa) THAT Qxb6601937aProg.lean LOADS. Nothing in Lean hashes anything: it is a label: what it is worth is what the hold of that sum in a sandbox is worth. -/
noncomputable def Try.pinned : Pinned := { name := "qxb6601937a", sum := "1acafd62ffd3b5ec16469700d57d93b4aacb411595bc982e00597ccb4850660b", checked := Try.checked }
namespace Rows
def none {H : Type} : Left H := { results := [], args := [] }

/-- 'zzlaws_root_b1.FnFieldIsFirstOfItsName': WHATEVER THE INPUT: true; the input reads as it did. -/
def fnFieldIsFirstOfItsNameSpec : ChangeSpec := { name := "fnFieldIsFirstOfItsName", fn := fun _ => fun
  | [d1, d2] => { results := [.lit (.bool true)], args := [d1, d2] }
  | _ => none }
def fnFieldIsFirstOfItsNameRow : OpenClaim := { program := "qxb6601937a", sum := "1acafd62ffd3b5ec16469700d57d93b4aacb411595bc982e00597ccb4850660b", func := "example.com/crewbook/crewbook/zzlaws_root_b1.FnFieldIsFirstOfItsName", spec := "fnFieldIsFirstOfItsName", apart := false }
def FnFieldIsFirstOfItsNameSaid : Prop := fnFieldIsFirstOfItsNameRow.holds Try.pinned (OpenSpec.ofChange fnFieldIsFirstOfItsNameSpec)

/-- ITS FALSE NEIGHBOUR: 'it returns false'. Refute it at one input. -/
def fnFieldIsFirstOfItsNameWrong : ChangeSpec := { name := "fnFieldIsFirstOfItsName", fn := fun _ => fun
  | [d1, d2] => { results := [.lit (.bool false)], args := [d1, d2] }
  | _ => none }
def FnFieldIsFirstOfItsNameWrongFalsely : Prop := fnFieldIsFirstOfItsNameRow.holds Try.pinned (OpenSpec.ofChange fnFieldIsFirstOfItsNameWrong)

/-- 'zzlaws_root_b1.FnFieldNamesIsEnglishList': WHATEVER THE INPUT: true; the input reads as it did. -/
def fnFieldNamesIsEnglishListSpec : ChangeSpec := { name := "fnFieldNamesIsEnglishList", fn := fun _ => fun
  | [d] => { results := [.lit (.bool true)], args := [d] }
  | _ => none }
def fnFieldNamesIsEnglishListRow : OpenClaim := { program := "qxb6601937a", sum := "1acafd62ffd3b5ec16469700d57d93b4aacb411595bc982e00597ccb4850660b", func := "example.com/crewbook/crewbook/zzlaws_root_b1.FnFieldNamesIsEnglishList", spec := "fnFieldNamesIsEnglishList", inPlace := ["internal/abi.NoEscape", "internal/bytealg.MakeNoZero"], apart := false }
def FnFieldNamesIsEnglishListSaid : Prop := fnFieldNamesIsEnglishListRow.holds Try.pinned (OpenSpec.ofChange fnFieldNamesIsEnglishListSpec)

/-- ITS FALSE NEIGHBOUR: 'it returns false'. Refute it at one input. -/
def fnFieldNamesIsEnglishListWrong : ChangeSpec := { name := "fnFieldNamesIsEnglishList", fn := fun _ => fun
  | [d] => { results := [.lit (.bool false)], args := [d] }
  | _ => none }
def FnFieldNamesIsEnglishListWrongFalsely : Prop := fnFieldNamesIsEnglishListRow.holds Try.pinned (OpenSpec.ofChange fnFieldNamesIsEnglishListWrong)

/-- 'zzlaws_root_b1.FnFieldNamesLength': WHATEVER THE INPUT: true; the input reads as it did. -/
def fnFieldNamesLengthSpec : ChangeSpec := { name := "fnFieldNamesLength", fn := fun _ => fun
  | [d] => { results := [.lit (.bool true)], args := [d] }
  | _ => none }
def fnFieldNamesLengthRow : OpenClaim := { program := "qxb6601937a", sum := "1acafd62ffd3b5ec16469700d57d93b4aacb411595bc982e00597ccb4850660b", func := "example.com/crewbook/crewbook/zzlaws_root_b1.FnFieldNamesLength", spec := "fnFieldNamesLength", inPlace := ["internal/abi.NoEscape", "internal/bytealg.MakeNoZero"], apart := false }
def FnFieldNamesLengthSaid : Prop := fnFieldNamesLengthRow.holds Try.pinned (OpenSpec.ofChange fnFieldNamesLengthSpec)

/-- ITS FALSE NEIGHBOUR: 'it returns false'. Refute it at one input. -/
def fnFieldNamesLengthWrong : ChangeSpec := { name := "fnFieldNamesLength", fn := fun _ => fun
  | [d] => { results := [.lit (.bool false)], args := [d] }
  | _ => none }
def FnFieldNamesLengthWrongFalsely : Prop := fnFieldNamesLengthRow.holds Try.pinned (OpenSpec.ofChange fnFieldNamesLengthWrong)

/-- 'zzlaws_root_b1.FnDigitsOfJoinedTexts': WHATEVER THE INPUT: true; the input reads as it did. -/
def fnDigitsOfJoinedTextsSpec : ChangeSpec := { name := "fnDigitsOfJoinedTexts", fn := fun _ => fun
  | [d1, d2] => { results := [.lit (.bool true)], args := [d1, d2] }
  | _ => none }
def fnDigitsOfJoinedTextsRow : OpenClaim := { program := "qxb6601937a", sum := "1acafd62ffd3b5ec16469700d57d93b4aacb411595bc982e00597ccb4850660b", func := "example.com/crewbook/crewbook/zzlaws_root_b1.FnDigitsOfJoinedTexts", spec := "fnDigitsOfJoinedTexts", apart := false }
def FnDigitsOfJoinedTextsSaid : Prop := fnDigitsOfJoinedTextsRow.holds Try.pinned (OpenSpec.ofChange fnDigitsOfJoinedTextsSpec)

/-- ITS FALSE NEIGHBOUR: 'it returns false'. Refute it at one input. -/
def fnDigitsOfJoinedTextsWrong : ChangeSpec := { name := "fnDigitsOfJoinedTexts", fn := fun _ => fun
  | [d1, d2] => { results := [.lit (.bool false)], args := [d1, d2] }
  | _ => none }
def FnDigitsOfJoinedTextsWrongFalsely : Prop := fnDigitsOfJoinedTextsRow.holds Try.pinned (OpenSpec.ofChange fnDigitsOfJoinedTextsWrong)

end Rows
end Go.Proofs.Qxb6601937a
