/-
  No cell of these rows narrows 'for every input' (looked for: loops, veiled, ifaces, maps, wideKeys, modest, calm, conditions, laid).
  DERIVED. THE GIVEN ROWS OF THIS SEAT. 2 by the template 'for every input the law returns true; each argument reads behind the call as it read before'; 0 by the template 'total and deterministic' (their statements: Qxb6603194aTotals.lean).
  GIVEN WITH THE SEED: the statements are not yours to turn. If you find one false, say at which input.
  Laid BY PROGRAM, IN A SANDBOX (cutbox-rows.mjs): the forced cells as the released guide's own fill.sh prints them over the translation dc2e59d5184c3882… (all of the seat's roots in one cut). By AI agents, Wed Nov 11 2026. No macro, syntax, notation, axiom, sorry.
-/
import Derived.Test.Qxb6603194aChecked
import GoSem.Claim
import GoSem.ClaimJoined
import GoSem.ClaimMapViews
import Derived.JoinedTies
import Derived.KernelRfl
namespace Go.Proofs.Qxb6603194a
/- THE CELL 'sum', in the pinned program and in every row, IS THE sha256 OF THE DUMP (.gsa) THAT Qxb6603194aProg.lean LOADS. Nothing in Lean hashes anything: it is a label: what it is worth is what the hold of that sum in a sandbox is worth. -/
noncomputable def Try.pinned : Pinned := { name := "qxb6603194a", sum := "dc2e59d5184c388237443f71f52ff3d6d7b9f6b318b9ee6db7bd8c881fce43dc", checked := Try.checked }
namespace Rows
def none {H : Type} : Left H := { results := [], args := [] }

/-- 'zzlaws_internal_plan_b1.FnLaterAdditive': WHATEVER THE INPUT: true; the input reads as it did. -/
def fnLaterAdditiveSpec : ChangeSpec := { name := "fnLaterAdditive", fn := fun _ => fun
  | [d1, d2, d3, d4, d5, d6, d7, d8] => { results := [.lit (.bool true)], args := [d1, d2, d3, d4, d5, d6, d7, d8] }
  | _ => none }
def fnLaterAdditiveRow : OpenClaim := { program := "qxb6603194a", sum := "dc2e59d5184c388237443f71f52ff3d6d7b9f6b318b9ee6db7bd8c881fce43dc", func := "example.com/vestwright/vestwright/zzlaws_internal_plan_b1.FnLaterAdditive", spec := "fnLaterAdditive", apart := false }
def FnLaterAdditiveSaid : Prop := fnLaterAdditiveRow.holds Try.pinned (OpenSpec.ofChange fnLaterAdditiveSpec)

/-- ITS FALSE NEIGHBOUR: 'it returns false'. Refute it at one input. -/
def fnLaterAdditiveWrong : ChangeSpec := { name := "fnLaterAdditive", fn := fun _ => fun
  | [d1, d2, d3, d4, d5, d6, d7, d8] => { results := [.lit (.bool false)], args := [d1, d2, d3, d4, d5, d6, d7, d8] }
  | _ => none }
def FnLaterAdditiveWrongFalsely : Prop := fnLaterAdditiveRow.holds Try.pinned (OpenSpec.ofChange fnLaterAdditiveWrong)

/-- 'zzlaws_internal_plan_b1.FnCitedFreshCopy': WHATEVER THE INPUT: true; the input reads as it did. -/
def fnCitedFreshCopySpec : ChangeSpec := { name := "fnCitedFreshCopy", fn := fun _ => fun
  | [d1, d2] => { results := [.lit (.bool true)], args := [d1, d2] }
  | _ => none }
def fnCitedFreshCopyRow : OpenClaim := { program := "qxb6603194a", sum := "dc2e59d5184c388237443f71f52ff3d6d7b9f6b318b9ee6db7bd8c881fce43dc", func := "example.com/vestwright/vestwright/zzlaws_internal_plan_b1.FnCitedFreshCopy", spec := "fnCitedFreshCopy", apart := false }
def FnCitedFreshCopySaid : Prop := fnCitedFreshCopyRow.holds Try.pinned (OpenSpec.ofChange fnCitedFreshCopySpec)

/-- ITS FALSE NEIGHBOUR: 'it returns false'. Refute it at one input. -/
def fnCitedFreshCopyWrong : ChangeSpec := { name := "fnCitedFreshCopy", fn := fun _ => fun
  | [d1, d2] => { results := [.lit (.bool false)], args := [d1, d2] }
  | _ => none }
def FnCitedFreshCopyWrongFalsely : Prop := fnCitedFreshCopyRow.holds Try.pinned (OpenSpec.ofChange fnCitedFreshCopyWrong)

end Rows
end Go.Proofs.Qxb6603194a
