/-
  No cell of these rows narrows 'for every input' (looked for: loops, veiled, ifaces, maps, wideKeys, modest, calm, conditions, laid).
  DERIVED. THE GIVEN ROWS OF THIS SEAT. 2 by the template 'for every input the law returns true; each argument reads behind the call as it read before'; 0 by the template 'total and deterministic' (their statements: Qxb6613826aTotals.lean).
  GIVEN WITH THE SEED: the statements are not yours to turn. If you find one false, say at which input.
  Laid BY PROGRAM, IN A SANDBOX (cutbox-rows.mjs): the forced cells as the released guide's own fill.sh prints them over the translation 209c225cb6a21488… (all of the seat's roots in one cut). By AI agents, Wed Nov 11 2026. No macro, syntax, notation, axiom, sorry.
-/
import Derived.Test.Qxb6613826aChecked
import GoSem.Claim
import GoSem.ClaimJoined
import GoSem.ClaimMapViews
import Derived.JoinedTies
import Derived.KernelRfl
namespace Go.Proofs.Qxb6613826a
/- THE CELL 'sum', in the pinned program and in every row, IS THE sha256 OF THE DUMP (.gsa) THAT Qxb6613826aProg.lean LOADS. Nothing in Lean hashes anything: it is a label: what it is worth is what the hold of that sum in a sandbox is worth. -/
noncomputable def Try.pinned : Pinned := { name := "qxb6613826a", sum := "209c225cb6a21488b377e0883392cb290347d29d5fcdf1a0ce1397cd84426514", checked := Try.checked }
namespace Rows
def none {H : Type} : Left H := { results := [], args := [] }

/-- 'zzlaws_internal_rules_b1.FnLookBackAtAnyCutIsGreatestOfParts': WHATEVER THE INPUT: true; the input reads as it did. -/
def fnLookBackAtAnyCutIsGreatestOfPartsSpec : ChangeSpec := { name := "fnLookBackAtAnyCutIsGreatestOfParts", fn := fun _ => fun
  | [d1, d2] => { results := [.lit (.bool true)], args := [d1, d2] }
  | _ => none }
def fnLookBackAtAnyCutIsGreatestOfPartsRow : OpenClaim := { program := "qxb6613826a", sum := "209c225cb6a21488b377e0883392cb290347d29d5fcdf1a0ce1397cd84426514", func := "example.com/taelbook/taelbook/zzlaws_internal_rules_b1.FnLookBackAtAnyCutIsGreatestOfParts", spec := "fnLookBackAtAnyCutIsGreatestOfParts", apart := false }
def FnLookBackAtAnyCutIsGreatestOfPartsSaid : Prop := fnLookBackAtAnyCutIsGreatestOfPartsRow.holds Try.pinned (OpenSpec.ofChange fnLookBackAtAnyCutIsGreatestOfPartsSpec)

/-- ITS FALSE NEIGHBOUR: 'it returns false'. Refute it at one input. -/
def fnLookBackAtAnyCutIsGreatestOfPartsWrong : ChangeSpec := { name := "fnLookBackAtAnyCutIsGreatestOfParts", fn := fun _ => fun
  | [d1, d2] => { results := [.lit (.bool false)], args := [d1, d2] }
  | _ => none }
def FnLookBackAtAnyCutIsGreatestOfPartsWrongFalsely : Prop := fnLookBackAtAnyCutIsGreatestOfPartsRow.holds Try.pinned (OpenSpec.ofChange fnLookBackAtAnyCutIsGreatestOfPartsWrong)

/-- 'zzlaws_internal_rules_b1.FnLookBackOneSetPutInAnywhere': WHATEVER THE INPUT: true; the input reads as it did. -/
def fnLookBackOneSetPutInAnywhereSpec : ChangeSpec := { name := "fnLookBackOneSetPutInAnywhere", fn := fun _ => fun
  | [d1, d2, d3] => { results := [.lit (.bool true)], args := [d1, d2, d3] }
  | _ => none }
def fnLookBackOneSetPutInAnywhereRow : OpenClaim := { program := "qxb6613826a", sum := "209c225cb6a21488b377e0883392cb290347d29d5fcdf1a0ce1397cd84426514", func := "example.com/taelbook/taelbook/zzlaws_internal_rules_b1.FnLookBackOneSetPutInAnywhere", spec := "fnLookBackOneSetPutInAnywhere", apart := false }
def FnLookBackOneSetPutInAnywhereSaid : Prop := fnLookBackOneSetPutInAnywhereRow.holds Try.pinned (OpenSpec.ofChange fnLookBackOneSetPutInAnywhereSpec)

/-- ITS FALSE NEIGHBOUR: 'it returns false'. Refute it at one input. -/
def fnLookBackOneSetPutInAnywhereWrong : ChangeSpec := { name := "fnLookBackOneSetPutInAnywhere", fn := fun _ => fun
  | [d1, d2, d3] => { results := [.lit (.bool false)], args := [d1, d2, d3] }
  | _ => none }
def FnLookBackOneSetPutInAnywhereWrongFalsely : Prop := fnLookBackOneSetPutInAnywhereRow.holds Try.pinned (OpenSpec.ofChange fnLookBackOneSetPutInAnywhereWrong)

end Rows
end Go.Proofs.Qxb6613826a
