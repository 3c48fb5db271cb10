/-
  No cell of these rows narrows 'for every input' (looked for: loops, veiled, ifaces, maps, wideKeys, modest, calm, conditions, laid).
  DERIVED. THE GIVEN ROWS OF THIS SEAT. 2 by the template 'for every input the law returns true; each argument reads behind the call as it read before'; 0 by the template 'total and deterministic' (their statements: Qxb6609495aTotals.lean).
  GIVEN WITH THE SEED: the statements are not yours to turn. If you find one false, say at which input.
  Laid BY PROGRAM, IN A SANDBOX (cutbox-rows.mjs): the forced cells as the released guide's own fill.sh prints them over the translation b7b3036cee2776f7… (all of the seat's roots in one cut). By AI agents, Wed Nov 11 2026. No macro, syntax, notation, axiom, sorry.
-/
import Derived.Test.Qxb6609495aChecked
import GoSem.Claim
import GoSem.ClaimJoined
import GoSem.ClaimMapViews
import Derived.JoinedTies
import Derived.KernelRfl
namespace Go.Proofs.Qxb6609495a
/- THE CELL 'sum', in the pinned program and in every row, IS THE sha256 OF THE DUMP (.gsa) THAT Qxb6609495aProg.lean LOADS. Nothing in Lean hashes anything: it is a label: what it is worth is what the hold of that sum in a sandbox is worth. -/
noncomputable def Try.pinned : Pinned := { name := "qxb6609495a", sum := "b7b3036cee2776f7d1fc3dabdbd5986b9391739138c3b586d3e1f0ccb95b2e4a", checked := Try.checked }
namespace Rows
def none {H : Type} : Left H := { results := [], args := [] }

/-- 'zzlaws_log_b1.FnChainIsLongestVerifiedPrefix': WHATEVER THE INPUT: true; the input reads as it did. -/
def fnChainIsLongestVerifiedPrefixSpec : ChangeSpec := { name := "fnChainIsLongestVerifiedPrefix", fn := fun _ => fun
  | [d1, d2] => { results := [.lit (.bool true)], args := [d1, d2] }
  | _ => none }
def fnChainIsLongestVerifiedPrefixRow : OpenClaim := { program := "qxb6609495a", sum := "b7b3036cee2776f7d1fc3dabdbd5986b9391739138c3b586d3e1f0ccb95b2e4a", func := "example.com/weftkeep/weftkeep/zzlaws_log_b1.FnChainIsLongestVerifiedPrefix", spec := "fnChainIsLongestVerifiedPrefix", apart := false }
def FnChainIsLongestVerifiedPrefixSaid : Prop := fnChainIsLongestVerifiedPrefixRow.holds Try.pinned (OpenSpec.ofChange fnChainIsLongestVerifiedPrefixSpec)

/-- ITS FALSE NEIGHBOUR: 'it returns false'. Refute it at one input. -/
def fnChainIsLongestVerifiedPrefixWrong : ChangeSpec := { name := "fnChainIsLongestVerifiedPrefix", fn := fun _ => fun
  | [d1, d2] => { results := [.lit (.bool false)], args := [d1, d2] }
  | _ => none }
def FnChainIsLongestVerifiedPrefixWrongFalsely : Prop := fnChainIsLongestVerifiedPrefixRow.holds Try.pinned (OpenSpec.ofChange fnChainIsLongestVerifiedPrefixWrong)

/-- 'zzlaws_log_b1.FnChainOfConcatenation': WHATEVER THE INPUT: true; the input reads as it did. -/
def fnChainOfConcatenationSpec : ChangeSpec := { name := "fnChainOfConcatenation", fn := fun _ => fun
  | [d1, d2, d3] => { results := [.lit (.bool true)], args := [d1, d2, d3] }
  | _ => none }
def fnChainOfConcatenationRow : OpenClaim := { program := "qxb6609495a", sum := "b7b3036cee2776f7d1fc3dabdbd5986b9391739138c3b586d3e1f0ccb95b2e4a", func := "example.com/weftkeep/weftkeep/zzlaws_log_b1.FnChainOfConcatenation", spec := "fnChainOfConcatenation", apart := false }
def FnChainOfConcatenationSaid : Prop := fnChainOfConcatenationRow.holds Try.pinned (OpenSpec.ofChange fnChainOfConcatenationSpec)

/-- ITS FALSE NEIGHBOUR: 'it returns false'. Refute it at one input. -/
def fnChainOfConcatenationWrong : ChangeSpec := { name := "fnChainOfConcatenation", fn := fun _ => fun
  | [d1, d2, d3] => { results := [.lit (.bool false)], args := [d1, d2, d3] }
  | _ => none }
def FnChainOfConcatenationWrongFalsely : Prop := fnChainOfConcatenationRow.holds Try.pinned (OpenSpec.ofChange fnChainOfConcatenationWrong)

end Rows
end Go.Proofs.Qxb6609495a
