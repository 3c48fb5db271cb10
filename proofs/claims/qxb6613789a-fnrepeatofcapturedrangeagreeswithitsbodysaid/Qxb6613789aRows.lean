/-
  No cell of these rows narrows 'for every input' (looked for: loops, veiled, ifaces, maps, wideKeys, modest, calm, conditions, laid).
  DERIVED. THE GIVEN ROWS OF THIS SEAT. 4 by the template 'for every input the law returns true; each argument reads behind the call as it read before'; 0 by the template 'total and deterministic' (their statements: Qxb6613789aTotals.lean).
  GIVEN WITH THE SEED: the statements are not yours to turn. If you find one false, say at which input.
  Laid BY PROGRAM, IN A SANDBOX (cutbox-rows.mjs): the forced cells as the released guide's own fill.sh prints them over the translation d959eb6139ad0328… (all of the seat's roots in one cut). By AI agents, Wed Nov 11 2026. No macro, syntax, notation, axiom, sorry.
-/
import Derived.Test.Qxb6613789aChecked
import GoSem.Claim
import GoSem.ClaimJoined
import GoSem.ClaimMapViews
import Derived.JoinedTies
import Derived.KernelRfl
namespace Go.Proofs.Qxb6613789a
/- THE CELL 'sum', in the pinned program and in every row, IS THE sha256 OF THE DUMP (.gsa) THAT Qxb6613789aProg.lean LOADS. Nothing in Lean hashes anything: it is a label: what it is worth is what the hold of that sum in a sandbox is worth. -/
noncomputable def Try.pinned : Pinned := { name := "qxb6613789a", sum := "d959eb6139ad0328333d98bc1647a8b2a4f3db568ef453d55f7a034d0f065fb5", checked := Try.checked }
namespace Rows
def none {H : Type} : Left H := { results := [], args := [] }

/-- 'zzlaws_internal_regex_b1.FnRepeatOfCapturedRangeAgreesWithItsBody': WHATEVER THE INPUT: true; the input reads as it did. -/
def fnRepeatOfCapturedRangeAgreesWithItsBodySpec : ChangeSpec := { name := "fnRepeatOfCapturedRangeAgreesWithItsBody", fn := fun _ => fun
  | [d1, d2, d3, d4, d5, d6, d7, d8] => { results := [.lit (.bool true)], args := [d1, d2, d3, d4, d5, d6, d7, d8] }
  | _ => none }
def fnRepeatOfCapturedRangeAgreesWithItsBodyRow : OpenClaim := { program := "qxb6613789a", sum := "d959eb6139ad0328333d98bc1647a8b2a4f3db568ef453d55f7a034d0f065fb5", func := "example.com/driftline/driftline/zzlaws_internal_regex_b1.FnRepeatOfCapturedRangeAgreesWithItsBody", spec := "fnRepeatOfCapturedRangeAgreesWithItsBody", unfollowed := true, recurses := true, apart := false }
def FnRepeatOfCapturedRangeAgreesWithItsBodySaid : Prop := fnRepeatOfCapturedRangeAgreesWithItsBodyRow.holds Try.pinned (OpenSpec.ofChange fnRepeatOfCapturedRangeAgreesWithItsBodySpec)

/-- ITS FALSE NEIGHBOUR: 'it returns false'. Refute it at one input. -/
def fnRepeatOfCapturedRangeAgreesWithItsBodyWrong : ChangeSpec := { name := "fnRepeatOfCapturedRangeAgreesWithItsBody", fn := fun _ => fun
  | [d1, d2, d3, d4, d5, d6, d7, d8] => { results := [.lit (.bool false)], args := [d1, d2, d3, d4, d5, d6, d7, d8] }
  | _ => none }
def FnRepeatOfCapturedRangeAgreesWithItsBodyWrongFalsely : Prop := fnRepeatOfCapturedRangeAgreesWithItsBodyRow.holds Try.pinned (OpenSpec.ofChange fnRepeatOfCapturedRangeAgreesWithItsBodyWrong)

/-- 'zzlaws_internal_regex_b1.FnRepeatOfRangeIsOneRepeatChar': WHATEVER THE INPUT: true; the input reads as it did. -/
def fnRepeatOfRangeIsOneRepeatCharSpec : ChangeSpec := { name := "fnRepeatOfRangeIsOneRepeatChar", fn := fun _ => fun
  | [d1, d2, d3, d4, d5, d6, d7] => { results := [.lit (.bool true)], args := [d1, d2, d3, d4, d5, d6, d7] }
  | _ => none }
def fnRepeatOfRangeIsOneRepeatCharRow : OpenClaim := { program := "qxb6613789a", sum := "d959eb6139ad0328333d98bc1647a8b2a4f3db568ef453d55f7a034d0f065fb5", func := "example.com/driftline/driftline/zzlaws_internal_regex_b1.FnRepeatOfRangeIsOneRepeatChar", spec := "fnRepeatOfRangeIsOneRepeatChar", unfollowed := true, recurses := true, apart := false }
def FnRepeatOfRangeIsOneRepeatCharSaid : Prop := fnRepeatOfRangeIsOneRepeatCharRow.holds Try.pinned (OpenSpec.ofChange fnRepeatOfRangeIsOneRepeatCharSpec)

/-- ITS FALSE NEIGHBOUR: 'it returns false'. Refute it at one input. -/
def fnRepeatOfRangeIsOneRepeatCharWrong : ChangeSpec := { name := "fnRepeatOfRangeIsOneRepeatChar", fn := fun _ => fun
  | [d1, d2, d3, d4, d5, d6, d7] => { results := [.lit (.bool false)], args := [d1, d2, d3, d4, d5, d6, d7] }
  | _ => none }
def FnRepeatOfRangeIsOneRepeatCharWrongFalsely : Prop := fnRepeatOfRangeIsOneRepeatCharRow.holds Try.pinned (OpenSpec.ofChange fnRepeatOfRangeIsOneRepeatCharWrong)

/-- 'zzlaws_internal_regex_b1.FnOpenGroupScriptFromFresh': WHATEVER THE INPUT: true; the input reads as it did. -/
def fnOpenGroupScriptFromFreshSpec : ChangeSpec := { name := "fnOpenGroupScriptFromFresh", fn := fun _ => fun
  | [d] => { results := [.lit (.bool true)], args := [d] }
  | _ => none }
def fnOpenGroupScriptFromFreshRow : OpenClaim := { program := "qxb6613789a", sum := "d959eb6139ad0328333d98bc1647a8b2a4f3db568ef453d55f7a034d0f065fb5", func := "example.com/driftline/driftline/zzlaws_internal_regex_b1.FnOpenGroupScriptFromFresh", spec := "fnOpenGroupScriptFromFresh", apart := false }
def FnOpenGroupScriptFromFreshSaid : Prop := fnOpenGroupScriptFromFreshRow.holds Try.pinned (OpenSpec.ofChange fnOpenGroupScriptFromFreshSpec)

/-- ITS FALSE NEIGHBOUR: 'it returns false'. Refute it at one input. -/
def fnOpenGroupScriptFromFreshWrong : ChangeSpec := { name := "fnOpenGroupScriptFromFresh", fn := fun _ => fun
  | [d] => { results := [.lit (.bool false)], args := [d] }
  | _ => none }
def FnOpenGroupScriptFromFreshWrongFalsely : Prop := fnOpenGroupScriptFromFreshRow.holds Try.pinned (OpenSpec.ofChange fnOpenGroupScriptFromFreshWrong)

/-- 'zzlaws_internal_regex_b1.FnClassContainsIsInSomeRange': WHATEVER THE INPUT: true; the input reads as it did. -/
def fnClassContainsIsInSomeRangeSpec : ChangeSpec := { name := "fnClassContainsIsInSomeRange", fn := fun _ => fun
  | [d1, d2, d3] => { results := [.lit (.bool true)], args := [d1, d2, d3] }
  | _ => none }
def fnClassContainsIsInSomeRangeRow : OpenClaim := { program := "qxb6613789a", sum := "d959eb6139ad0328333d98bc1647a8b2a4f3db568ef453d55f7a034d0f065fb5", func := "example.com/driftline/driftline/zzlaws_internal_regex_b1.FnClassContainsIsInSomeRange", spec := "fnClassContainsIsInSomeRange", unfollowed := true, recurses := true, apart := false }
def FnClassContainsIsInSomeRangeSaid : Prop := fnClassContainsIsInSomeRangeRow.holds Try.pinned (OpenSpec.ofChange fnClassContainsIsInSomeRangeSpec)

/-- ITS FALSE NEIGHBOUR: 'it returns false'. Refute it at one input. -/
def fnClassContainsIsInSomeRangeWrong : ChangeSpec := { name := "fnClassContainsIsInSomeRange", fn := fun _ => fun
  | [d1, d2, d3] => { results := [.lit (.bool false)], args := [d1, d2, d3] }
  | _ => none }
def FnClassContainsIsInSomeRangeWrongFalsely : Prop := fnClassContainsIsInSomeRangeRow.holds Try.pinned (OpenSpec.ofChange fnClassContainsIsInSomeRangeWrong)

end Rows
end Go.Proofs.Qxb6613789a
