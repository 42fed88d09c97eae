/-
  No cell of these rows narrows 'for every input' (looked for: loops, veiled, ifaces, maps, wideKeys, modest, calm, conditions, laid).
  DERIVED. THE GIVEN ROWS OF THIS SEAT. 2 by the template 'for every input the law returns true; each argument reads behind the call as it read before'; 0 by the template 'total and deterministic' (their statements: Qxb6626510aTotals.lean).
  GIVEN WITH THE SEED: the statements are not yours to turn. If you find one false, say at which input.
  Laid BY PROGRAM, IN A SANDBOX (cutbox-rows.mjs): the forced cells as the released guide's own fill.sh prints them over the translation 9f4fd155e0929c88… (all of the seat's roots in one cut). By AI agents, Wed Nov 11 2026. No macro, syntax, notation, axiom, sorry.
-/
import Derived.Test.Qxb6626510aChecked
import GoSem.Claim
import GoSem.ClaimJoined
import GoSem.ClaimMapViews
import Derived.JoinedTies
import Derived.KernelRfl
namespace Go.Proofs.Qxb6626510a
/- THE CELL 'sum', in the pinned program and in every row, IS THE sha256 OF THE DUMP (.gsa) THAT Qxb6626510aProg.lean LOADS. Nothing in Lean hashes anything: it is a label: what it is worth is what the hold of that sum in a sandbox is worth. -/
noncomputable def Try.pinned : Pinned := { name := "qxb6626510a", sum := "9f4fd155e0929c884a00cb3fea1ead1919357befbaea258d4e47e5787d965f78", checked := Try.checked }
namespace Rows
def none {H : Type} : Left H := { results := [], args := [] }

/-- 'zzlaws_pkg_federation_b1.FnSharedWithAgreesOverAnyCutOfTheRules': WHATEVER THE INPUT: true; the input reads as it did. -/
def fnSharedWithAgreesOverAnyCutOfTheRulesSpec : ChangeSpec := { name := "fnSharedWithAgreesOverAnyCutOfTheRules", fn := fun _ => fun
  | [d1, d2, d3] => { results := [.lit (.bool true)], args := [d1, d2, d3] }
  | _ => none }
def fnSharedWithAgreesOverAnyCutOfTheRulesRow : OpenClaim := { program := "qxb6626510a", sum := "9f4fd155e0929c884a00cb3fea1ead1919357befbaea258d4e47e5787d965f78", func := "example.com/writd/writd/zzlaws_pkg_federation_b1.FnSharedWithAgreesOverAnyCutOfTheRules", spec := "fnSharedWithAgreesOverAnyCutOfTheRules", recurses := true, apart := false }
def FnSharedWithAgreesOverAnyCutOfTheRulesSaid : Prop := fnSharedWithAgreesOverAnyCutOfTheRulesRow.holds Try.pinned (OpenSpec.ofChange fnSharedWithAgreesOverAnyCutOfTheRulesSpec)

/-- ITS FALSE NEIGHBOUR: 'it returns false'. Refute it at one input. -/
def fnSharedWithAgreesOverAnyCutOfTheRulesWrong : ChangeSpec := { name := "fnSharedWithAgreesOverAnyCutOfTheRules", fn := fun _ => fun
  | [d1, d2, d3] => { results := [.lit (.bool false)], args := [d1, d2, d3] }
  | _ => none }
def FnSharedWithAgreesOverAnyCutOfTheRulesWrongFalsely : Prop := fnSharedWithAgreesOverAnyCutOfTheRulesRow.holds Try.pinned (OpenSpec.ofChange fnSharedWithAgreesOverAnyCutOfTheRulesWrong)

/-- 'zzlaws_pkg_federation_b1.FnSharedWithTakesInOneMoreRuleAnywhere': WHATEVER THE INPUT: true; the input reads as it did. -/
def fnSharedWithTakesInOneMoreRuleAnywhereSpec : ChangeSpec := { name := "fnSharedWithTakesInOneMoreRuleAnywhere", fn := fun _ => fun
  | [d1, d2, d3] => { results := [.lit (.bool true)], args := [d1, d2, d3] }
  | _ => none }
def fnSharedWithTakesInOneMoreRuleAnywhereRow : OpenClaim := { program := "qxb6626510a", sum := "9f4fd155e0929c884a00cb3fea1ead1919357befbaea258d4e47e5787d965f78", func := "example.com/writd/writd/zzlaws_pkg_federation_b1.FnSharedWithTakesInOneMoreRuleAnywhere", spec := "fnSharedWithTakesInOneMoreRuleAnywhere", recurses := true, apart := false }
def FnSharedWithTakesInOneMoreRuleAnywhereSaid : Prop := fnSharedWithTakesInOneMoreRuleAnywhereRow.holds Try.pinned (OpenSpec.ofChange fnSharedWithTakesInOneMoreRuleAnywhereSpec)

/-- ITS FALSE NEIGHBOUR: 'it returns false'. Refute it at one input. -/
def fnSharedWithTakesInOneMoreRuleAnywhereWrong : ChangeSpec := { name := "fnSharedWithTakesInOneMoreRuleAnywhere", fn := fun _ => fun
  | [d1, d2, d3] => { results := [.lit (.bool false)], args := [d1, d2, d3] }
  | _ => none }
def FnSharedWithTakesInOneMoreRuleAnywhereWrongFalsely : Prop := fnSharedWithTakesInOneMoreRuleAnywhereRow.holds Try.pinned (OpenSpec.ofChange fnSharedWithTakesInOneMoreRuleAnywhereWrong)

end Rows
end Go.Proofs.Qxb6626510a
