/-
  No cell of these rows narrows 'for every input' (looked for: loops, veiled, ifaces, maps, wideKeys, modest, calm, conditions, laid).
  DERIVED. THE GIVEN ROWS OF THIS SEAT. 2 by the template 'for every input the law returns true; each argument reads behind the call as it read before'; 0 by the template 'total and deterministic' (their statements: Qxb6626482aTotals.lean).
  GIVEN WITH THE SEED: the statements are not yours to turn. If you find one false, say at which input.
  Laid BY PROGRAM, IN A SANDBOX (cutbox-rows.mjs): the forced cells as the released guide's own fill.sh prints them over the translation 1409cf20af73400b… (all of the seat's roots in one cut). By AI agents, Wed Nov 11 2026. No macro, syntax, notation, axiom, sorry.
-/
import Derived.Test.Qxb6626482aChecked
import GoSem.Claim
import GoSem.ClaimJoined
import GoSem.ClaimMapViews
import Derived.JoinedTies
import Derived.KernelRfl
namespace Go.Proofs.Qxb6626482a
/- THE CELL 'sum', in the pinned program and in every row, IS THE sha256 OF THE DUMP (.gsa) THAT Qxb6626482aProg.lean LOADS. Nothing in Lean hashes anything: it is a label: what it is worth is what the hold of that sum in a sandbox is worth. -/
noncomputable def Try.pinned : Pinned := { name := "qxb6626482a", sum := "1409cf20af73400bf32304df20a92bd7a0b94725d913b0af237efca93a7344e6", checked := Try.checked }
namespace Rows
def none {H : Type} : Left H := { results := [], args := [] }

/-- 'zzlaws_internal_stamp_b1.FnTakenMarksExactlyTheChosenRows': WHATEVER THE INPUT: true; the input reads as it did. -/
def fnTakenMarksExactlyTheChosenRowsSpec : ChangeSpec := { name := "fnTakenMarksExactlyTheChosenRows", fn := fun _ => fun
  | [d1, d2, d3, d4] => { results := [.lit (.bool true)], args := [d1, d2, d3, d4] }
  | _ => none }
def fnTakenMarksExactlyTheChosenRowsRow : OpenClaim := { program := "qxb6626482a", sum := "1409cf20af73400bf32304df20a92bd7a0b94725d913b0af237efca93a7344e6", func := "example.com/precede/precede/zzlaws_internal_stamp_b1.FnTakenMarksExactlyTheChosenRows", spec := "fnTakenMarksExactlyTheChosenRows", apart := false }
def FnTakenMarksExactlyTheChosenRowsSaid : Prop := fnTakenMarksExactlyTheChosenRowsRow.holds Try.pinned (OpenSpec.ofChange fnTakenMarksExactlyTheChosenRowsSpec)

/-- ITS FALSE NEIGHBOUR: 'it returns false'. Refute it at one input. -/
def fnTakenMarksExactlyTheChosenRowsWrong : ChangeSpec := { name := "fnTakenMarksExactlyTheChosenRows", fn := fun _ => fun
  | [d1, d2, d3, d4] => { results := [.lit (.bool false)], args := [d1, d2, d3, d4] }
  | _ => none }
def FnTakenMarksExactlyTheChosenRowsWrongFalsely : Prop := fnTakenMarksExactlyTheChosenRowsRow.holds Try.pinned (OpenSpec.ofChange fnTakenMarksExactlyTheChosenRowsWrong)

/-- 'zzlaws_internal_stamp_b1.FnTakenOwnRowAddsExactlyThePrincipal': WHATEVER THE INPUT: true; the input reads as it did. -/
def fnTakenOwnRowAddsExactlyThePrincipalSpec : ChangeSpec := { name := "fnTakenOwnRowAddsExactlyThePrincipal", fn := fun _ => fun
  | [d1, d2, d3, d4] => { results := [.lit (.bool true)], args := [d1, d2, d3, d4] }
  | _ => none }
def fnTakenOwnRowAddsExactlyThePrincipalRow : OpenClaim := { program := "qxb6626482a", sum := "1409cf20af73400bf32304df20a92bd7a0b94725d913b0af237efca93a7344e6", func := "example.com/precede/precede/zzlaws_internal_stamp_b1.FnTakenOwnRowAddsExactlyThePrincipal", spec := "fnTakenOwnRowAddsExactlyThePrincipal", apart := false }
def FnTakenOwnRowAddsExactlyThePrincipalSaid : Prop := fnTakenOwnRowAddsExactlyThePrincipalRow.holds Try.pinned (OpenSpec.ofChange fnTakenOwnRowAddsExactlyThePrincipalSpec)

/-- ITS FALSE NEIGHBOUR: 'it returns false'. Refute it at one input. -/
def fnTakenOwnRowAddsExactlyThePrincipalWrong : ChangeSpec := { name := "fnTakenOwnRowAddsExactlyThePrincipal", fn := fun _ => fun
  | [d1, d2, d3, d4] => { results := [.lit (.bool false)], args := [d1, d2, d3, d4] }
  | _ => none }
def FnTakenOwnRowAddsExactlyThePrincipalWrongFalsely : Prop := fnTakenOwnRowAddsExactlyThePrincipalRow.holds Try.pinned (OpenSpec.ofChange fnTakenOwnRowAddsExactlyThePrincipalWrong)

end Rows
end Go.Proofs.Qxb6626482a
