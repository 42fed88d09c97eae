/-
  No cell of these rows narrows 'for every input' (looked for: loops, veiled, ifaces, maps, wideKeys, modest, calm, conditions, laid).
  DERIVED. THE GIVEN ROWS OF THIS SEAT. 2 by the template 'for every input the law returns true; each argument reads behind the call as it read before'; 0 by the template 'total and deterministic' (their statements: Qxb6626448aTotals.lean).
  GIVEN WITH THE SEED: the statements are not yours to turn. If you find one false, say at which input.
  Laid BY PROGRAM, IN A SANDBOX (cutbox-rows.mjs): the forced cells as the released guide's own fill.sh prints them over the translation 373aa96398ebd8f9… (all of the seat's roots in one cut). By AI agents, Wed Nov 11 2026. No macro, syntax, notation, axiom, sorry.
-/
import Derived.Test.Qxb6626448aChecked
import GoSem.Claim
import GoSem.ClaimJoined
import GoSem.ClaimMapViews
import Derived.JoinedTies
import Derived.KernelRfl
namespace Go.Proofs.Qxb6626448a
/- THE CELL 'sum', in the pinned program and in every row, IS THE sha256 OF THE DUMP (.gsa) THAT Qxb6626448aProg.lean LOADS. Nothing in Lean hashes anything: it is a label: what it is worth is what the hold of that sum in a sandbox is worth. -/
noncomputable def Try.pinned : Pinned := { name := "qxb6626448a", sum := "373aa96398ebd8f916717a54ef032f5ad3b1f0702b4fc06443bc973e727f5f82", checked := Try.checked }
namespace Rows
def none {H : Type} : Left H := { results := [], args := [] }

/-- 'zzlaws_bench_b1.FnPercentileIsLeastValueCoveringPPercent': WHATEVER THE INPUT: true; the input reads as it did. -/
def fnPercentileIsLeastValueCoveringPPercentSpec : ChangeSpec := { name := "fnPercentileIsLeastValueCoveringPPercent", fn := fun _ => fun
  | [d1, d2, d3, d4, d5] => { results := [.lit (.bool true)], args := [d1, d2, d3, d4, d5] }
  | _ => none }
def fnPercentileIsLeastValueCoveringPPercentRow : OpenClaim := { program := "qxb6626448a", sum := "373aa96398ebd8f916717a54ef032f5ad3b1f0702b4fc06443bc973e727f5f82", func := "example.com/baton/baton/zzlaws_bench_b1.FnPercentileIsLeastValueCoveringPPercent", spec := "fnPercentileIsLeastValueCoveringPPercent", apart := false }
def FnPercentileIsLeastValueCoveringPPercentSaid : Prop := fnPercentileIsLeastValueCoveringPPercentRow.holds Try.pinned (OpenSpec.ofChange fnPercentileIsLeastValueCoveringPPercentSpec)

/-- ITS FALSE NEIGHBOUR: 'it returns false'. Refute it at one input. -/
def fnPercentileIsLeastValueCoveringPPercentWrong : ChangeSpec := { name := "fnPercentileIsLeastValueCoveringPPercent", fn := fun _ => fun
  | [d1, d2, d3, d4, d5] => { results := [.lit (.bool false)], args := [d1, d2, d3, d4, d5] }
  | _ => none }
def FnPercentileIsLeastValueCoveringPPercentWrongFalsely : Prop := fnPercentileIsLeastValueCoveringPPercentRow.holds Try.pinned (OpenSpec.ofChange fnPercentileIsLeastValueCoveringPPercentWrong)

/-- 'zzlaws_bench_b1.FnPercentileUnchangedWhenEachRoundTripRepeated': WHATEVER THE INPUT: true; the input reads as it did. -/
def fnPercentileUnchangedWhenEachRoundTripRepeatedSpec : ChangeSpec := { name := "fnPercentileUnchangedWhenEachRoundTripRepeated", fn := fun _ => fun
  | [d1, d2, d3, d4, d5, d6] => { results := [.lit (.bool true)], args := [d1, d2, d3, d4, d5, d6] }
  | _ => none }
def fnPercentileUnchangedWhenEachRoundTripRepeatedRow : OpenClaim := { program := "qxb6626448a", sum := "373aa96398ebd8f916717a54ef032f5ad3b1f0702b4fc06443bc973e727f5f82", func := "example.com/baton/baton/zzlaws_bench_b1.FnPercentileUnchangedWhenEachRoundTripRepeated", spec := "fnPercentileUnchangedWhenEachRoundTripRepeated", apart := false }
def FnPercentileUnchangedWhenEachRoundTripRepeatedSaid : Prop := fnPercentileUnchangedWhenEachRoundTripRepeatedRow.holds Try.pinned (OpenSpec.ofChange fnPercentileUnchangedWhenEachRoundTripRepeatedSpec)

/-- ITS FALSE NEIGHBOUR: 'it returns false'. Refute it at one input. -/
def fnPercentileUnchangedWhenEachRoundTripRepeatedWrong : ChangeSpec := { name := "fnPercentileUnchangedWhenEachRoundTripRepeated", fn := fun _ => fun
  | [d1, d2, d3, d4, d5, d6] => { results := [.lit (.bool false)], args := [d1, d2, d3, d4, d5, d6] }
  | _ => none }
def FnPercentileUnchangedWhenEachRoundTripRepeatedWrongFalsely : Prop := fnPercentileUnchangedWhenEachRoundTripRepeatedRow.holds Try.pinned (OpenSpec.ofChange fnPercentileUnchangedWhenEachRoundTripRepeatedWrong)

end Rows
end Go.Proofs.Qxb6626448a
