/-
  No cell of these rows narrows 'for every input' (looked for: loops, veiled, ifaces, maps, wideKeys, modest, calm, conditions, laid).
  DERIVED. THE GIVEN ROWS OF THIS SEAT. 2 by the template 'for every input the law returns true; each argument reads behind the call as it read before'; 0 by the template 'total and deterministic' (their statements: Qxb6626916aTotals.lean).
  GIVEN WITH THE SEED: the statements are not yours to turn. If you find one false, say at which input.
  Laid BY PROGRAM, IN A SANDBOX (cutbox-rows.mjs): the forced cells as the released guide's own fill.sh prints them over the translation 401a08c9af7f9dec… (all of the seat's roots in one cut). By AI agents, Wed Nov 11 2026. No macro, syntax, notation, axiom, sorry.
-/
import Derived.Test.Qxb6626916aChecked
import GoSem.Claim
import GoSem.ClaimJoined
import GoSem.ClaimMapViews
import Derived.JoinedTies
import Derived.KernelRfl
namespace Go.Proofs.Qxb6626916a
/- THE CELL 'sum', in the pinned program and in every row, IS THE sha256 OF THE DUMP (.gsa) THAT Qxb6626916aProg.lean LOADS. Nothing in Lean hashes anything: it is a label: what it is worth is what the hold of that sum in a sandbox is worth. -/
noncomputable def Try.pinned : Pinned := { name := "qxb6626916a", sum := "401a08c9af7f9decbdd742672719a967dc552ca955f896a460f886e844c66478", checked := Try.checked }
namespace Rows
def none {H : Type} : Left H := { results := [], args := [] }

/-- 'zzlaws_internal_budget_b1.FnASCIIIsLongestASCIIPrefix': WHATEVER THE INPUT: true; the input reads as it did. -/
def fnASCIIIsLongestASCIIPrefixSpec : ChangeSpec := { name := "fnASCIIIsLongestASCIIPrefix", fn := fun _ => fun
  | [d] => { results := [.lit (.bool true)], args := [d] }
  | _ => none }
def fnASCIIIsLongestASCIIPrefixRow : OpenClaim := { program := "qxb6626916a", sum := "401a08c9af7f9decbdd742672719a967dc552ca955f896a460f886e844c66478", func := "example.com/selvedge/selvedge/zzlaws_internal_budget_b1.FnASCIIIsLongestASCIIPrefix", spec := "fnASCIIIsLongestASCIIPrefix", apart := false }
def FnASCIIIsLongestASCIIPrefixSaid : Prop := fnASCIIIsLongestASCIIPrefixRow.holds Try.pinned (OpenSpec.ofChange fnASCIIIsLongestASCIIPrefixSpec)

/-- ITS FALSE NEIGHBOUR: 'it returns false'. Refute it at one input. -/
def fnASCIIIsLongestASCIIPrefixWrong : ChangeSpec := { name := "fnASCIIIsLongestASCIIPrefix", fn := fun _ => fun
  | [d] => { results := [.lit (.bool false)], args := [d] }
  | _ => none }
def FnASCIIIsLongestASCIIPrefixWrongFalsely : Prop := fnASCIIIsLongestASCIIPrefixRow.holds Try.pinned (OpenSpec.ofChange fnASCIIIsLongestASCIIPrefixWrong)

/-- 'zzlaws_internal_budget_b1.FnASCIIOverJoin': WHATEVER THE INPUT: true; the input reads as it did. -/
def fnASCIIOverJoinSpec : ChangeSpec := { name := "fnASCIIOverJoin", fn := fun _ => fun
  | [d1, d2] => { results := [.lit (.bool true)], args := [d1, d2] }
  | _ => none }
def fnASCIIOverJoinRow : OpenClaim := { program := "qxb6626916a", sum := "401a08c9af7f9decbdd742672719a967dc552ca955f896a460f886e844c66478", func := "example.com/selvedge/selvedge/zzlaws_internal_budget_b1.FnASCIIOverJoin", spec := "fnASCIIOverJoin", apart := false }
def FnASCIIOverJoinSaid : Prop := fnASCIIOverJoinRow.holds Try.pinned (OpenSpec.ofChange fnASCIIOverJoinSpec)

/-- ITS FALSE NEIGHBOUR: 'it returns false'. Refute it at one input. -/
def fnASCIIOverJoinWrong : ChangeSpec := { name := "fnASCIIOverJoin", fn := fun _ => fun
  | [d1, d2] => { results := [.lit (.bool false)], args := [d1, d2] }
  | _ => none }
def FnASCIIOverJoinWrongFalsely : Prop := fnASCIIOverJoinRow.holds Try.pinned (OpenSpec.ofChange fnASCIIOverJoinWrong)

end Rows
end Go.Proofs.Qxb6626916a
