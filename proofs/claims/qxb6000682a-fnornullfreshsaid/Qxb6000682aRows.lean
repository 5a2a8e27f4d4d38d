/-
  No cell of these rows narrows 'for every input' (looked for: loops, veiled, ifaces, maps, wideKeys, modest, calm, conditions, laid).
  DERIVED. THE GIVEN ROWS OF THIS SEAT. 3 by the template 'for every input the law returns true; each argument reads behind the call as it read before'; 0 by the template 'total and deterministic' (their statements: Qxb6000682aTotals.lean).
  GIVEN WITH THE SEED: the statements are not yours to turn. If you find one false, say at which input.
  Laid BY PROGRAM, IN A SANDBOX (cutbox-rows.mjs): the forced cells as the released guide's own fill.sh prints them over the translation 94209f95c7092d88… (all of the seat's roots in one cut). By AI agents, Wed Nov 11 2026. No macro, syntax, notation, axiom, sorry.
-/
import Derived.Test.Qxb6000682aChecked
import GoSem.Claim
import GoSem.ClaimJoined
import GoSem.ClaimMapViews
import Derived.JoinedTies
import Derived.KernelRfl
namespace Go.Proofs.Qxb6000682a
/- THE CELL 'sum', in the pinned program and in every row, IS THE sha256 OF THE DUMP (.gsa) THAT Qxb6000682aProg.lean LOADS. Nothing in Lean hashes anything: it is a label: what it is worth is what the hold of that sum in a sandbox is worth. -/
noncomputable def Try.pinned : Pinned := { name := "qxb6000682a", sum := "94209f95c7092d8877c9b7f009d25e65f475952ffdd2c5eae889a4d566078ff0", checked := Try.checked }
namespace Rows
def none {H : Type} : Left H := { results := [], args := [] }

/-- 'zzlaws_internal_api_b1.FnOrNullFresh': WHATEVER THE INPUT: true; the input reads as it did. -/
def fnOrNullFreshSpec : ChangeSpec := { name := "fnOrNullFresh", fn := fun _ => fun
  | [d] => { results := [.lit (.bool true)], args := [d] }
  | _ => none }
def fnOrNullFreshRow : OpenClaim := { program := "qxb6000682a", sum := "94209f95c7092d8877c9b7f009d25e65f475952ffdd2c5eae889a4d566078ff0", func := "example.com/gatewarden/gatewarden/zzlaws_internal_api_b1.FnOrNullFresh", spec := "fnOrNullFresh", apart := false }
def FnOrNullFreshSaid : Prop := fnOrNullFreshRow.holds Try.pinned (OpenSpec.ofChange fnOrNullFreshSpec)

/-- ITS FALSE NEIGHBOUR: 'it returns false'. Refute it at one input. -/
def fnOrNullFreshWrong : ChangeSpec := { name := "fnOrNullFresh", fn := fun _ => fun
  | [d] => { results := [.lit (.bool false)], args := [d] }
  | _ => none }
def FnOrNullFreshWrongFalsely : Prop := fnOrNullFreshRow.holds Try.pinned (OpenSpec.ofChange fnOrNullFreshWrong)

/-- 'zzlaws_internal_api_b1.FnProfileValuesRoundTrip': WHATEVER THE INPUT: true; the input reads as it did. -/
def fnProfileValuesRoundTripSpec : ChangeSpec := { name := "fnProfileValuesRoundTrip", fn := fun _ => fun
  | [d1, d2, d3, d4] => { results := [.lit (.bool true)], args := [d1, d2, d3, d4] }
  | _ => none }
def fnProfileValuesRoundTripRow : OpenClaim := { program := "qxb6000682a", sum := "94209f95c7092d8877c9b7f009d25e65f475952ffdd2c5eae889a4d566078ff0", func := "example.com/gatewarden/gatewarden/zzlaws_internal_api_b1.FnProfileValuesRoundTrip", spec := "fnProfileValuesRoundTrip", apart := false }
def FnProfileValuesRoundTripSaid : Prop := fnProfileValuesRoundTripRow.holds Try.pinned (OpenSpec.ofChange fnProfileValuesRoundTripSpec)

/-- ITS FALSE NEIGHBOUR: 'it returns false'. Refute it at one input. -/
def fnProfileValuesRoundTripWrong : ChangeSpec := { name := "fnProfileValuesRoundTrip", fn := fun _ => fun
  | [d1, d2, d3, d4] => { results := [.lit (.bool false)], args := [d1, d2, d3, d4] }
  | _ => none }
def FnProfileValuesRoundTripWrongFalsely : Prop := fnProfileValuesRoundTripRow.holds Try.pinned (OpenSpec.ofChange fnProfileValuesRoundTripWrong)

/-- 'zzlaws_internal_api_b1.FnProfileValuesUnshared': WHATEVER THE INPUT: true; the input reads as it did. -/
def fnProfileValuesUnsharedSpec : ChangeSpec := { name := "fnProfileValuesUnshared", fn := fun _ => fun
  | [d1, d2, d3, d4] => { results := [.lit (.bool true)], args := [d1, d2, d3, d4] }
  | _ => none }
def fnProfileValuesUnsharedRow : OpenClaim := { program := "qxb6000682a", sum := "94209f95c7092d8877c9b7f009d25e65f475952ffdd2c5eae889a4d566078ff0", func := "example.com/gatewarden/gatewarden/zzlaws_internal_api_b1.FnProfileValuesUnshared", spec := "fnProfileValuesUnshared", apart := false }
def FnProfileValuesUnsharedSaid : Prop := fnProfileValuesUnsharedRow.holds Try.pinned (OpenSpec.ofChange fnProfileValuesUnsharedSpec)

/-- ITS FALSE NEIGHBOUR: 'it returns false'. Refute it at one input. -/
def fnProfileValuesUnsharedWrong : ChangeSpec := { name := "fnProfileValuesUnshared", fn := fun _ => fun
  | [d1, d2, d3, d4] => { results := [.lit (.bool false)], args := [d1, d2, d3, d4] }
  | _ => none }
def FnProfileValuesUnsharedWrongFalsely : Prop := fnProfileValuesUnsharedRow.holds Try.pinned (OpenSpec.ofChange fnProfileValuesUnsharedWrong)

end Rows
end Go.Proofs.Qxb6000682a
