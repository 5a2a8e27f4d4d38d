/-
  No cell of these rows narrows 'for every input' (looked for: loops, veiled, ifaces, maps, wideKeys, modest, calm, conditions, laid).
  DERIVED. THE GIVEN ROWS OF THIS SEAT. 5 by the template 'for every input the law returns true; each argument reads behind the call as it read before'; 0 by the template 'total and deterministic' (their statements: Qxb6601127aTotals.lean).
  GIVEN WITH THE SEED: the statements are not yours to turn. If you find one false, say at which input.
  Laid BY PROGRAM, IN A SANDBOX (cutbox-rows.mjs): the forced cells as the released guide's own fill.sh prints them over the translation 0748dbbd65e06b66… (all of the seat's roots in one cut). By AI agents, Wed Nov 11 2026. No macro, syntax, notation, axiom, sorry.
-/
import Derived.Test.Qxb6601127aChecked
import GoSem.Claim
import GoSem.ClaimJoined
import GoSem.ClaimMapViews
import Derived.JoinedTies
import Derived.KernelRfl
namespace Go.Proofs.Qxb6601127a
/- THE CELL 'sum', in the pinned program and in every row, IS THE sha256 OF THE DUMP (.gsa) THAT Qxb6601127aProg.lean LOADS. Nothing in Lean hashes anything: it is a label: what it is worth is what the hold of that sum in a sandbox is worth. -/
noncomputable def Try.pinned : Pinned := { name := "qxb6601127a", sum := "0748dbbd65e06b66adcb9358cc4437554fb36a4b0a0576a8e00d50090f97335e", checked := Try.checked }
namespace Rows
def none {H : Type} : Left H := { results := [], args := [] }

/-- 'zzlaws_pkg_graph_b1.FnPopTakesTopAndKeepsTheRest': WHATEVER THE INPUT: true; the input reads as it did. -/
def fnPopTakesTopAndKeepsTheRestSpec : ChangeSpec := { name := "fnPopTakesTopAndKeepsTheRest", fn := fun _ => fun
  | [d1, d2] => { results := [.lit (.bool true)], args := [d1, d2] }
  | _ => none }
def fnPopTakesTopAndKeepsTheRestRow : OpenClaim := { program := "qxb6601127a", sum := "0748dbbd65e06b66adcb9358cc4437554fb36a4b0a0576a8e00d50090f97335e", func := "example.com/isolith/isolith/zzlaws_pkg_graph_b1.FnPopTakesTopAndKeepsTheRest", spec := "fnPopTakesTopAndKeepsTheRest", apart := false }
def FnPopTakesTopAndKeepsTheRestSaid : Prop := fnPopTakesTopAndKeepsTheRestRow.holds Try.pinned (OpenSpec.ofChange fnPopTakesTopAndKeepsTheRestSpec)

/-- ITS FALSE NEIGHBOUR: 'it returns false'. Refute it at one input. -/
def fnPopTakesTopAndKeepsTheRestWrong : ChangeSpec := { name := "fnPopTakesTopAndKeepsTheRest", fn := fun _ => fun
  | [d1, d2] => { results := [.lit (.bool false)], args := [d1, d2] }
  | _ => none }
def FnPopTakesTopAndKeepsTheRestWrongFalsely : Prop := fnPopTakesTopAndKeepsTheRestRow.holds Try.pinned (OpenSpec.ofChange fnPopTakesTopAndKeepsTheRestWrong)

/-- 'zzlaws_pkg_graph_b1.FnPushAllThenPopAllSortsByKey': WHATEVER THE INPUT: true; the input reads as it did. -/
def fnPushAllThenPopAllSortsByKeySpec : ChangeSpec := { name := "fnPushAllThenPopAllSortsByKey", fn := fun _ => fun
  | [d1, d2] => { results := [.lit (.bool true)], args := [d1, d2] }
  | _ => none }
def fnPushAllThenPopAllSortsByKeyRow : OpenClaim := { program := "qxb6601127a", sum := "0748dbbd65e06b66adcb9358cc4437554fb36a4b0a0576a8e00d50090f97335e", func := "example.com/isolith/isolith/zzlaws_pkg_graph_b1.FnPushAllThenPopAllSortsByKey", spec := "fnPushAllThenPopAllSortsByKey", apart := false }
def FnPushAllThenPopAllSortsByKeySaid : Prop := fnPushAllThenPopAllSortsByKeyRow.holds Try.pinned (OpenSpec.ofChange fnPushAllThenPopAllSortsByKeySpec)

/-- ITS FALSE NEIGHBOUR: 'it returns false'. Refute it at one input. -/
def fnPushAllThenPopAllSortsByKeyWrong : ChangeSpec := { name := "fnPushAllThenPopAllSortsByKey", fn := fun _ => fun
  | [d1, d2] => { results := [.lit (.bool false)], args := [d1, d2] }
  | _ => none }
def FnPushAllThenPopAllSortsByKeyWrongFalsely : Prop := fnPushAllThenPopAllSortsByKeyRow.holds Try.pinned (OpenSpec.ofChange fnPushAllThenPopAllSortsByKeyWrong)

/-- 'zzlaws_pkg_graph_b1.FnGatherGroupsEdgesStablyByTail': WHATEVER THE INPUT: true; the input reads as it did. -/
def fnGatherGroupsEdgesStablyByTailSpec : ChangeSpec := { name := "fnGatherGroupsEdgesStablyByTail", fn := fun _ => fun
  | [d1, d2, d3, d4, d5, d6] => { results := [.lit (.bool true)], args := [d1, d2, d3, d4, d5, d6] }
  | _ => none }
def fnGatherGroupsEdgesStablyByTailRow : OpenClaim := { program := "qxb6601127a", sum := "0748dbbd65e06b66adcb9358cc4437554fb36a4b0a0576a8e00d50090f97335e", func := "example.com/isolith/isolith/zzlaws_pkg_graph_b1.FnGatherGroupsEdgesStablyByTail", spec := "fnGatherGroupsEdgesStablyByTail", unfollowed := true, recurses := true, apart := false }
def FnGatherGroupsEdgesStablyByTailSaid : Prop := fnGatherGroupsEdgesStablyByTailRow.holds Try.pinned (OpenSpec.ofChange fnGatherGroupsEdgesStablyByTailSpec)

/-- ITS FALSE NEIGHBOUR: 'it returns false'. Refute it at one input. -/
def fnGatherGroupsEdgesStablyByTailWrong : ChangeSpec := { name := "fnGatherGroupsEdgesStablyByTail", fn := fun _ => fun
  | [d1, d2, d3, d4, d5, d6] => { results := [.lit (.bool false)], args := [d1, d2, d3, d4, d5, d6] }
  | _ => none }
def FnGatherGroupsEdgesStablyByTailWrongFalsely : Prop := fnGatherGroupsEdgesStablyByTailRow.holds Try.pinned (OpenSpec.ofChange fnGatherGroupsEdgesStablyByTailWrong)

/-- 'zzlaws_pkg_graph_b1.FnGatherTwiceIsGatherOnce': WHATEVER THE INPUT: true; the input reads as it did. -/
def fnGatherTwiceIsGatherOnceSpec : ChangeSpec := { name := "fnGatherTwiceIsGatherOnce", fn := fun _ => fun
  | [d1, d2, d3, d4, d5] => { results := [.lit (.bool true)], args := [d1, d2, d3, d4, d5] }
  | _ => none }
def fnGatherTwiceIsGatherOnceRow : OpenClaim := { program := "qxb6601127a", sum := "0748dbbd65e06b66adcb9358cc4437554fb36a4b0a0576a8e00d50090f97335e", func := "example.com/isolith/isolith/zzlaws_pkg_graph_b1.FnGatherTwiceIsGatherOnce", spec := "fnGatherTwiceIsGatherOnce", unfollowed := true, recurses := true, apart := false }
def FnGatherTwiceIsGatherOnceSaid : Prop := fnGatherTwiceIsGatherOnceRow.holds Try.pinned (OpenSpec.ofChange fnGatherTwiceIsGatherOnceSpec)

/-- ITS FALSE NEIGHBOUR: 'it returns false'. Refute it at one input. -/
def fnGatherTwiceIsGatherOnceWrong : ChangeSpec := { name := "fnGatherTwiceIsGatherOnce", fn := fun _ => fun
  | [d1, d2, d3, d4, d5] => { results := [.lit (.bool false)], args := [d1, d2, d3, d4, d5] }
  | _ => none }
def FnGatherTwiceIsGatherOnceWrongFalsely : Prop := fnGatherTwiceIsGatherOnceRow.holds Try.pinned (OpenSpec.ofChange fnGatherTwiceIsGatherOnceWrong)

/-- 'zzlaws_pkg_graph_b1.FnNextIsGreedyTopologicalLabel': WHATEVER THE INPUT: true; the input reads as it did. -/
def fnNextIsGreedyTopologicalLabelSpec : ChangeSpec := { name := "fnNextIsGreedyTopologicalLabel", fn := fun _ => fun
  | [d1, d2, d3, d4] => { results := [.lit (.bool true)], args := [d1, d2, d3, d4] }
  | _ => none }
def fnNextIsGreedyTopologicalLabelRow : OpenClaim := { program := "qxb6601127a", sum := "0748dbbd65e06b66adcb9358cc4437554fb36a4b0a0576a8e00d50090f97335e", func := "example.com/isolith/isolith/zzlaws_pkg_graph_b1.FnNextIsGreedyTopologicalLabel", spec := "fnNextIsGreedyTopologicalLabel", apart := false }
def FnNextIsGreedyTopologicalLabelSaid : Prop := fnNextIsGreedyTopologicalLabelRow.holds Try.pinned (OpenSpec.ofChange fnNextIsGreedyTopologicalLabelSpec)

/-- ITS FALSE NEIGHBOUR: 'it returns false'. Refute it at one input. -/
def fnNextIsGreedyTopologicalLabelWrong : ChangeSpec := { name := "fnNextIsGreedyTopologicalLabel", fn := fun _ => fun
  | [d1, d2, d3, d4] => { results := [.lit (.bool false)], args := [d1, d2, d3, d4] }
  | _ => none }
def FnNextIsGreedyTopologicalLabelWrongFalsely : Prop := fnNextIsGreedyTopologicalLabelRow.holds Try.pinned (OpenSpec.ofChange fnNextIsGreedyTopologicalLabelWrong)

end Rows
end Go.Proofs.Qxb6601127a
