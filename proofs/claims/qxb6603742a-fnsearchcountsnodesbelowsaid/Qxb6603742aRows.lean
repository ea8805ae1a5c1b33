/-
  No cell of these rows narrows 'for every input' (looked for: loops, veiled, ifaces, maps, wideKeys, modest, calm, conditions, laid).
  DERIVED. THE GIVEN ROWS OF THIS SEAT. 5 by the template 'for every input the law returns true; each argument reads behind the call as it read before'; 0 by the template 'total and deterministic' (their statements: Qxb6603742aTotals.lean).
  GIVEN WITH THE SEED: the statements are not yours to turn. If you find one false, say at which input.
  Laid BY PROGRAM, IN A SANDBOX (cutbox-rows.mjs): the forced cells as the released guide's own fill.sh prints them over the translation 3e39a19fe323aee5… (all of the seat's roots in one cut). By AI agents, Wed Nov 11 2026. No macro, syntax, notation, axiom, sorry.
-/
import Derived.Test.Qxb6603742aChecked
import GoSem.Claim
import GoSem.ClaimJoined
import GoSem.ClaimMapViews
import Derived.JoinedTies
import Derived.KernelRfl
namespace Go.Proofs.Qxb6603742a
/- THE CELL 'sum', in the pinned program and in every row, IS THE sha256 OF THE DUMP (.gsa) THAT Qxb6603742aProg.lean LOADS. Nothing in Lean hashes anything: it is a label: what it is worth is what the hold of that sum in a sandbox is worth. -/
noncomputable def Try.pinned : Pinned := { name := "qxb6603742a", sum := "3e39a19fe323aee5eeba4d166f9920420201a7e83700b622a16179904b898b25", checked := Try.checked }
namespace Rows
def none {H : Type} : Left H := { results := [], args := [] }

/-- 'zzlaws_internal_chord_b1.FnSearchCountsNodesBelow': WHATEVER THE INPUT: true; the input reads as it did. -/
def fnSearchCountsNodesBelowSpec : ChangeSpec := { name := "fnSearchCountsNodesBelow", fn := fun _ => fun
  | [d1, d2, d3, d4, d5] => { results := [.lit (.bool true)], args := [d1, d2, d3, d4, d5] }
  | _ => none }
def fnSearchCountsNodesBelowRow : OpenClaim := { program := "qxb6603742a", sum := "3e39a19fe323aee5eeba4d166f9920420201a7e83700b622a16179904b898b25", func := "example.com/swarmgauge/swarmgauge/zzlaws_internal_chord_b1.FnSearchCountsNodesBelow", spec := "fnSearchCountsNodesBelow", apart := false }
def FnSearchCountsNodesBelowSaid : Prop := fnSearchCountsNodesBelowRow.holds Try.pinned (OpenSpec.ofChange fnSearchCountsNodesBelowSpec)

/-- ITS FALSE NEIGHBOUR: 'it returns false'. Refute it at one input. -/
def fnSearchCountsNodesBelowWrong : ChangeSpec := { name := "fnSearchCountsNodesBelow", fn := fun _ => fun
  | [d1, d2, d3, d4, d5] => { results := [.lit (.bool false)], args := [d1, d2, d3, d4, d5] }
  | _ => none }
def FnSearchCountsNodesBelowWrongFalsely : Prop := fnSearchCountsNodesBelowRow.holds Try.pinned (OpenSpec.ofChange fnSearchCountsNodesBelowWrong)

/-- 'zzlaws_internal_chord_b1.FnSuccessorIsLeastNodeAtOrAfter': WHATEVER THE INPUT: true; the input reads as it did. -/
def fnSuccessorIsLeastNodeAtOrAfterSpec : ChangeSpec := { name := "fnSuccessorIsLeastNodeAtOrAfter", fn := fun _ => fun
  | [d1, d2, d3, d4, d5] => { results := [.lit (.bool true)], args := [d1, d2, d3, d4, d5] }
  | _ => none }
def fnSuccessorIsLeastNodeAtOrAfterRow : OpenClaim := { program := "qxb6603742a", sum := "3e39a19fe323aee5eeba4d166f9920420201a7e83700b622a16179904b898b25", func := "example.com/swarmgauge/swarmgauge/zzlaws_internal_chord_b1.FnSuccessorIsLeastNodeAtOrAfter", spec := "fnSuccessorIsLeastNodeAtOrAfter", apart := false }
def FnSuccessorIsLeastNodeAtOrAfterSaid : Prop := fnSuccessorIsLeastNodeAtOrAfterRow.holds Try.pinned (OpenSpec.ofChange fnSuccessorIsLeastNodeAtOrAfterSpec)

/-- ITS FALSE NEIGHBOUR: 'it returns false'. Refute it at one input. -/
def fnSuccessorIsLeastNodeAtOrAfterWrong : ChangeSpec := { name := "fnSuccessorIsLeastNodeAtOrAfter", fn := fun _ => fun
  | [d1, d2, d3, d4, d5] => { results := [.lit (.bool false)], args := [d1, d2, d3, d4, d5] }
  | _ => none }
def FnSuccessorIsLeastNodeAtOrAfterWrongFalsely : Prop := fnSuccessorIsLeastNodeAtOrAfterRow.holds Try.pinned (OpenSpec.ofChange fnSuccessorIsLeastNodeAtOrAfterWrong)

/-- 'zzlaws_internal_chord_b1.FnSuccessorIsIdempotent': WHATEVER THE INPUT: true; the input reads as it did. -/
def fnSuccessorIsIdempotentSpec : ChangeSpec := { name := "fnSuccessorIsIdempotent", fn := fun _ => fun
  | [d1, d2, d3, d4, d5] => { results := [.lit (.bool true)], args := [d1, d2, d3, d4, d5] }
  | _ => none }
def fnSuccessorIsIdempotentRow : OpenClaim := { program := "qxb6603742a", sum := "3e39a19fe323aee5eeba4d166f9920420201a7e83700b622a16179904b898b25", func := "example.com/swarmgauge/swarmgauge/zzlaws_internal_chord_b1.FnSuccessorIsIdempotent", spec := "fnSuccessorIsIdempotent", apart := false }
def FnSuccessorIsIdempotentSaid : Prop := fnSuccessorIsIdempotentRow.holds Try.pinned (OpenSpec.ofChange fnSuccessorIsIdempotentSpec)

/-- ITS FALSE NEIGHBOUR: 'it returns false'. Refute it at one input. -/
def fnSuccessorIsIdempotentWrong : ChangeSpec := { name := "fnSuccessorIsIdempotent", fn := fun _ => fun
  | [d1, d2, d3, d4, d5] => { results := [.lit (.bool false)], args := [d1, d2, d3, d4, d5] }
  | _ => none }
def FnSuccessorIsIdempotentWrongFalsely : Prop := fnSuccessorIsIdempotentRow.holds Try.pinned (OpenSpec.ofChange fnSuccessorIsIdempotentWrong)

/-- 'zzlaws_internal_chord_b1.FnSubringComposes': WHATEVER THE INPUT: true; the input reads as it did. -/
def fnSubringComposesSpec : ChangeSpec := { name := "fnSubringComposes", fn := fun _ => fun
  | [d1, d2, d3, d4, d5, d6] => { results := [.lit (.bool true)], args := [d1, d2, d3, d4, d5, d6] }
  | _ => none }
def fnSubringComposesRow : OpenClaim := { program := "qxb6603742a", sum := "3e39a19fe323aee5eeba4d166f9920420201a7e83700b622a16179904b898b25", func := "example.com/swarmgauge/swarmgauge/zzlaws_internal_chord_b1.FnSubringComposes", spec := "fnSubringComposes", apart := false }
def FnSubringComposesSaid : Prop := fnSubringComposesRow.holds Try.pinned (OpenSpec.ofChange fnSubringComposesSpec)

/-- ITS FALSE NEIGHBOUR: 'it returns false'. Refute it at one input. -/
def fnSubringComposesWrong : ChangeSpec := { name := "fnSubringComposes", fn := fun _ => fun
  | [d1, d2, d3, d4, d5, d6] => { results := [.lit (.bool false)], args := [d1, d2, d3, d4, d5, d6] }
  | _ => none }
def FnSubringComposesWrongFalsely : Prop := fnSubringComposesRow.holds Try.pinned (OpenSpec.ofChange fnSubringComposesWrong)

/-- 'zzlaws_internal_chord_b1.FnSubringKeepsOrder': WHATEVER THE INPUT: true; the input reads as it did. -/
def fnSubringKeepsOrderSpec : ChangeSpec := { name := "fnSubringKeepsOrder", fn := fun _ => fun
  | [d1, d2, d3, d4, d5] => { results := [.lit (.bool true)], args := [d1, d2, d3, d4, d5] }
  | _ => none }
def fnSubringKeepsOrderRow : OpenClaim := { program := "qxb6603742a", sum := "3e39a19fe323aee5eeba4d166f9920420201a7e83700b622a16179904b898b25", func := "example.com/swarmgauge/swarmgauge/zzlaws_internal_chord_b1.FnSubringKeepsOrder", spec := "fnSubringKeepsOrder", apart := false }
def FnSubringKeepsOrderSaid : Prop := fnSubringKeepsOrderRow.holds Try.pinned (OpenSpec.ofChange fnSubringKeepsOrderSpec)

/-- ITS FALSE NEIGHBOUR: 'it returns false'. Refute it at one input. -/
def fnSubringKeepsOrderWrong : ChangeSpec := { name := "fnSubringKeepsOrder", fn := fun _ => fun
  | [d1, d2, d3, d4, d5] => { results := [.lit (.bool false)], args := [d1, d2, d3, d4, d5] }
  | _ => none }
def FnSubringKeepsOrderWrongFalsely : Prop := fnSubringKeepsOrderRow.holds Try.pinned (OpenSpec.ofChange fnSubringKeepsOrderWrong)

end Rows
end Go.Proofs.Qxb6603742a
