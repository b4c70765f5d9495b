/-
  No cell of these rows narrows 'for every input' (looked for: loops, veiled, ifaces, maps, wideKeys, modest, calm, conditions, laid).
  DERIVED. THE GIVEN ROWS OF THIS SEAT. 3 by the template 'for every input the law returns true; each argument reads behind the call as it read before'; 0 by the template 'total and deterministic' (their statements: Qxb6003137aTotals.lean).
  GIVEN WITH THE SEED: the statements are not yours to turn. If you find one false, say at which input.
  Laid BY PROGRAM, IN A SANDBOX (cutbox-rows.mjs): the forced cells as the released guide's own fill.sh prints them over the translation ebaee5798af3cfe2… (all of the seat's roots in one cut). By AI agents, Wed Nov 11 2026. No macro, syntax, notation, axiom, sorry.
-/
import Derived.Test.Qxb6003137aChecked
import GoSem.Claim
import GoSem.ClaimJoined
import GoSem.ClaimMapViews
import Derived.JoinedTies
import Derived.KernelRfl
namespace Go.Proofs.Qxb6003137a
/- THE CELL 'sum', in the pinned program and in every row, IS THE sha256 OF THE DUMP (.gsa) THAT Qxb6003137aProg.lean LOADS. Nothing in Lean hashes anything: it is a label: what it is worth is what the hold of that sum in a sandbox is worth. -/
noncomputable def Try.pinned : Pinned := { name := "qxb6003137a", sum := "ebaee5798af3cfe2f6251692c5233ed7a0ec673e457bdd216828e8d327729933", checked := Try.checked }
namespace Rows
def none {H : Type} : Left H := { results := [], args := [] }

/-- 'zzlaws_internal_lock_b1.FnCliqueStepsMatchGreedyCliqueCount': WHATEVER THE INPUT: true; the input reads as it did. -/
def fnCliqueStepsMatchGreedyCliqueCountSpec : ChangeSpec := { name := "fnCliqueStepsMatchGreedyCliqueCount", fn := fun _ => fun
  | [d1, d2, d3, d4, d5] => { results := [.lit (.bool true)], args := [d1, d2, d3, d4, d5] }
  | _ => none }
def fnCliqueStepsMatchGreedyCliqueCountRow : OpenClaim := { program := "qxb6003137a", sum := "ebaee5798af3cfe2f6251692c5233ed7a0ec673e457bdd216828e8d327729933", func := "example.com/waitgraph/waitgraph/zzlaws_internal_lock_b1.FnCliqueStepsMatchGreedyCliqueCount", spec := "fnCliqueStepsMatchGreedyCliqueCount", apart := false }
def FnCliqueStepsMatchGreedyCliqueCountSaid : Prop := fnCliqueStepsMatchGreedyCliqueCountRow.holds Try.pinned (OpenSpec.ofChange fnCliqueStepsMatchGreedyCliqueCountSpec)

/-- ITS FALSE NEIGHBOUR: 'it returns false'. Refute it at one input. -/
def fnCliqueStepsMatchGreedyCliqueCountWrong : ChangeSpec := { name := "fnCliqueStepsMatchGreedyCliqueCount", fn := fun _ => fun
  | [d1, d2, d3, d4, d5] => { results := [.lit (.bool false)], args := [d1, d2, d3, d4, d5] }
  | _ => none }
def FnCliqueStepsMatchGreedyCliqueCountWrongFalsely : Prop := fnCliqueStepsMatchGreedyCliqueCountRow.holds Try.pinned (OpenSpec.ofChange fnCliqueStepsMatchGreedyCliqueCountWrong)

/-- 'zzlaws_internal_lock_b1.FnSearchLeavesDepthFirstPostorder': WHATEVER THE INPUT: true; the input reads as it did. -/
def fnSearchLeavesDepthFirstPostorderSpec : ChangeSpec := { name := "fnSearchLeavesDepthFirstPostorder", fn := fun _ => fun
  | [d1, d2, d3, d4, d5] => { results := [.lit (.bool true)], args := [d1, d2, d3, d4, d5] }
  | _ => none }
def fnSearchLeavesDepthFirstPostorderRow : OpenClaim := { program := "qxb6003137a", sum := "ebaee5798af3cfe2f6251692c5233ed7a0ec673e457bdd216828e8d327729933", func := "example.com/waitgraph/waitgraph/zzlaws_internal_lock_b1.FnSearchLeavesDepthFirstPostorder", spec := "fnSearchLeavesDepthFirstPostorder", recurses := true, apart := false }
def FnSearchLeavesDepthFirstPostorderSaid : Prop := fnSearchLeavesDepthFirstPostorderRow.holds Try.pinned (OpenSpec.ofChange fnSearchLeavesDepthFirstPostorderSpec)

/-- ITS FALSE NEIGHBOUR: 'it returns false'. Refute it at one input. -/
def fnSearchLeavesDepthFirstPostorderWrong : ChangeSpec := { name := "fnSearchLeavesDepthFirstPostorder", fn := fun _ => fun
  | [d1, d2, d3, d4, d5] => { results := [.lit (.bool false)], args := [d1, d2, d3, d4, d5] }
  | _ => none }
def FnSearchLeavesDepthFirstPostorderWrongFalsely : Prop := fnSearchLeavesDepthFirstPostorderRow.holds Try.pinned (OpenSpec.ofChange fnSearchLeavesDepthFirstPostorderWrong)

/-- 'zzlaws_internal_lock_b1.FnCycleStepsCountsPathsClosingAtRoot': WHATEVER THE INPUT: true; the input reads as it did. -/
def fnCycleStepsCountsPathsClosingAtRootSpec : ChangeSpec := { name := "fnCycleStepsCountsPathsClosingAtRoot", fn := fun _ => fun
  | [d1, d2, d3, d4] => { results := [.lit (.bool true)], args := [d1, d2, d3, d4] }
  | _ => none }
def fnCycleStepsCountsPathsClosingAtRootRow : OpenClaim := { program := "qxb6003137a", sum := "ebaee5798af3cfe2f6251692c5233ed7a0ec673e457bdd216828e8d327729933", func := "example.com/waitgraph/waitgraph/zzlaws_internal_lock_b1.FnCycleStepsCountsPathsClosingAtRoot", spec := "fnCycleStepsCountsPathsClosingAtRoot", recurses := true, apart := false }
def FnCycleStepsCountsPathsClosingAtRootSaid : Prop := fnCycleStepsCountsPathsClosingAtRootRow.holds Try.pinned (OpenSpec.ofChange fnCycleStepsCountsPathsClosingAtRootSpec)

/-- ITS FALSE NEIGHBOUR: 'it returns false'. Refute it at one input. -/
def fnCycleStepsCountsPathsClosingAtRootWrong : ChangeSpec := { name := "fnCycleStepsCountsPathsClosingAtRoot", fn := fun _ => fun
  | [d1, d2, d3, d4] => { results := [.lit (.bool false)], args := [d1, d2, d3, d4] }
  | _ => none }
def FnCycleStepsCountsPathsClosingAtRootWrongFalsely : Prop := fnCycleStepsCountsPathsClosingAtRootRow.holds Try.pinned (OpenSpec.ofChange fnCycleStepsCountsPathsClosingAtRootWrong)

end Rows
end Go.Proofs.Qxb6003137a
