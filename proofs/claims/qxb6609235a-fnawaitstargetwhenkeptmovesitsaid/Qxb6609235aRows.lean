/-
  No cell of these rows narrows 'for every input' (looked for: loops, veiled, ifaces, maps, wideKeys, modest, calm, conditions, laid).
  DERIVED. THE GIVEN ROWS OF THIS SEAT. 3 by the template 'for every input the law returns true; each argument reads behind the call as it read before'; 0 by the template 'total and deterministic' (their statements: Qxb6609235aTotals.lean).
  GIVEN WITH THE SEED: the statements are not yours to turn. If you find one false, say at which input.
  Laid BY PROGRAM, IN A SANDBOX (cutbox-rows.mjs): the forced cells as the released guide's own fill.sh prints them over the translation 5a2825caf0677e85… (all of the seat's roots in one cut). By AI agents, Wed Nov 11 2026. No macro, syntax, notation, axiom, sorry.
-/
import Derived.Test.Qxb6609235aChecked
import GoSem.Claim
import GoSem.ClaimJoined
import GoSem.ClaimMapViews
import Derived.JoinedTies
import Derived.KernelRfl
namespace Go.Proofs.Qxb6609235a
/- THE CELL 'sum', in the pinned program and in every row, IS THE sha256 OF THE DUMP (.gsa) THAT Qxb6609235aProg.lean LOADS. Nothing in Lean hashes anything: it is a label: what it is worth is what the hold of that sum in a sandbox is worth. -/
noncomputable def Try.pinned : Pinned := { name := "qxb6609235a", sum := "5a2825caf0677e8505768967d2c3fc7b943973f06dada4a1e06a63223ba1286a", checked := Try.checked }
namespace Rows
def none {H : Type} : Left H := { results := [], args := [] }

/-- 'zzlaws_internal_decision_b1.FnPendingCountsReplicasNotReady': WHATEVER THE INPUT: true; the input reads as it did. -/
def fnPendingCountsReplicasNotReadySpec : ChangeSpec := { name := "fnPendingCountsReplicasNotReady", fn := fun _ => fun
  | [d1, d2, d3, d4, d5, d6, d7] => { results := [.lit (.bool true)], args := [d1, d2, d3, d4, d5, d6, d7] }
  | _ => none }
def fnPendingCountsReplicasNotReadyRow : OpenClaim := { program := "qxb6609235a", sum := "5a2825caf0677e8505768967d2c3fc7b943973f06dada4a1e06a63223ba1286a", func := "example.com/headroom/headroom/zzlaws_internal_decision_b1.FnPendingCountsReplicasNotReady", spec := "fnPendingCountsReplicasNotReady", apart := false }
def FnPendingCountsReplicasNotReadySaid : Prop := fnPendingCountsReplicasNotReadyRow.holds Try.pinned (OpenSpec.ofChange fnPendingCountsReplicasNotReadySpec)

/-- ITS FALSE NEIGHBOUR: 'it returns false'. Refute it at one input. -/
def fnPendingCountsReplicasNotReadyWrong : ChangeSpec := { name := "fnPendingCountsReplicasNotReady", fn := fun _ => fun
  | [d1, d2, d3, d4, d5, d6, d7] => { results := [.lit (.bool false)], args := [d1, d2, d3, d4, d5, d6, d7] }
  | _ => none }
def FnPendingCountsReplicasNotReadyWrongFalsely : Prop := fnPendingCountsReplicasNotReadyRow.holds Try.pinned (OpenSpec.ofChange fnPendingCountsReplicasNotReadyWrong)

/-- 'zzlaws_internal_decision_b1.FnAwaitsTargetWhenKeptMovesIt': WHATEVER THE INPUT: true; the input reads as it did. -/
def fnAwaitsTargetWhenKeptMovesItSpec : ChangeSpec := { name := "fnAwaitsTargetWhenKeptMovesIt", fn := fun _ => fun
  | [d1, d2, d3, d4, d5, d6, d7, d8] => { results := [.lit (.bool true)], args := [d1, d2, d3, d4, d5, d6, d7, d8] }
  | _ => none }
def fnAwaitsTargetWhenKeptMovesItRow : OpenClaim := { program := "qxb6609235a", sum := "5a2825caf0677e8505768967d2c3fc7b943973f06dada4a1e06a63223ba1286a", func := "example.com/headroom/headroom/zzlaws_internal_decision_b1.FnAwaitsTargetWhenKeptMovesIt", spec := "fnAwaitsTargetWhenKeptMovesIt", apart := false }
def FnAwaitsTargetWhenKeptMovesItSaid : Prop := fnAwaitsTargetWhenKeptMovesItRow.holds Try.pinned (OpenSpec.ofChange fnAwaitsTargetWhenKeptMovesItSpec)

/-- ITS FALSE NEIGHBOUR: 'it returns false'. Refute it at one input. -/
def fnAwaitsTargetWhenKeptMovesItWrong : ChangeSpec := { name := "fnAwaitsTargetWhenKeptMovesIt", fn := fun _ => fun
  | [d1, d2, d3, d4, d5, d6, d7, d8] => { results := [.lit (.bool false)], args := [d1, d2, d3, d4, d5, d6, d7, d8] }
  | _ => none }
def FnAwaitsTargetWhenKeptMovesItWrongFalsely : Prop := fnAwaitsTargetWhenKeptMovesItRow.holds Try.pinned (OpenSpec.ofChange fnAwaitsTargetWhenKeptMovesItWrong)

/-- 'zzlaws_internal_decision_b1.FnKeptIsWithinBoundsAndSettles': WHATEVER THE INPUT: true; the input reads as it did. -/
def fnKeptIsWithinBoundsAndSettlesSpec : ChangeSpec := { name := "fnKeptIsWithinBoundsAndSettles", fn := fun _ => fun
  | [d1, d2, d3, d4, d5, d6, d7, d8] => { results := [.lit (.bool true)], args := [d1, d2, d3, d4, d5, d6, d7, d8] }
  | _ => none }
def fnKeptIsWithinBoundsAndSettlesRow : OpenClaim := { program := "qxb6609235a", sum := "5a2825caf0677e8505768967d2c3fc7b943973f06dada4a1e06a63223ba1286a", func := "example.com/headroom/headroom/zzlaws_internal_decision_b1.FnKeptIsWithinBoundsAndSettles", spec := "fnKeptIsWithinBoundsAndSettles", apart := false }
def FnKeptIsWithinBoundsAndSettlesSaid : Prop := fnKeptIsWithinBoundsAndSettlesRow.holds Try.pinned (OpenSpec.ofChange fnKeptIsWithinBoundsAndSettlesSpec)

/-- ITS FALSE NEIGHBOUR: 'it returns false'. Refute it at one input. -/
def fnKeptIsWithinBoundsAndSettlesWrong : ChangeSpec := { name := "fnKeptIsWithinBoundsAndSettles", fn := fun _ => fun
  | [d1, d2, d3, d4, d5, d6, d7, d8] => { results := [.lit (.bool false)], args := [d1, d2, d3, d4, d5, d6, d7, d8] }
  | _ => none }
def FnKeptIsWithinBoundsAndSettlesWrongFalsely : Prop := fnKeptIsWithinBoundsAndSettlesRow.holds Try.pinned (OpenSpec.ofChange fnKeptIsWithinBoundsAndSettlesWrong)

end Rows
end Go.Proofs.Qxb6609235a
