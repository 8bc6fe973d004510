/-
  No cell of these rows narrows 'for every input' (looked for: loops, veiled, ifaces, maps, wideKeys, modest, calm, conditions, laid).
  DERIVED. THE GIVEN ROWS OF THIS SEAT. 1 by the template 'for every input the law returns true; each argument reads behind the call as it read before'; 0 by the template 'total and deterministic' (their statements: Qxb6609217aTotals.lean).
  GIVEN WITH THE SEED: the statements are not yours to turn. If you find one false, say at which input.
  Laid BY PROGRAM, IN A SANDBOX (cutbox-rows.mjs): the forced cells as the released guide's own fill.sh prints them over the translation 0368b33cb0f79ad0… (all of the seat's roots in one cut). By AI agents, Wed Nov 11 2026. No macro, syntax, notation, axiom, sorry.
-/
import Derived.Test.Qxb6609217aChecked
import GoSem.Claim
import GoSem.ClaimJoined
import GoSem.ClaimMapViews
import Derived.JoinedTies
import Derived.KernelRfl
namespace Go.Proofs.Qxb6609217a
/- THE CELL 'sum', in the pinned program and in every row, IS THE sha256 OF THE DUMP (.gsa) THAT Qxb6609217aProg.lean LOADS. Nothing in Lean hashes anything: it is a label: what it is worth is what the hold of that sum in a sandbox is worth. -/
noncomputable def Try.pinned : Pinned := { name := "qxb6609217a", sum := "0368b33cb0f79ad09c770c9698c9a4a394a25b4a64e7576befc10d9dce856163", checked := Try.checked }
namespace Rows
def none {H : Type} : Left H := { results := [], args := [] }

/-- 'zzlaws_pkg_graph_b1.FnAddRootKindNumbersKindsInOrder': WHATEVER THE INPUT: true; the input reads as it did. -/
def fnAddRootKindNumbersKindsInOrderSpec : ChangeSpec := { name := "fnAddRootKindNumbersKindsInOrder", fn := fun _ => fun
  | [d1, d2, d3, d4] => { results := [.lit (.bool true)], args := [d1, d2, d3, d4] }
  | _ => none }
def fnAddRootKindNumbersKindsInOrderRow : OpenClaim := { program := "qxb6609217a", sum := "0368b33cb0f79ad09c770c9698c9a4a394a25b4a64e7576befc10d9dce856163", func := "example.com/heapscope/heapscope/zzlaws_pkg_graph_b1.FnAddRootKindNumbersKindsInOrder", spec := "fnAddRootKindNumbersKindsInOrder", apart := false }
def FnAddRootKindNumbersKindsInOrderSaid : Prop := fnAddRootKindNumbersKindsInOrderRow.holds Try.pinned (OpenSpec.ofChange fnAddRootKindNumbersKindsInOrderSpec)

/-- ITS FALSE NEIGHBOUR: 'it returns false'. Refute it at one input. -/
def fnAddRootKindNumbersKindsInOrderWrong : ChangeSpec := { name := "fnAddRootKindNumbersKindsInOrder", fn := fun _ => fun
  | [d1, d2, d3, d4] => { results := [.lit (.bool false)], args := [d1, d2, d3, d4] }
  | _ => none }
def FnAddRootKindNumbersKindsInOrderWrongFalsely : Prop := fnAddRootKindNumbersKindsInOrderRow.holds Try.pinned (OpenSpec.ofChange fnAddRootKindNumbersKindsInOrderWrong)

end Rows
end Go.Proofs.Qxb6609217a
