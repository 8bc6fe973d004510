/-
  No cell of these rows narrows 'for every input' (looked for: loops, veiled, ifaces, maps, wideKeys, modest, calm, conditions, laid).
  DERIVED. THE GIVEN ROWS OF THIS SEAT. 4 by the template 'for every input the law returns true; each argument reads behind the call as it read before'; 0 by the template 'total and deterministic' (their statements: Qxb6609217aFmtTotals.lean).
  GIVEN WITH THE SEED: the statements are not yours to turn. If you find one false, say at which input.
  Laid BY PROGRAM, IN A SANDBOX (cutbox-rows.mjs): the forced cells as the released guide's own fill.sh prints them over the translation e70a47009446655a… (all of the seat's roots in one cut). By AI agents, Wed Nov 11 2026. No macro, syntax, notation, axiom, sorry.
-/
import Derived.Test.Qxb6609217aFmtChecked
import GoSem.Claim
import GoSem.ClaimJoined
import GoSem.ClaimMapViews
import Derived.JoinedTies
import Derived.KernelRfl
namespace Go.Proofs.Qxb6609217aFmt
/- THE CELL 'sum', in the pinned program and in every row, IS THE sha256 OF THE DUMP (.gsa) THAT Qxb6609217aFmtProg.lean LOADS. Nothing in Lean hashes anything: it is a label: what it is worth is what the hold of that sum in a sandbox is worth. -/
noncomputable def Tryf.pinned : Pinned := { name := "qxb6609217afmt", sum := "e70a47009446655a17a92231d26aa39d31cc60302ca082b7d228209dda2bdab6", checked := Tryf.checked }
namespace Rows
def none {H : Type} : Left H := { results := [], args := [] }

/-- 'zzlaws_pkg_graph_b1.FnKeepRootKeepsEachRootAndNumbersTextsOnce': WHATEVER THE INPUT: true; the input reads as it did. -/
def fnKeepRootKeepsEachRootAndNumbersTextsOnceSpec : ChangeSpec := { name := "fnKeepRootKeepsEachRootAndNumbersTextsOnce", fn := fun _ => fun
  | [d1, d2, d3] => { results := [.lit (.bool true)], args := [d1, d2, d3] }
  | _ => none }
def fnKeepRootKeepsEachRootAndNumbersTextsOnceRow : OpenClaim := { program := "qxb6609217afmt", sum := "e70a47009446655a17a92231d26aa39d31cc60302ca082b7d228209dda2bdab6", func := "example.com/heapscope/heapscope/zzlaws_pkg_graph_b1.FnKeepRootKeepsEachRootAndNumbersTextsOnce", spec := "fnKeepRootKeepsEachRootAndNumbersTextsOnce", stops := ["fmt.Sprintf", "fmt.errorf"], inPlace := ["fmt.Sprintf"], apart := false }
/-- NO THEOREM (fmt's text is open here; it may be false): for the released tool's asking of the row's closed facts alone. THE STATEMENT IS 'FnKeepRootKeepsEachRootAndNumbersTextsOnceToldSaid' (Qxb6609217aFmtCards.lean). -/
def FnKeepRootKeepsEachRootAndNumbersTextsOnceFormAsk : Prop := fnKeepRootKeepsEachRootAndNumbersTextsOnceRow.holds Tryf.pinned (OpenSpec.ofChange fnKeepRootKeepsEachRootAndNumbersTextsOnceSpec)

/-- ITS FALSE NEIGHBOUR: 'it returns false'. Refute it at one input. -/
def fnKeepRootKeepsEachRootAndNumbersTextsOnceWrong : ChangeSpec := { name := "fnKeepRootKeepsEachRootAndNumbersTextsOnce", fn := fun _ => fun
  | [d1, d2, d3] => { results := [.lit (.bool false)], args := [d1, d2, d3] }
  | _ => none }
def FnKeepRootKeepsEachRootAndNumbersTextsOnceWrongFormAsk : Prop := fnKeepRootKeepsEachRootAndNumbersTextsOnceRow.holds Tryf.pinned (OpenSpec.ofChange fnKeepRootKeepsEachRootAndNumbersTextsOnceWrong)

/-- 'zzlaws_pkg_graph_b1.FnKeepRootWithoutLabelsLeavesNoTrace': WHATEVER THE INPUT: true; the input reads as it did. -/
def fnKeepRootWithoutLabelsLeavesNoTraceSpec : ChangeSpec := { name := "fnKeepRootWithoutLabelsLeavesNoTrace", fn := fun _ => fun
  | [d1, d2] => { results := [.lit (.bool true)], args := [d1, d2] }
  | _ => none }
def fnKeepRootWithoutLabelsLeavesNoTraceRow : OpenClaim := { program := "qxb6609217afmt", sum := "e70a47009446655a17a92231d26aa39d31cc60302ca082b7d228209dda2bdab6", func := "example.com/heapscope/heapscope/zzlaws_pkg_graph_b1.FnKeepRootWithoutLabelsLeavesNoTrace", spec := "fnKeepRootWithoutLabelsLeavesNoTrace", stops := ["fmt.Sprintf", "fmt.errorf"], inPlace := ["fmt.Sprintf"], apart := false }
/-- NO THEOREM (fmt's text is open here; it may be false): for the released tool's asking of the row's closed facts alone. THE STATEMENT IS 'FnKeepRootWithoutLabelsLeavesNoTraceToldSaid' (Qxb6609217aFmtCards.lean). -/
def FnKeepRootWithoutLabelsLeavesNoTraceFormAsk : Prop := fnKeepRootWithoutLabelsLeavesNoTraceRow.holds Tryf.pinned (OpenSpec.ofChange fnKeepRootWithoutLabelsLeavesNoTraceSpec)

/-- ITS FALSE NEIGHBOUR: 'it returns false'. Refute it at one input. -/
def fnKeepRootWithoutLabelsLeavesNoTraceWrong : ChangeSpec := { name := "fnKeepRootWithoutLabelsLeavesNoTrace", fn := fun _ => fun
  | [d1, d2] => { results := [.lit (.bool false)], args := [d1, d2] }
  | _ => none }
def FnKeepRootWithoutLabelsLeavesNoTraceWrongFormAsk : Prop := fnKeepRootWithoutLabelsLeavesNoTraceRow.holds Tryf.pinned (OpenSpec.ofChange fnKeepRootWithoutLabelsLeavesNoTraceWrong)

/-- 'zzlaws_pkg_graph_b1.FnNewAddrIndexSortsAndTellsOverlap': WHATEVER THE INPUT: true; the input reads as it did. -/
def fnNewAddrIndexSortsAndTellsOverlapSpec : ChangeSpec := { name := "fnNewAddrIndexSortsAndTellsOverlap", fn := fun _ => fun
  | [d1, d2, d3] => { results := [.lit (.bool true)], args := [d1, d2, d3] }
  | _ => none }
def fnNewAddrIndexSortsAndTellsOverlapRow : OpenClaim := { program := "qxb6609217afmt", sum := "e70a47009446655a17a92231d26aa39d31cc60302ca082b7d228209dda2bdab6", func := "example.com/heapscope/heapscope/zzlaws_pkg_graph_b1.FnNewAddrIndexSortsAndTellsOverlap", spec := "fnNewAddrIndexSortsAndTellsOverlap", stops := ["fmt.Sprintf", "fmt.errorf"], inPlace := ["fmt.errorf"], unfollowed := true, recurses := true, apart := false }
/-- NO THEOREM (fmt's text is open here; it may be false): for the released tool's asking of the row's closed facts alone. THE STATEMENT IS 'FnNewAddrIndexSortsAndTellsOverlapToldSaid' (Qxb6609217aFmtCards.lean). -/
def FnNewAddrIndexSortsAndTellsOverlapFormAsk : Prop := fnNewAddrIndexSortsAndTellsOverlapRow.holds Tryf.pinned (OpenSpec.ofChange fnNewAddrIndexSortsAndTellsOverlapSpec)

/-- ITS FALSE NEIGHBOUR: 'it returns false'. Refute it at one input. -/
def fnNewAddrIndexSortsAndTellsOverlapWrong : ChangeSpec := { name := "fnNewAddrIndexSortsAndTellsOverlap", fn := fun _ => fun
  | [d1, d2, d3] => { results := [.lit (.bool false)], args := [d1, d2, d3] }
  | _ => none }
def FnNewAddrIndexSortsAndTellsOverlapWrongFormAsk : Prop := fnNewAddrIndexSortsAndTellsOverlapRow.holds Tryf.pinned (OpenSpec.ofChange fnNewAddrIndexSortsAndTellsOverlapWrong)

/-- 'zzlaws_pkg_graph_b1.FnNewAddrIndexFindsTheContainingObject': WHATEVER THE INPUT: true; the input reads as it did. -/
def fnNewAddrIndexFindsTheContainingObjectSpec : ChangeSpec := { name := "fnNewAddrIndexFindsTheContainingObject", fn := fun _ => fun
  | [d1, d2, d3, d4] => { results := [.lit (.bool true)], args := [d1, d2, d3, d4] }
  | _ => none }
def fnNewAddrIndexFindsTheContainingObjectRow : OpenClaim := { program := "qxb6609217afmt", sum := "e70a47009446655a17a92231d26aa39d31cc60302ca082b7d228209dda2bdab6", func := "example.com/heapscope/heapscope/zzlaws_pkg_graph_b1.FnNewAddrIndexFindsTheContainingObject", spec := "fnNewAddrIndexFindsTheContainingObject", stops := ["fmt.Sprintf", "fmt.errorf"], inPlace := ["fmt.errorf"], unfollowed := true, recurses := true, apart := false }
/-- NO THEOREM (fmt's text is open here; it may be false): for the released tool's asking of the row's closed facts alone. THE STATEMENT IS 'FnNewAddrIndexFindsTheContainingObjectToldSaid' (Qxb6609217aFmtCards.lean). -/
def FnNewAddrIndexFindsTheContainingObjectFormAsk : Prop := fnNewAddrIndexFindsTheContainingObjectRow.holds Tryf.pinned (OpenSpec.ofChange fnNewAddrIndexFindsTheContainingObjectSpec)

/-- ITS FALSE NEIGHBOUR: 'it returns false'. Refute it at one input. -/
def fnNewAddrIndexFindsTheContainingObjectWrong : ChangeSpec := { name := "fnNewAddrIndexFindsTheContainingObject", fn := fun _ => fun
  | [d1, d2, d3, d4] => { results := [.lit (.bool false)], args := [d1, d2, d3, d4] }
  | _ => none }
def FnNewAddrIndexFindsTheContainingObjectWrongFormAsk : Prop := fnNewAddrIndexFindsTheContainingObjectRow.holds Tryf.pinned (OpenSpec.ofChange fnNewAddrIndexFindsTheContainingObjectWrong)

end Rows
end Go.Proofs.Qxb6609217aFmt
