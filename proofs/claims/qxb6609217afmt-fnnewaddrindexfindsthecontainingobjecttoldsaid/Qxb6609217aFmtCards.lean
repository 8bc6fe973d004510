/-
  DERIVED. GIVEN WITH THE SEED: THE CARDS: each row of Qxb6609217aFmtRows.lean that lists a variable, with what it lists TIED to the program's text (the seventh form; the later family's looks); each row that meets fmt, with fmt's text TOLD by the authors' own Lean function (tested against real Go, not proved from fmt's source: count such statements apart). THE CARD IS WHAT COUNTS. Prove the row's statement (the work); the ties are given (Qxb6609217aFmtTie.lean); close each card by the builder's one call (the guide's Derived/Test/ToyasCard.lean, 'card_holds'). Laid BY PROGRAM, IN A SANDBOX (cutbox-door.mjs). By AI agents, Wed Nov 11 2026. No macro, syntax, notation, axiom, sorry.
-/
import Derived.Test.Qxb6609217aFmtRows
import GoSem.ClaimSeven
namespace Go.Proofs.Qxb6609217aFmt
namespace Rows

/-- THE TOLD CARD OF 'zzlaws_pkg_graph_b1.FnKeepRootKeepsEachRootAndNumbersTextsOnce'. -/
def fnKeepRootKeepsEachRootAndNumbersTextsOnceCard : Claim7 := { stood := { row := fnKeepRootKeepsEachRootAndNumbersTextsOnceRow, standIns := [], harness := (true, "db43f0f5dbc16e49f3f7cd6d873926875a49e5036d0cc7d01cf29163741fcbe9"), looks := false }, told := true, goes := false }
def FnKeepRootKeepsEachRootAndNumbersTextsOnceToldSaid : Prop := Claim7.holds Tryf.pinned (.plain (OpenSpec.ofChange fnKeepRootKeepsEachRootAndNumbersTextsOnceSpec)) fnKeepRootKeepsEachRootAndNumbersTextsOnceCard
/-- ITS FALSE NEIGHBOUR. Refute it at one input. -/
def FnKeepRootKeepsEachRootAndNumbersTextsOnceToldWrongFalsely : Prop := Claim7.holds Tryf.pinned (.plain (OpenSpec.ofChange fnKeepRootKeepsEachRootAndNumbersTextsOnceWrong)) fnKeepRootKeepsEachRootAndNumbersTextsOnceCard

/-- THE TOLD CARD OF 'zzlaws_pkg_graph_b1.FnKeepRootWithoutLabelsLeavesNoTrace'. -/
def fnKeepRootWithoutLabelsLeavesNoTraceCard : Claim7 := { stood := { row := fnKeepRootWithoutLabelsLeavesNoTraceRow, standIns := [], harness := (true, "db43f0f5dbc16e49f3f7cd6d873926875a49e5036d0cc7d01cf29163741fcbe9"), looks := false }, told := true, goes := false }
def FnKeepRootWithoutLabelsLeavesNoTraceToldSaid : Prop := Claim7.holds Tryf.pinned (.plain (OpenSpec.ofChange fnKeepRootWithoutLabelsLeavesNoTraceSpec)) fnKeepRootWithoutLabelsLeavesNoTraceCard
/-- ITS FALSE NEIGHBOUR. Refute it at one input. -/
def FnKeepRootWithoutLabelsLeavesNoTraceToldWrongFalsely : Prop := Claim7.holds Tryf.pinned (.plain (OpenSpec.ofChange fnKeepRootWithoutLabelsLeavesNoTraceWrong)) fnKeepRootWithoutLabelsLeavesNoTraceCard

/-- THE TOLD CARD OF 'zzlaws_pkg_graph_b1.FnNewAddrIndexSortsAndTellsOverlap'. -/
def fnNewAddrIndexSortsAndTellsOverlapCard : Claim7 := { stood := { row := fnNewAddrIndexSortsAndTellsOverlapRow, standIns := [], harness := (true, "db43f0f5dbc16e49f3f7cd6d873926875a49e5036d0cc7d01cf29163741fcbe9"), looks := false }, told := true, goes := false }
def FnNewAddrIndexSortsAndTellsOverlapToldSaid : Prop := Claim7.holds Tryf.pinned (.plain (OpenSpec.ofChange fnNewAddrIndexSortsAndTellsOverlapSpec)) fnNewAddrIndexSortsAndTellsOverlapCard
/-- ITS FALSE NEIGHBOUR. Refute it at one input. -/
def FnNewAddrIndexSortsAndTellsOverlapToldWrongFalsely : Prop := Claim7.holds Tryf.pinned (.plain (OpenSpec.ofChange fnNewAddrIndexSortsAndTellsOverlapWrong)) fnNewAddrIndexSortsAndTellsOverlapCard

/-- THE TOLD CARD OF 'zzlaws_pkg_graph_b1.FnNewAddrIndexFindsTheContainingObject'. -/
def fnNewAddrIndexFindsTheContainingObjectCard : Claim7 := { stood := { row := fnNewAddrIndexFindsTheContainingObjectRow, standIns := [], harness := (true, "db43f0f5dbc16e49f3f7cd6d873926875a49e5036d0cc7d01cf29163741fcbe9"), looks := false }, told := true, goes := false }
def FnNewAddrIndexFindsTheContainingObjectToldSaid : Prop := Claim7.holds Tryf.pinned (.plain (OpenSpec.ofChange fnNewAddrIndexFindsTheContainingObjectSpec)) fnNewAddrIndexFindsTheContainingObjectCard
/-- ITS FALSE NEIGHBOUR. Refute it at one input. -/
def FnNewAddrIndexFindsTheContainingObjectToldWrongFalsely : Prop := Claim7.holds Tryf.pinned (.plain (OpenSpec.ofChange fnNewAddrIndexFindsTheContainingObjectWrong)) fnNewAddrIndexFindsTheContainingObjectCard
end Rows
end Go.Proofs.Qxb6609217aFmt
