import Derived.Test.Qxb6609217aFmtWalkA
import Derived.ProofKit
import Derived.OpenShut
import Derived.SliceStrings
import Derived.Deep.Slices
namespace Go.Proofs.Qxb6609217aFmt
open Go.ChangeShapes Go.WideShapes

theorem strArg_of {W : World} {a : Addr} {len : Nat} {ss : List ByteArray} (hl : len ≤ ss.length)
    (hc : ∀ i, i < ss.length → W.cell? (a.add i) = some (.string (ss.getD i ByteArray.empty))) : StrArg W (some a) len (ss.take len) := by
  refine ⟨by simp; omega, fun h0 => ?_⟩
  obtain ⟨b, off, spot⟩ := a
  have h := hc 0 (by omega)
  have hs : spot = none := by simpa [Addr.add] using World.cell?_spot h
  subst hs
  refine ⟨b, off, rfl, World.block_lt_of_cell? W _ h, fun i hi => ?_⟩
  have := hc i (by omega)
  rw [show (⟨b, off, none⟩ : Addr).add i = ⟨b, off + i, none⟩ by simp [Addr.add]] at this
  rw [this]
  simp [List.getD, hi]

theorem strArg_open {H : Type} {enc : TypeId × Value → H} {W : World} {base : Nat} {sp : Nat → Bool} {held : Bool} {ao : Option Addr} {len cap : Nat} {d : DataW H} {p : List MemPlace}
    (h : DataW.Trod enc Tryf.prog W base sp held 22 (.slice ao len cap) d p) : ∃ ss, len ≤ maxLen ∧ StrArg W ao len ss := by
  obtain ⟨fuel, hf⟩ := h
  rcases open_strings Tryf.underlying22 Tryf.underlying9 (by kernel_rfl) hf with ⟨hcs, _⟩ | ⟨x, l, c, ss, hcs, _, hl, hm, hz, _, hcell, hws⟩
  · simp [Value.cells] at hcs
    obtain ⟨rfl, rfl, rfl⟩ := hcs
    exact ⟨[], Nat.zero_le _, rfl, fun h => by omega⟩
  · simp [Value.cells] at hcs
    obtain ⟨rfl, rfl, rfl⟩ := hcs
    exact ⟨_, by omega, strArg_of (by rw [hz]; split <;> omega) hcell⟩

theorem Tryf.cells3 : Tryf.prog.cellsOf 3 = 1 := by kernel_rfl
theorem Tryf.cells9 : Tryf.prog.cellsOf 9 = 1 := by kernel_rfl
theorem Tryf.cells27' : Tryf.prog.cellsOf 27 = 1 := by kernel_rfl
theorem Tryf.cells28 : Tryf.prog.cellsOf 28 = 2 := by kernel_rfl
theorem Tryf.cells30 : Tryf.prog.cellsOf 30 = 5 := by kernel_rfl

theorem len5 {α : Type} {l : List α} (h : l.length = 5) : ∃ a b c d e, l = [a, b, c, d, e] := by
  match l, h with
  | [a, b, c, d, e], _ => exact ⟨a, b, c, d, e, rfl⟩
theorem len4 {α : Type} {l : List α} (h : l.length = 4) : ∃ a b c d, l = [a, b, c, d] := by
  match l, h with
  | [a, b, c, d], _ => exact ⟨a, b, c, d, rfl⟩
theorem len2 {α : Type} {l : List α} (h : l.length = 2) : ∃ a b, l = [a, b] := by
  match l, h with
  | [a, b], _ => exact ⟨a, b, rfl⟩

/-- A root's five cells, out of its reading. -/
theorem root_cells {H : Type} {enc : TypeId × Value → H} {W : World} {base : Nat} {sp : Nat → Bool} {held : Bool} {fuel : Nat} {cs : List Value} {x : DataW H × List MemPlace}
    (h : DataW.trod enc Tryf.prog W base sp held fuel 30 cs = some x) : ∃ r : RIn, r.ok ∧ cs = [.int .i64 r.kind, .int .u64 r.addr, .string r.text, .int .u64 r.n0, .int .u64 r.n1] := by
  obtain ⟨xs, n, _, _, hl, hxl, hf⟩ := DataW.trod_struct Tryf.underlying30 h
  rw [Tryf.cells30] at hl
  obtain ⟨c0, c1, c2, c3, c4, rfl⟩ := len5 hl
  obtain ⟨x0, x1, x2, x3, rfl⟩ := len4 hxl
  have h0 : DataW.trod enc Tryf.prog W base sp held n 3 (([c0, c1, c2, c3, c4].drop 0).take (Tryf.prog.cellsOf 3)) = some x0 := hf 0 _ rfl
  have h1 : DataW.trod enc Tryf.prog W base sp held n 27 (([c0, c1, c2, c3, c4].drop 1).take (Tryf.prog.cellsOf 27)) = some x1 := hf 1 _ rfl
  have h2 : DataW.trod enc Tryf.prog W base sp held n 9 (([c0, c1, c2, c3, c4].drop 2).take (Tryf.prog.cellsOf 9)) = some x2 := hf 2 _ rfl
  have h3 : DataW.trod enc Tryf.prog W base sp held n 28 (([c0, c1, c2, c3, c4].drop 3).take (Tryf.prog.cellsOf 28)) = some x3 := hf 3 _ rfl
  rw [Tryf.cells3] at h0
  rw [Tryf.cells27'] at h1
  rw [Tryf.cells9] at h2
  rw [Tryf.cells28] at h3
  obtain ⟨kind, e0, _, w0⟩ := DataW.trod_int Tryf.underlying3 h0
  obtain ⟨addr, e1, _, w1⟩ := DataW.trod_int Tryf.underlying27 h1
  obtain ⟨text, e2, _, w2⟩ := DataW.trod_string Tryf.underlying9 h2
  obtain ⟨ys, m, _, _, hyl, hyn, hy⟩ := DataW.trod_array Tryf.underlying28 h3
  obtain ⟨y0, y1, rfl⟩ := len2 hyn
  have g0 := hy 0 (by omega)
  have g1 := hy 1 (by omega)
  simp only [Tryf.cells27'] at g0 g1
  obtain ⟨n0, e3, _, w3⟩ := DataW.trod_int Tryf.underlying27 g0
  obtain ⟨n1, e4, _, w4⟩ := DataW.trod_int Tryf.underlying27 g1
  simp at e0 e1 e2 e3 e4
  subst e0 e1 e2 e3 e4
  exact ⟨⟨kind, addr, text, n0, n1⟩, ⟨w0, w1, w2, w3, w4⟩, rfl⟩

theorem rootArg_open {H : Type} {enc : TypeId × Value → H} {W : World} {base : Nat} {sp : Nat → Bool} {held : Bool} {ao : Option Addr} {len cap : Nat} {d : DataW H} {p : List MemPlace}
    (h : DataW.Trod enc Tryf.prog W base sp held 23 (.slice ao len cap) d p) : ∃ rs, len ≤ maxLen ∧ RootArg W ao len rs := by
  obtain ⟨fuel, hf⟩ := h
  rcases Deep.open_slice Tryf.underlying23 hf with ⟨hcs, _⟩ | ⟨a, l, c, m, n, D, Pl, hcs, _, hl, hm, hmm, _, hel⟩
  · simp [Value.cells] at hcs
    obtain ⟨rfl, rfl, rfl⟩ := hcs
    exact ⟨[], Nat.zero_le _, rfl, (fun r hr => by simp at hr), fun h => by omega⟩
  · simp [Value.cells] at hcs
    obtain ⟨rfl, rfl, rfl⟩ := hcs
    have hlm : len ≤ m := by rw [hmm]; split <;> omega
    have each : ∀ i, i < len → ∃ r : RIn, r.ok ∧ W.cells? base (a.add (i * 5)) 5 = some [.int .i64 r.kind, .int .u64 r.addr, .string r.text, .int .u64 r.n0, .int .u64 r.n1] := by
      intro i hi
      obtain ⟨cs, h1, h2⟩ := hel i (by omega)
      obtain ⟨r, hr, rfl⟩ := root_cells h2
      exact ⟨r, hr, by rw [← Tryf.cells30]; exact h1⟩
    let f : Nat → RIn := fun i => if hi : i < len then Classical.choose (each i hi) else RIn.zero
    have hfs : ∀ i, i < len → (f i).ok ∧ W.cells? base (a.add (i * 5)) 5 = some [.int .i64 (f i).kind, .int .u64 (f i).addr, .string (f i).text, .int .u64 (f i).n0, .int .u64 (f i).n1] := by
      intro i hi
      have := Classical.choose_spec (each i hi)
      simp only [f, dif_pos hi]
      exact this
    refine ⟨(List.range len).map f, by omega, by simp, fun r hr => ?_, fun h0 => ?_⟩
    · obtain ⟨i, hi, rfl⟩ := List.mem_map.1 hr
      exact (hfs i (List.mem_range.1 hi)).1
    · obtain ⟨b, off, spot⟩ := a
      have hc0 := (World.cells?_some (hfs 0 h0).2).2.2 0 (by omega)
      have hs : spot = none := by
        have : W.cell? ((⟨b, off, spot⟩ : Addr).add 0) = some (.int .i64 (f 0).kind) := by simpa [Deep.add_add] using hc0
        simpa [Addr.add] using World.cell?_spot this
      subst hs
      have hadd : ∀ i j, ((⟨b, off, none⟩ : Addr).add i).add j = ⟨b, off + i + j, none⟩ := fun i j => by rw [Deep.add_add]; simp [Addr.add, Nat.add_assoc]
      have hcell : ∀ i, i < len → RootAt W b (off + i * 5) (f i) := by
        intro i hi
        have h1 := (World.cells?_some (hfs i hi).2).2.2
        have g0 := h1 0 (by omega)
        have g1 := h1 1 (by omega)
        have g2 := h1 2 (by omega)
        have g3 := h1 3 (by omega)
        have g4 := h1 4 (by omega)
        rw [hadd] at g0 g1 g2 g3 g4
        exact ⟨g0, g1, g2, g3, g4⟩
      refine ⟨b, off, rfl, World.block_lt_of_cell? W _ (hcell 0 h0).1, fun i hi => ?_⟩
      have : ((List.range len).map f).getD i RIn.zero = f i := by simp [List.getD, hi]
      rw [this]
      exact hcell i hi
end Go.Proofs.Qxb6609217aFmt
