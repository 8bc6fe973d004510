import Derived.Test.Qxb6609217aFmtLawA
import Derived.Laws.MakeOwn
import Derived.ChangeKeysEq
namespace Go.Proofs.Qxb6609217aFmt
open Go.RowKit

theorem KB.below {w w' : World} {B : Nat} {o i l : Bool} {nk : Nat} {ts : List ByteArray} {rs : List KR} (h : KB w B o i l nk ts rs) (hb : Below w.heap.size w w') : KB w' B o i l nk ts rs :=
  h.keeps ⟨hb.os, hb.tape, hb.output, hb.size, fun k hk _ => hb.block k hk⟩

theorem Keeps.drewN {S : Nat → Prop} {w w1 : World} (h : Keeps S w w1) (n : Nat) : Keeps S w (w1.drewN n) := ⟨h.os, h.tape, h.output, h.size, h.block⟩

theorem Blk.below {w w' : World} {B N : Nat} {t : TypeId} {cs : Array Value} (h : Blk w B t cs) (hb : Below N w w') (hN : B < N) : Blk w' B t cs := by
  unfold Blk at h ⊢; rw [hb.block B hN]; exact h

/-- The cells of 'want' behind k rounds. -/
def wcs (rs : List RIn) (n k : Nat) : Array Value := ((List.range n).map fun j => Value.int .i64 (if j < k then (wantAt rs j : Int) else 0)).toArray
theorem wcs_get (rs : List RIn) {n k j : Nat} (h : j < k) (hk : k ≤ n) : (wcs rs n k)[j]? = some (.int .i64 (wantAt rs j)) := by
  simp [wcs, show j < n by omega, h]
theorem wcs_at (rs : List RIn) {n k j : Nat} (h : j < n) : (wcs rs n k)[j]? = some (.int .i64 (if j < k then (wantAt rs j : Int) else 0)) := by
  simp [wcs, h]
theorem wcs_set (rs : List RIn) {n k : Nat} (h : k < n) : (wcs rs n k).setIfInBounds k (.int .i64 (wantAt rs k)) = wcs rs n (k + 1) := by
  apply Array.ext_getElem?
  intro j
  rw [Array.getElem?_setIfInBounds]
  by_cases hj : j < n
  · rw [wcs_at rs hj, wcs_at rs hj]
    by_cases e : k = j
    · subst e
      rw [if_pos rfl, if_pos (by simp [wcs]; exact h)]
      simp
    · rw [if_neg e]
      congr 2
      by_cases h1 : j < k
      · rw [if_pos h1, if_pos (by omega)]
      · rw [if_neg h1, if_neg (by omega)]
  · have e1 : (wcs rs n k)[j]? = none := by simp [wcs]; omega
    have e2 : (wcs rs n (k + 1))[j]? = none := by simp [wcs]; omega
    rw [e1, e2, if_neg (by omega)]
theorem wcs_start (rs : List RIn) (n : Nat) : madeCells #[Value.int .i64 0] n = wcs rs n 0 := by
  apply Array.ext'
  rw [toList_madeCells_one]
  simp [wcs, List.map_const']

theorem Tryf.info3 : (Tryf.prog.info? 3).map (fun i => (i.zero, i.size, i.bytes)) = some (some (.int .i64 0), 1, 8) := by kernel_rfl
theorem make_want (rs : List RIn) (n : Nat) (hn : n ≤ 1048576) (w : World) :
    (Instr.makeSlice 33 (.int .i64 (n : Int)) (.int .i64 (n : Int))).run Tryf.prog w = .ok (.slice (some ⟨w.heap.size, 0, none⟩) n n) (w.alloc (.cells (wcs rs n 0) 3)) := by
  obtain ⟨i0, hi0, hz0, hz1, hz2⟩ := info_parts Tryf.info3
  have := run_make (P := Tryf.prog) w 33 3 i0 (.int .i64 0) Tryf.underlying33 hi0 hz0 .i64 .i64 n n (by omega) (Int.le_refl _) (by rw [hz2]; omega) (by omega)
  rw [this, hz1]
  simp only [Int.toNat_natCast, Value.cells, Nat.mul_one]
  rw [wcs_start rs n]

theorem str_ne {a b : ByteArray} (h : a ≠ b) : (a.toList == b.toList) = false := by
  rw [beq_eq_false_iff_ne]
  intro e
  rw [ByteArray.toList_eq, ByteArray.toList_eq] at e
  exact h (by_inj e)

/-- A kept root's five cells, out of the row of the roots. -/
theorem KR.cell_at (rs : List KR) : ∀ (k j : Nat) (r : KR), rs[k]? = some r → j < 5 → (rs.flatMap KR.cells)[k * 5 + j]? = r.cells[j]? := by
  induction rs with
  | nil => intro k j r h; simp at h
  | cons r0 rs ih =>
    intro k j r h hj
    cases k with
    | zero =>
      simp at h
      subst h
      simp only [List.flatMap_cons, Nat.zero_mul, Nat.zero_add]
      rw [List.getElem?_append_left (by simp [KR.cells]; omega)]
    | succ k =>
      simp at h
      simp only [List.flatMap_cons]
      rw [List.getElem?_append_right (by simp [KR.cells]; omega)]
      have := ih k j r h hj
      rw [← this]
      congr 1
      simp [KR.cells]
      omega

set_option maxRecDepth 100000 in
theorem Tryf.cells27 : Tryf.prog.cellsOf 27 = 1 := by kernel_rfl
theorem Tryf.info27 : (Tryf.prog.info? 27).map (fun i => (i.zero, i.size, i.bytes)) = some (some (.int .u64 0), 1, 8) := by kernel_rfl
theorem part27_0 (x y : Value) (w : World) : (part 27 #[x, y] 0).run Tryf.prog w = .ok x w := by kernel_rfl
theorem part27_1 (x y : Value) (w : World) : (part 27 #[x, y] 1).run Tryf.prog w = .ok y w := by kernel_rfl
set_option maxRecDepth 100000 in
theorem neq28 (a b : Int) (w : World) : (binOp .neq 28 (.agg #[.int .u64 a, .int .u64 b]) (.agg #[.int .u64 a, .int .u64 b])).run Tryf.prog w = .ok (.bool false) w := by
  obtain ⟨i0, hi0, _, _, _⟩ := info_parts Tryf.info27
  have h := run_equalIn_array (P := Tryf.prog) w 9999 (t := 28) (e := 27) (n := 2) #[.int .u64 a, .int .u64 b] #[.int .u64 a, .int .u64 b] Tryf.underlying28 hi0
  rw [Tryf.cells27] at h
  simp [Op.eqItems, List.range_succ, part27_0, part27_1, run_equalIn_int w 9998 27 .u64 .u64 _ _ Tryf.underlying27] at h
  simp only [binOp]
  simp [Op.equal, Op.maxDepth, h]

theorem krTo_get (rs : List RIn) {n k : Nat} (h : k < n) : (krTo rs n)[k]? = some (krAt rs k) := by simp [krTo, h]
theorem wrap_u32_small {x : Int} (h0 : 0 ≤ x) (h1 : x ≤ 1048576) : IntKind.u32.wrap x = x := by rw [wrap_u32]; omega

/-- What is read of the kept roots and texts in every later world. -/
theorem read_root {W wy : World} {B g c k n : Nat} {rs : List RIn} (ho : W.ownsRow (B + 1) 78 5 (.slice (some ⟨g, 0, none⟩) n c) n ((krTo rs n).flatMap KR.cells)) (hk : k < n) (hb : Below W.heap.size W wy) :
    wy.cell? ⟨g, k * 5, none⟩ = some (.int .u64 (krAt rs k).addr) ∧ wy.cell? ⟨g, k * 5 + 1, none⟩ = some (.int .u64 (krAt rs k).n0) ∧ wy.cell? ⟨g, k * 5 + 2, none⟩ = some (.int .u64 (krAt rs k).n1) ∧
      wy.cell? ⟨g, k * 5 + 3, none⟩ = some (.int .u32 (krAt rs k).text) ∧ wy.cell? ⟨g, k * 5 + 4, none⟩ = some (.int .u32 (krAt rs k).kind) := by
  have hlt := (ho.lt g rfl).2
  have hc : ∀ j, j < 5 → wy.cell? ⟨g, k * 5 + j, none⟩ = (krAt rs k).cells[j]? := fun j hj =>
    (hb.cell (p := ⟨g, k * 5 + j, none⟩) hlt).trans ((ho.cellAt (k * 5 + j) (by omega)).trans (KR.cell_at _ k j _ (krTo_get rs hk) hj))
  exact ⟨hc 0 (by omega), hc 1 (by omega), hc 2 (by omega), hc 3 (by omega), hc 4 (by omega)⟩
theorem read_text {W wy : World} {B g c k dn : Nat} {rs : List RIn} (ho : W.ownsRow (B + 1) 9 1 (.slice (some ⟨g, 0, none⟩) dn c) dn ((tsOf rs).map Value.string)) (hd : dn = (tsOf rs).length) (hk : k < rs.length) (hb : Below W.heap.size W wy) :
    wy.cell? ⟨g, wantAt rs k, none⟩ = some (.string (rs.getD k RIn.zero).text) := by
  have hlt := (ho.lt g rfl).2
  have hw := want_lt rs hk
  refine (hb.cell (p := ⟨g, wantAt rs k, none⟩) hlt).trans ((ho.cellAt (wantAt rs k) (by omega)).trans ?_)
  rw [List.getElem?_map, want_text rs hk]
  rfl
end Go.Proofs.Qxb6609217aFmt
