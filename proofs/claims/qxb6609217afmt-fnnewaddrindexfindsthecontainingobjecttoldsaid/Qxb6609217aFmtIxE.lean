import Derived.Test.Qxb6609217aFmtIxD
import Derived.BigRegion
import Derived.Deep.DrawnRows
import Derived.Deep.RegionHeld3
import Derived.Deep.DeepCutAuto
namespace Go.Proofs.Qxb6609217aFmt
open Go.RowKit Go.Shelf Go.Lib Go.Sort

/-- n cells, the first k of them filled by f, the rest by g. -/
def fillB (n k : Nat) (f g : Nat → Value) : Array Value := ((List.range n).map fun j => if j < k then f j else g j).toArray
theorem fillB_at {n k j : Nat} {f g : Nat → Value} (h : j < n) : (fillB n k f g)[j]? = some (if j < k then f j else g j) := by simp [fillB, h]
theorem fillB_set {n k : Nat} {f g : Nat → Value} (h : k < n) : (fillB n k f g).setIfInBounds k (f k) = fillB n (k + 1) f g := by
  apply Array.ext_getElem?
  intro j
  rw [Array.getElem?_setIfInBounds]
  by_cases hj : j < n
  · rw [fillB_at hj, fillB_at hj]
    by_cases e : k = j
    · subst e
      rw [if_pos rfl, if_pos (by simp [fillB]; exact h), if_pos (by omega)]
    · rw [if_neg e]
      congr 1
      by_cases h1 : j < k
      · rw [if_pos h1, if_pos (by omega)]
      · rw [if_neg h1, if_neg (by omega)]
  · have e1 : (fillB n k f g)[j]? = none := by simp [fillB]; omega
    have e2 : (fillB n (k + 1) f g)[j]? = none := by simp [fillB]; omega
    rw [e1, e2, if_neg (by omega)]

def rowF (zs : List Int) (j : Nat) : Value := if j % 2 = 0 then .int .u64 (zs.getD (j / 2) 0) else .int .i64 ((j / 2 : Nat) : Int)
def rowZ (j : Nat) : Value := if j % 2 = 0 then .int .u64 0 else .int .i64 0
theorem rowF_even (zs : List Int) (k : Nat) : rowF zs (k * 2) = .int .u64 (zs.getD k 0) := by
  have h1 : k * 2 % 2 = 0 := by omega
  have h2 : k * 2 / 2 = k := by omega
  simp only [rowF, h1, h2, if_pos]
theorem rowF_odd (zs : List Int) (k : Nat) : rowF zs (k * 2 + 1) = .int .i64 k := by
  have h1 : (k * 2 + 1) % 2 = 1 := by omega
  have h2 : (k * 2 + 1) / 2 = k := by omega
  simp only [rowF, h1, h2]
  rfl
/-- The cells of the index, k entries filled. -/
def rowIx (n k : Nat) (zs : List Int) : Array Value := fillB (n * 2) (k * 2) (rowF zs) rowZ
theorem rowIx_start (n : Nat) (zs : List Int) : madeCells #[.int .u64 0, .int .i64 0] (n * 2) = rowIx n 0 zs := by
  apply Array.ext_getElem?
  intro j
  by_cases hj : j < n * 2
  · rw [rowIx, fillB_at hj, if_neg (by omega)]
    have : j % 2 = 0 ∨ j % 2 = 1 := by omega
    rcases this with h | h <;> simp [madeCells, hj, rowZ, h]
  · have e1 : (rowIx n 0 zs)[j]? = none := by simp [rowIx, fillB]; omega
    have e2 : (madeCells #[.int .u64 0, .int .i64 0] (n * 2))[j]? = none := by simp [madeCells]; omega
    rw [e1, e2]

theorem Tryf.info83u : (Tryf.prog.info? 83).map (fun i => (i.zero, i.size, i.bytes)) = some (some (.agg #[.int .u64 0, .int .i64 0]), 2, 16) := by kernel_rfl
theorem make_ix (zs : List Int) (n : Nat) (hn : n ≤ 1048576) (w : World) :
    (Instr.makeSlice 79 (.int .i64 (n : Int)) (.int .i64 (n : Int))).run Tryf.prog w = .ok (.slice (some ⟨w.heap.size, 0, none⟩) n n) (w.alloc (.cells (rowIx n 0 zs) 83)) := by
  obtain ⟨i0, hi0, hz0, hz1, hz2⟩ := info_parts Tryf.info83u
  have := run_make (P := Tryf.prog) w 79 83 i0 (.agg #[.int .u64 0, .int .i64 0]) Tryf.underlying79 hi0 hz0 .i64 .i64 n n (by omega) (Int.le_refl _) (by rw [hz2]; omega) (by omega)
  rw [this, hz1]
  simp only [Int.toNat_natCast, Value.cells]
  rw [rowIx_start n zs]

/-- The Graph's own fields that the index reads. -/
def GrAt (w : World) (G : Nat) (ao bo : Option Addr) (n c1 c2 : Nat) (ids : Bool) : Prop :=
  w.cell? ⟨G, 0, none⟩ = some (.slice ao n c1) ∧ w.cell? ⟨G, 1, none⟩ = some (.slice bo n c2) ∧ w.cell? ⟨G, 16, none⟩ = some (.bool ids)

/-- The entries, unsorted. -/
def ixs (zs : List Int) : Array (Int × Int) := ((List.range zs.length).map fun i => (zs.getD i 0, (i : Int))).toArray

theorem GrAt.keep {S : Nat → Prop} {w w' : World} {G : Nat} {ao bo : Option Addr} {n c1 c2 : Nat} {ids : Bool} (h : GrAt w G ao bo n c1 c2 ids) (k : Keeps S w w') (hn : ¬ S G) : GrAt w' G ao bo n c1 c2 ids :=
  ⟨k.cell h.1 hn, k.cell h.2.1 hn, k.cell h.2.2 hn⟩

theorem ixs_size (zs : List Int) : (ixs zs).size = zs.length := by simp [ixs]
theorem ixs_at (zs : List Int) {i : Nat} (h : i < zs.length) : (ixs zs)[i]! = (zs.getD i 0, (i : Int)) := by
  rw [getElem!_pos _ i (by rw [ixs_size]; exact h)]
  simp [ixs]
theorem holds_rowIx {w : World} {R : Nat} {zs : List Int} (h : Blk w R 83 (rowIx zs.length zs.length zs)) : HoldsK encIx 2 w R 0 (ixs zs) := by
  intro j hj
  have hj' : j < zs.length * 2 := by simpa [flatK, ixs_size] using hj
  rw [Nat.zero_add, h.cell, h.frozen]
  refine ⟨?_, rfl⟩
  rw [rowIx, fillB_at hj', if_pos hj', getElem!_pos _ j hj]
  congr 1
  simp only [flatK, Array.getElem_map, Array.getElem_range, id]
  rw [ixs_at zs (by omega)]
  have : j % 2 = 0 ∨ j % 2 = 1 := by omega
  rcases this with e | e <;> simp [encIx, rowF, e]

theorem holdsK_keep {S : Nat → Prop} {w w' : World} {R : Nat} {d : Array (Int × Int)} (h : HoldsK encIx 2 w R 0 d) (hR : R < w.heap.size) (k : Keeps S w w') (hn : ¬ S R) : HoldsK encIx 2 w' R 0 d := by
  intro j hj
  have hb := k.block R hR hn
  have h' := h j hj
  rw [World.cell?_of_block (a := ⟨R, 0 + j, none⟩) hb, World.frozen?_of_block (a := ⟨R, 0 + j, none⟩) hb]
  exact h'

theorem mem_ixs {zs : List Int} {x : Int × Int} (h : x ∈ (ixs zs).toList) : ∃ i, i < zs.length ∧ x = (zs.getD i 0, (i : Int)) := by
  simp only [ixs, List.mem_map, List.mem_range] at h
  obtain ⟨i, hi, rfl⟩ := h
  exact ⟨i, hi, rfl⟩

theorem keeps_drewN {S : Nat → Prop} {w w' : World} (h : Keeps S w w') (q : Nat) : Keeps S w (w'.drewN q) := ⟨h.os, h.tape, h.output, h.size, h.block⟩
theorem blk_drewN {w : World} {B : Nat} {t : TypeId} {cs : Array Value} (h : Blk w B t cs) (q : Nat) : Blk (w.drewN q) B t cs := h
theorem errorf_new (x y : Int) (w : World) (b : Nat) (hb : w.heap.size = b) :
    Calls Tryf.prog 37 #[.string ⟨#[111, 98, 106, 101, 99, 116, 32, 97, 116, 32, 37, 35, 120, 32, 111, 118, 101, 114, 108, 97, 112, 115, 32, 116, 104, 101, 32, 111, 98, 106, 101, 99, 116, 32, 97, 116, 32, 37, 35, 120]⟩, .slice (some ⟨b, 0, none⟩) 2 2] (w.alloc (.cells #[.iface 27 (.int .u64 x), .iface 27 (.int .u64 y)] 20)) fun e w' => SomeErr e ∧ Keeps (fun _ => False) w w' := by
  subst hb
  have hB := Blk.new w 20 #[.iface 27 (.int .u64 x), .iface 27 (.int .u64 y)]
  refine (errorf_any w.heap.size x y _ (hB.cell 0) (hB.cell 1)).mono ?_
  rintro e w' ⟨h1, h2⟩
  exact ⟨h1, ((Keeps.refl _ w).alloc _).trans h2⟩

/-- Two neighbours of the sorted index overlap. -/
def Adj (d : Array (Int × Int)) (ss : List Int) (ids : Bool) (k : Nat) : Prop :=
  (d[k + 1]!).1 = (d[k]!).1 ∨ (d[k + 1]!).1 - (d[k]!).1 < spanN ids (ss.getD (d[k]!).2.toNat 0)
def ErrIs (p : Prop) (ev : Value) : Prop := (ev = .nilIface ∧ ¬ p) ∨ (∃ t v, ev = .iface t v) ∧ p
/-- The index as it lies. -/
structure IxAt (w : World) (X R : Nat) (bo : Option Addr) (n c2 : Nat) (ids : Bool) (d : Array (Int × Int)) : Prop where
  blk : Blk w X 81 #[.slice bo n c2, .bool ids, .slice (some ⟨R, 0, none⟩) n n]
  row : HoldsK encIx 2 w R 0 d
  lt : R < w.heap.size
  size : d.size = n
structure IxOf (zs : List Int) (d : Array (Int × Int)) : Prop where
  perm : d.toList.Perm (ixs zs).toList
  sorted : ∀ i j, i < j → j < zs.length → (d[i]!).1 ≤ (d[j]!).1

theorem IxOf.size {zs : List Int} {d : Array (Int × Int)} (h : IxOf zs d) : d.size = zs.length := by
  have := h.perm.length_eq
  simpa [ixs_size] using this
theorem IxOf.entry {zs : List Int} {d : Array (Int × Int)} (h : IxOf zs d) {j : Nat} (hj : j < zs.length) : ∃ i, i < zs.length ∧ d[j]! = (zs.getD i 0, (i : Int)) := by
  apply mem_ixs
  rw [← h.perm.mem_iff, getElem!_pos d j (by rw [h.size]; exact hj)]
  exact Array.getElem_mem_toList _

set_option maxRecDepth 100000 in
set_option maxHeartbeats 1600000 in
theorem newIx_any (G : Nat) (ao bo : Option Addr) (n c1 c2 : Nat) (zs ss : List Int) (ids : Bool) (w : World) (hn : n ≤ 1048576) (hG : GrAt w G ao bo n c1 c2 ids) (ha : UArg w ao n zs) (hb : UArg w bo n ss) :
    Calls Tryf.prog 29 #[.pointer (some ⟨G, 0, none⟩)] w fun e w' => ∃ X R ev d, e = .returned (.tuple #[.pointer (some ⟨X, 0, none⟩), ev]) ∧ IxAt w' X R bo n c2 ids d ∧ IxOf zs d ∧
      ErrIs (∃ k, k + 1 < n ∧ Adj d ss ids k) ev ∧ Keeps (fun _ => False) w w' := by
  have HG := hid hG
  obtain ⟨g0, g1, g16⟩ := hG
  have hmk := make_ix zs n hn
  have hlt := World.block_lt_of_cell? w _ g0
  go_enter Tryf.func29, Tryf.ntmps29
  go_wp2_with fail
  go_region
  clear hmk g1 g16
  go_wp2_with fail
  go_loopw [31, 5, 6] (fun i' _ _ wr => ∃ k : Nat, k ≤ n ∧ i' = .int .i64 k ∧ Blk wr w.heap.size 83 (rowIx n k zs) ∧ Blk wr (w.heap.size + 1) 81 #[.slice bo n c2, .bool ids, .slice (some ⟨w.heap.size, 0, none⟩) n n] ∧ Keeps (fun _ => False) w wr) (fun i' _ _ _ => n - (intOf i').toNat)
  case atStart => exact ⟨0, Nat.zero_le _, rfl, (Blk.new w 83 _).alloc _, by simpa using (Blk.new (w.alloc (.cells (rowIx n 0 zs) 83)) 81 #[.slice bo n c2, .bool ids, .slice (some ⟨w.heap.size, 0, none⟩) n n]).drew, (((Keeps.refl _ w).alloc _).alloc _).drew⟩
  case round =>
    obtain ⟨k, hk, rfl, hR, hX, hkp⟩ := hrel
    by_cases hlt : k < n
    · obtain ⟨b, off, rfl, hb1, hc⟩ := ha.2.2 (by omega)
      have ck := hkp.cell (hc k hlt) id
      have x2 := hX.cell 2
      have r0 := hR.cell (k * 2)
      have r1 := hR.cell (k * 2 + 1)
      have f0 := hR.frozen (k * 2)
      have f1 := hR.frozen (k * 2 + 1)
      rw [rowIx, fillB_at (by omega), if_neg (by omega)] at r0 r1
      simp at x2
      clear hc
      go_wp2
      go_roundw
      case rel =>
        refine ⟨k + 1, by omega, by go_num, ?_, (hX.setOther (by simp) _).setOther (by simp) _, (hkp.setCell (.inl (Nat.le_refl _)) _).setCell (.inl (Nat.le_refl _)) _⟩
        have := (hR.set (k * 2) (rowF zs (k * 2))).set (k * 2 + 1) (rowF zs (k * 2 + 1))
        rw [rowIx, fillB_set (by omega), fillB_set (by omega), rowF_even, rowF_odd, show k * 2 + 1 + 1 = (k + 1) * 2 by omega] at this
        exact this
      case measure => simp [intOf]; omega
    · obtain rfl : k = n := by omega
      have hsz : (ixs zs).size = k := by rw [ixs_size]; exact ha.1
      have hH : HoldsK encIx 2 wr w.heap.size 0 (ixs zs) := holds_rowIx (by rw [ha.1]; exact hR)
      have hS := sort_any w.heap.size k (ixs zs) wr hH hR.lt (by omega)
      rw [hsz] at hS
      have x2 := hX.cell 2
      simp at x2
      have HS := hid hS
      clear hS
      go_wp2_with (go_at_call 33; refine HS.out.mono ?_; rintro e w' ⟨rfl, d, hd1, hd2, hd3, hd4, hkp2⟩)
      clear HS x2
      obtain ⟨W1, h⟩ : ∃ x, x = wr := ⟨_, rfl⟩
      subst h
      have hX2 := hkp2.blk hX (by omega)
      have hRlt : w.heap.size < w'.heap.size := Nat.lt_of_lt_of_le hR.lt hkp2.size
      have hkw : Keeps (fun _ => False) w w' := ⟨hkp2.os.trans hkp.os, hkp2.tape.trans hkp.tape, hkp2.output.trans hkp.output, Nat.le_trans hkp.size hkp2.size, fun i hi _ => (hkp2.block i (Nat.lt_of_lt_of_le hi hkp.size) (by omega)).trans (hkp.block i hi id)⟩
      have hsz' : d.size = k := hd1
      have HI : Hid (IxOf zs d) := ⟨hd2, fun i j hij hj => hd3 i j hij (by rw [← ha.1]; exact hj)⟩
      clear hkp hkp2 hX hR hd1 hd2 hd3 hH hsz g0
      go_loopw [7] (fun i' wr => ∃ m : Nat, (m < k ∨ m = 0) ∧ i' = .int .i64 ((m : Int) + 1) ∧ Hid (∀ j, j < m → ¬ Adj d ss ids j) ∧ Keeps (fun _ => False) w' wr) (fun i' _ => k - (intOf i').toNat)
      case atStart => exact ⟨0, .inr rfl, rfl, (fun j hj => by omega), Keeps.refl _ _⟩
      case round =>
        obtain ⟨m, hm, rfl, Hno, hkr⟩ := hrel
        have hXr := hkr.blk hX2 id
        have x2 := hXr.cell 2
        simp at x2
        by_cases hlt : m + 1 < k
        · have hRr : HoldsK encIx 2 wr w.heap.size 0 d := holdsK_keep hd4 hRlt hkr id
          have a0 := (hRr.cell (i := m) (c := 0) (by omega) (by omega)).1
          have a1 := (hRr.cell (i := m) (c := 1) (by omega) (by omega)).1
          have b0 := (hRr.cell (i := m + 1) (c := 0) (by omega) (by omega)).1
          have b1 := (hRr.cell (i := m + 1) (c := 1) (by omega) (by omega)).1
          obtain ⟨dm, hdm⟩ : ∃ x, x = d[m]! := ⟨_, rfl⟩
          obtain ⟨dn, hdn⟩ : ∃ x, x = d[m + 1]! := ⟨_, rfl⟩
          rw [← hdm] at a0 a1
          rw [← hdn] at b0 b1
          simp [encIx] at a0 a1 b0 b1
          obtain ⟨i, hi, ei⟩ := HI.out.entry (j := m) (by rw [ha.1]; omega)
          obtain ⟨i', hi', ei'⟩ := HI.out.entry (j := m + 1) (by rw [ha.1]; omega)
          have hso := HI.out.sorted m (m + 1) (by omega) (by rw [ha.1]; omega)
          rw [← hdm, ← hdn] at hso
          have hrm := ha.range i
          have hrn := ha.range i'
          have hAdj : Adj d ss ids m ↔ (dn.1 = dm.1 ∨ dn.1 - dm.1 < spanN ids (ss.getD dm.2.toNat 0)) := by rw [hdm, hdn]; exact Iff.rfl
          rw [← hdm] at ei
          rw [← hdn] at ei'
          clear hdm hdn
          have e1 : dm.1 = zs.getD i 0 := by rw [ei]
          have e2 : dm.2 = (i : Int) := by rw [ei]
          have e3 : dn.1 = zs.getD i' 0 := by rw [ei']
          rw [← e1] at hrm
          rw [← e3] at hrn
          rw [e2] at a1
          rw [e2, Int.toNat_natCast] at hAdj
          clear ei ei' e1 e3
          obtain ⟨x, hx⟩ : ∃ x, x = dm.1 := ⟨_, rfl⟩
          obtain ⟨y, hy⟩ : ∃ x, x = dn.1 := ⟨_, rfl⟩
          obtain ⟨o, ho⟩ : ∃ x, x = dn.2 := ⟨_, rfl⟩
          rw [← hx] at a0 hrm hso hAdj
          rw [← hy] at b0 hrn hso hAdj
          rw [← ho] at b1
          clear hx hy ho e2
          have HA := hid hAdj
          clear hAdj
          have n1 := World.new_ne wr _ x2
          have n2 := World.new_ne wr _ a0
          have i1 : (0 : Int) ≤ (m : Int) := by omega
          have i2 : (m : Int) < k := by omega
          have i3 : (0 : Int) ≤ (m : Int) + 1 := by omega
          have i4 : (m : Int) + 1 < k := by omega
          have i5 : IntKind.i64.wrap (m : Int) = m := by rw [IntKind.wrap_i64]; omega
          go_wp2_with fail
          go_cut [8, 9] (fun p q wx => ∃ P Q, p = .pointer (some ⟨P, 0, none⟩) ∧ q = .pointer (some ⟨Q, 0, none⟩) ∧ Blk wx P 83 #[.int .u64 x, .int .i64 i] ∧ Blk wx Q 83 #[.int .u64 y, .int .i64 o] ∧ Keeps (fun _ => False) w' wx)
          case first =>
           go_region_held3 (fun W => W.cell? ⟨w.heap.size + 1, 2, none⟩ = some (.slice (some ⟨w.heap.size, 0, none⟩) k k) ∧ W.cell? ⟨w.heap.size, m * 2, none⟩ = some (.int .u64 x) ∧ W.cell? ⟨w.heap.size, m * 2 + 1, none⟩ = some (.int .i64 i)
            ∧ W.cell? ⟨w.heap.size, (m + 1) * 2, none⟩ = some (.int .u64 y) ∧ W.cell? ⟨w.heap.size, (m + 1) * 2 + 1, none⟩ = some (.int .i64 o)) (go_keep) (fail)
           all_goals
            go_wp2
            go_meet
            case rel =>
              first
              | exact ⟨wr.heap.size, wr.heap.size + 1, rfl, rfl, ((Blk.new wr 83 _).alloc _).drew, by simpa using (Blk.new (wr.alloc (.cells #[.int .u64 x, .int .i64 i] 83)) 83 #[.int .u64 y, .int .i64 o]).drew, ((hkr.alloc _).alloc _).drew⟩
              | exact ⟨wr.heap.size + 1, wr.heap.size, rfl, rfl, by simpa using (Blk.new (wr.alloc (.cells #[.int .u64 y, .int .i64 o] 83)) 83 #[.int .u64 x, .int .i64 i]).drew, ((Blk.new wr 83 _).alloc _).drew, ((hkr.alloc _).alloc _).drew⟩
          case rest =>
           clear n1 n2 a0 a1 b0 b1 x2 hRr hXr hkr
           obtain ⟨P, Q, rfl, rfl, hP, hQ, hkr⟩ := hcut
           have p0 := hP.cell 0
           have p1 := hP.cell 1
           have q0 := hQ.cell 0
           simp at p0 p1 q0
           have hXr := hkr.blk hX2 id
           obtain ⟨g0, g1, g16⟩ := HG.out.keep (hkw.trans hkr) id
           obtain ⟨b, off, rfl, hb1, hc⟩ := hb.2.2 (by omega)
           have hik : i < k := by rw [← ha.1]; exact hi
           have sc := (hkw.trans hkr).cell (hc i hik) id
           clear hc
           obtain ⟨s, hs⟩ : ∃ x, x = ss.getD i 0 := ⟨_, rfl⟩
           rw [← hs] at sc HA
           clear hs
           have hw := wrap_u64_small (x := y - x) (by omega) (by omega)
           by_cases he : y = x
           · have hb1 : (y == x) = true := by simp [he]
             have HT := hid (HA.out.2 (.inl he))
             clear he HA
             go_wp2_with fail
             go_quiet (fail)
             go_wp2_with (go_at_call 37; refine (errorf_new y x _ _ (by simp)).mono ?_; rintro e w9 ⟨⟨t, v, rfl⟩, hk9⟩)
             refine bodyPost_ret (results_tmp2 rfl _ _ _) rfl ?_
             have hk8 := (keeps_drewN hkr _).trans hk9
             exact ⟨w.heap.size + 1, w.heap.size, _, d, rfl, ⟨hk9.blk (blk_drewN hXr _) id, holdsK_keep hd4 hRlt hk8 id, Nat.lt_of_lt_of_le hRlt hk8.size, hsz'⟩, HI.out, .inr ⟨⟨t, v, rfl⟩, m, hlt, HT.out⟩, hkw.trans hk8⟩
           have hb1 : (y == x) = false := by simp [he]
           by_cases hl : y - x < spanN ids s
           · have hb3 : decide (y - x < spanN ids s) = true := by simp [hl]
             have HT := hid (HA.out.2 (.inr hl))
             clear he HA
             have HS : Hid (∀ W, Calls Tryf.prog 36 #[.bool ids, .int .u64 s] W fun e w' => e = .returned (.int .u64 (spanN ids s)) ∧ w' = W) := span36_any ids s
             generalize spanN ids s = sp at hl hb3 HS
             go_wp2_with fail
             go_quiet ((go_at_call 36; refine (HS.out _).mono ?_; rintro e w' ⟨rfl, rfl⟩; exact ⟨rfl, _, rfl⟩))
             go_wp2_with (go_at_call 37; refine (errorf_new y x _ _ (by simp)).mono ?_; rintro e w9 ⟨⟨t, v, rfl⟩, hk9⟩)
             refine bodyPost_ret (results_tmp2 rfl _ _ _) rfl ?_
             have hk8 := (keeps_drewN hkr _).trans hk9
             exact ⟨w.heap.size + 1, w.heap.size, _, d, rfl, ⟨hk9.blk (blk_drewN hXr _) id, holdsK_keep hd4 hRlt hk8 id, Nat.lt_of_lt_of_le hRlt hk8.size, hsz'⟩, HI.out, .inr ⟨⟨t, v, rfl⟩, m, hlt, HT.out⟩, hkw.trans hk8⟩
           · have hb3 : decide (y - x < spanN ids s) = false := by simp; omega
             have HT : Hid (¬ Adj d ss ids m) := fun h => by
               rcases HA.out.1 h with h | h
               · exact he h
               · exact hl h
             clear he HA
             have HS : Hid (∀ W, Calls Tryf.prog 36 #[.bool ids, .int .u64 s] W fun e w' => e = .returned (.int .u64 (spanN ids s)) ∧ w' = W) := span36_any ids s
             generalize spanN ids s = sp at hl hb3 HS
             go_wp2_with fail
             go_quiet ((go_at_call 36; refine (HS.out _).mono ?_; rintro e w' ⟨rfl, rfl⟩; exact ⟨rfl, _, rfl⟩))
             go_wp2
             go_roundw
             case rel =>
               exact ⟨m + 1, .inl hlt, by go_num, fun j hj => by
                 by_cases e : j = m
                 · rw [e]; exact HT.out
                 · exact Hno.out j (by omega), keeps_drewN hkr _⟩
             case measure => simp [intOf]; omega
        · go_wp2
          refine bodyPost_ret (results_tmp2 rfl _ _ _) rfl ?_
          refine ⟨w.heap.size + 1, w.heap.size, .nilIface, d, rfl, ⟨hXr, ?_, Nat.lt_of_lt_of_le hRlt hkr.size, hsz'⟩, HI.out, .inl ⟨rfl, ?_⟩, hkw.trans hkr⟩
          · exact holdsK_keep hd4 hRlt hkr id
          · rintro ⟨j, hj, h⟩
            exact Hno.out j (by omega) h
end Go.Proofs.Qxb6609217aFmt
