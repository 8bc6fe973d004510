import Derived.Test.Qxb6609217aFmtIxA
namespace Go.Proofs.Qxb6609217aFmt
open Go.RowKit

/-- n cells, the first k of them filled. -/
def fillA (n k : Nat) (f : Nat → Value) (z : Value) : Array Value := ((List.range n).map fun j => if j < k then f j else z).toArray
theorem fillA_at {n k j : Nat} {f : Nat → Value} {z : Value} (h : j < n) : (fillA n k f z)[j]? = some (if j < k then f j else z) := by simp [fillA, h]
theorem fillA_get {n k j : Nat} {f : Nat → Value} {z : Value} (h : j < k) (hk : k ≤ n) : (fillA n k f z)[j]? = some (f j) := by rw [fillA_at (by omega), if_pos h]
theorem fillA_set {n k : Nat} {f : Nat → Value} {z : Value} (h : k < n) : (fillA n k f z).setIfInBounds k (f k) = fillA n (k + 1) f z := by
  apply Array.ext_getElem?
  intro j
  rw [Array.getElem?_setIfInBounds]
  by_cases hj : j < n
  · rw [fillA_at hj, fillA_at hj]
    by_cases e : k = j
    · subst e
      rw [if_pos rfl, if_pos (by simp [fillA]; exact h), if_pos (by omega)]
    · rw [if_neg e]
      congr 1
      by_cases h1 : j < k
      · rw [if_pos h1, if_pos (by omega)]
      · rw [if_neg h1, if_neg (by omega)]
  · have e1 : (fillA n k f z)[j]? = none := by simp [fillA]; omega
    have e2 : (fillA n (k + 1) f z)[j]? = none := by simp [fillA]; omega
    rw [e1, e2, if_neg (by omega)]
theorem fillA_start (n : Nat) (f : Nat → Value) (z : Value) : madeCells #[z] n = fillA n 0 f z := by
  apply Array.ext'
  rw [toList_madeCells_one]
  simp [fillA, List.map_const']

theorem Tryf.info27u : (Tryf.prog.info? 27).map (fun i => (i.zero, i.size, i.bytes)) = some (some (.int .u64 0), 1, 8) := by kernel_rfl
theorem make_u64 (f : Nat → Value) (n : Nat) (hn : n ≤ 1048576) (w : World) :
    (Instr.makeSlice 32 (.int .i64 (n : Int)) (.int .i64 (n : Int))).run Tryf.prog w = .ok (.slice (some ⟨w.heap.size, 0, none⟩) n n) (w.alloc (.cells (fillA n 0 f (.int .u64 0)) 27)) := by
  obtain ⟨i0, hi0, hz0, hz1, hz2⟩ := info_parts Tryf.info27u
  have := run_make (P := Tryf.prog) w 32 27 i0 (.int .u64 0) Tryf.underlying32 hi0 hz0 .i64 .i64 n n (by omega) (Int.le_refl _) (by rw [hz2]; omega) (by omega)
  rw [this, hz1]
  simp only [Int.toNat_natCast, Value.cells, Nat.mul_one]
  rw [fillA_start n f]

set_option maxHeartbeats 800000 in
theorem clone_any (ao : Option Addr) (n c : Nat) (zs : List Int) (w : World) (hn : n ≤ 1048576) (h : UArg w ao n zs) :
    Calls Tryf.prog 18 #[.slice ao n c] w fun e w' => ∃ go c', e = .returned (.slice go n c') ∧ UArg w' go n zs ∧ Keeps (fun _ => False) w w' := by
  have q32 : ∀ (w : World) (a : Option Addr) (n c n' c' : Nat), (binOp .eql 32 (.slice a n c) (.slice none n' c')).run Tryf.prog w = .ok (.bool a.isNone) w := fun w a n c n' c' => Lib.run_eql_slice_nil w 32 27 a n c n' c' Tryf.underlying32
  cases ao with
  | none =>
    have h0 : n = 0 := by
      rcases Nat.eq_zero_or_pos n with h' | h'
      · exact h'
      · obtain ⟨b, off, e, _⟩ := h.2.2 h'
        cases e
    subst h0
    go_enter Tryf.func18, Tryf.ntmps18
    go_wp2
    go_ret
    exact ⟨none, 0, rfl, h, Keeps.refl _ _⟩
  | some a =>
    have hmk := make_u64 (fun j => .int .u64 (zs.getD j 0)) n hn
    go_enter Tryf.func18, Tryf.ntmps18
    go_wp2_with fail
    clear hmk q32
    go_loopw [4] (fun i' wr => ∃ k : Nat, k ≤ n ∧ i' = .int .i64 k ∧ Blk wr w.heap.size 27 (fillA n k (fun j => .int .u64 (zs.getD j 0)) (.int .u64 0)) ∧ Keeps (fun _ => False) w wr) (fun i' _ => n - (intOf i').toNat)
    case atStart => exact ⟨0, Nat.zero_le _, rfl, Blk.new w 27 _, (Keeps.refl _ w).alloc _⟩
    case round =>
      obtain ⟨k, hk, rfl, hB, hkp⟩ := hrel
      by_cases hlt : k < n
      · obtain ⟨b, off, e, hb, hc⟩ := h.2.2 (by omega)
        injection e with e
        subst e
        have ck := hkp.cell (hc k hlt) id
        have cg := hB.cell k
        rw [fillA_at hlt, if_neg (Nat.lt_irrefl _)] at cg
        have fg := hB.frozen k
        obtain ⟨z, hz⟩ : ∃ z, z = zs.getD k 0 := ⟨_, rfl⟩
        rw [← hz] at ck
        have Hz := hid hz
        clear hz hc
        go_wp2
        go_roundw
        case rel =>
          refine ⟨k + 1, by omega, by go_num, ?_, hkp.setCell (.inl (Nat.le_refl _)) _⟩
          have := hB.set k (.int .u64 (zs.getD k 0))
          rw [show (Value.int .u64 (zs.getD k 0)) = (fun j => Value.int .u64 (zs.getD j 0)) k from rfl, fillA_set hlt] at this
          rw [Hz.out]
          exact this
        case measure => simp [intOf]; omega
      · go_wp2
        go_ret
        obtain rfl : k = n := by omega
        refine ⟨some ⟨w.heap.size, 0, none⟩, k, rfl, ⟨h.1, h.2.1, fun h0 => ⟨w.heap.size, 0, rfl, hB.lt, fun i hi => ?_⟩⟩, hkp⟩
        rw [Nat.zero_add, hB.cell i, fillA_get hi (Nat.le_refl _)]
end Go.Proofs.Qxb6609217aFmt
