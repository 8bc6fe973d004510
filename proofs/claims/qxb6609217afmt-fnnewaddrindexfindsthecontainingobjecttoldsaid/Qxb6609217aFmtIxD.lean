import Derived.Test.Qxb6609217aFmtIxC
import Derived.Test.Qxb6609217aFmtShelf
namespace Go.Proofs.Qxb6609217aFmt
open Go.RowKit Go.Shelf Go.Lib Go.Sort

/-- An entry of the index: its address and its object. -/
def encIx (x : Int × Int) : List Value := [.int .u64 x.1, .int .i64 x.2]
/-- cmp.Compare. -/
def cmp3 (a b : Int) : Int := if a < b then -1 else if b < a then 1 else 0
def cfIx (x y : Int × Int) : Int := cmp3 x.1 y.1

theorem compare_any (a b : Int) (w : World) : Calls Tryf.prog 35 #[.int .u64 a, .int .u64 b] w fun e w' => e = .returned (.int .i64 (cmp3 a b)) ∧ w' = w := by
  by_cases h1 : a < b
  · have hc : cmp3 a b = -1 := by simp [cmp3, h1]
    rw [hc]
    clear hc
    go_enter Tryf.func35, Tryf.ntmps35
    go_wp2
    go_ret
    exact ⟨rfl, rfl⟩
  by_cases h2 : b < a
  · have hc : cmp3 a b = 1 := by simp [cmp3, h1, h2]
    rw [hc]
    clear hc
    go_enter Tryf.func35, Tryf.ntmps35
    go_wp2
    go_ret
    exact ⟨rfl, rfl⟩
  · have hc : cmp3 a b = 0 := by simp [cmp3, h1, h2]
    rw [hc]
    clear hc
    go_enter Tryf.func35, Tryf.ntmps35
    go_wp2
    go_ret
    exact ⟨rfl, rfl⟩

set_option maxHeartbeats 800000 in
theorem closure34 (x y : Int × Int) (W : World) : Calls Tryf.prog 34 #[.agg #[.int .u64 x.1, .int .i64 x.2], .agg #[.int .u64 y.1, .int .i64 y.2]] W fun e w' => e = .returned (.int .i64 (cfIx x y)) ∧ ∃ q os', w' = grow (W.drewN q) os' := by
  have hcon := fun W' => compare_any x.1 y.1 W'
  unfold cfIx
  generalize cmp3 x.1 y.1 = r at hcon ⊢
  go_enter Tryf.func34, Tryf.ntmps34
  go_wp2_with (go_at_call 35; refine (hcon _).mono ?_; rintro e w' ⟨rfl, rfl⟩)
  go_ret
  exact ⟨rfl, 0, _, by rw [alloc_eq_grow, alloc_eq_grow, grow_grow]; rfl⟩

theorem cmpLays34 (blk off size : Nat) (w : World) : CmpLays Tryf.prog 34 #[] encIx 2 cfIx blk off size w :=
  fun _ _ _ _ x y => closure34 x y _

theorem ltIx (x y : Int × Int) : ltOf cfIx x y = decide (x.1 < y.1) := by
  unfold ltOf cfIx cmp3
  by_cases h1 : x.1 < y.1
  · simp [h1]
  · by_cases h2 : y.1 < x.1 <;> simp [h1, h2]
theorem swoIx : SWO (ltOf cfIx) where
  irrefl x := by rw [ltIx]; simp
  trans x y z h1 h2 := by rw [ltIx] at *; simp at *; omega
  ntrans x y z h1 h2 := by rw [ltIx] at *; simp at *; omega

theorem sortWorld_keeps {w : World} {blk n : Nat} {d : Array (Int × Int)} {os : Array Obj} : Keeps (· = blk) w (sortWorldK encIx 2 w blk 0 n d os) := by
  have hs : (putRowK encIx 2 (Sort.ahead w n) blk 0 d).heap.size = w.heap.size := by simp [putRowK, putRow, mapBlock, Sort.ahead]
  refine ⟨rfl, rfl, rfl, ?_, fun k hk hne => ?_⟩
  · show w.heap.size ≤ ((putRowK encIx 2 (Sort.ahead w n) blk 0 d).heap ++ os).size
    rw [Array.size_append, hs]; omega
  · show ((putRowK encIx 2 (Sort.ahead w n) blk 0 d).heap ++ os)[k]? = _
    rw [Array.getElem?_append_left (by omega)]
    have hne' : ¬ blk = k := fun e => hne e.symm
    simp [putRowK, putRow, mapBlock, Sort.ahead, Array.getElem?_modify, hne']

/-- The index sorted by address. -/
theorem sort_any (blk cap : Nat) (d : Array (Int × Int)) (w : World) (hH : HoldsK encIx 2 w blk 0 d) (hblk : blk < w.heap.size) (hsz : d.size ≤ 1048576) :
    Calls Tryf.prog 33 #[.slice (some ⟨blk, 0, none⟩) d.size cap, .func (.func 34) #[] #[]] w fun e w' => e = .returned (.tuple #[]) ∧
      ∃ d' : Array (Int × Int), d'.size = d.size ∧ d'.toList.Perm d.toList ∧ (∀ i j, i < j → j < d.size → (d'[i]!).1 ≤ (d'[j]!).1) ∧ HoldsK encIx 2 w' blk 0 d' ∧ Keeps (· = blk) w w' := by
  have eg : ∀ args w, (callFunc 34 args).run Tryf.prog w = .ok (.enter 34 args) w := enters_of Tryf.func34 (by kernel_rfl) rfl
  have hcon := AnyQ.slices_SortFunc Tryf.sortIx 2 Tryf.isAgg83 Tryf.sizeOf83 encIx (fun _ => rfl) (fun x v hv => by simp [encIx] at hv; rcases hv with rfl | rfl <;> rfl) cfIx swoIx 34 #[] blk 0 cap d w eg (cmpLays34 blk 0 d.size w) hH hblk (by omega)
  change Calls Tryf.prog 33 _ _ _ at hcon
  refine hcon.mono ?_
  rintro e w' ⟨rfl, d', n, os, hp, hs, rfl⟩
  refine ⟨rfl, d', hp.1, ?_, fun i j hij hj => ?_, ?_, sortWorld_keeps⟩
  · have h2 := hp.2.2
    have e1 : (d'.extract 0 d.size) = d' := by rw [← hp.1]; simp
    have e2 : (d.extract 0 d.size) = d := by simp
    rw [e1, e2] at h2
    exact h2
  · have := hs i j (Nat.zero_le _) hij hj
    rw [ltIx] at this
    simpa using this
  · exact holdsK_grow encIx 2 _ os blk 0 d' (by simp [putRowK, putRow, mapBlock, Sort.ahead]; exact hblk) (holdsK_putRowK encIx 2 (Sort.ahead w n) blk 0 d d' (holdsK_ahead encIx 2 w n blk 0 d hH) hp.1)
end Go.Proofs.Qxb6609217aFmt
