import Derived.Test.Qxb6609217aFmtIxE
namespace Go.Proofs.Qxb6609217aFmt
open Go.RowKit Go.Shelf Go.Lib Go.Sort

theorem IxOf.at_toList {zs : List Int} {d : Array (Int × Int)} (h : IxOf zs d) {j : Nat} (hj : j < zs.length) : d.toList[j]? = some d[j]! := by
  have hs := h.size
  rw [getElem!_pos d j (by omega)]
  simp

/-- No object is listed twice. -/
theorem IxOf.inj {zs : List Int} {d : Array (Int × Int)} (h : IxOf zs d) {j k : Nat} (hjk : j < k) (hk : k < zs.length) : (d[j]!).2 ≠ (d[k]!).2 := by
  have hn : ((ixs zs).toList.map (·.2)).Nodup := by
    have e : (ixs zs).toList.map (·.2) = (List.range zs.length).map (fun i : Nat => (i : Int)) := by simp [ixs]
    rw [e]
    exact List.Pairwise.map _ (fun a b hab hc => hab (by omega)) List.nodup_range
  have hn' : (d.toList.map (·.2)).Nodup := (h.perm.map (·.2)).nodup_iff.2 hn
  have hs := h.size
  have := List.pairwise_iff_getElem.1 hn' j k (by simp; omega) (by simp; omega) hjk
  rw [getElem!_pos d j (by omega), getElem!_pos d k (by omega)]
  simpa using this

/-- Every object is listed. -/
theorem IxOf.onto {zs : List Int} {d : Array (Int × Int)} (h : IxOf zs d) {i : Nat} (hi : i < zs.length) : ∃ p, p < zs.length ∧ d[p]! = (zs.getD i 0, (i : Int)) := by
  have hm : (zs.getD i 0, (i : Int)) ∈ (ixs zs).toList := by
    simp only [ixs, List.mem_map, List.mem_range]
    exact ⟨i, hi, rfl⟩
  rw [← h.perm.mem_iff] at hm
  obtain ⟨p, hp, e⟩ := List.mem_iff_getElem.1 hm
  have hs := h.size
  have hp' : p < d.size := by simpa using hp
  refine ⟨p, by omega, ?_⟩
  rw [getElem!_pos d p hp']
  simpa using e

/-- Some two objects overlap just where two neighbours do. -/
theorem adj_iff {zs ss : List Int} {ids : Bool} {d : Array (Int × Int)} (h : IxOf zs d) : (∃ k, k + 1 < zs.length ∧ Adj d ss ids k) ↔ AnyOv zs ss ids := by
  constructor
  · rintro ⟨k, hk, ha⟩
    obtain ⟨i, hi, ei⟩ := h.entry (j := k) (by omega)
    obtain ⟨j, hj, ej⟩ := h.entry (j := k + 1) hk
    have hne := h.inj (j := k) (k := k + 1) (by omega) hk
    have hle := h.sorted k (k + 1) (by omega) hk
    unfold Adj at ha
    rw [ei, ej] at ha hne hle
    simp only [Int.toNat_natCast] at ha hne hle
    refine ⟨i, j, hi, hj, by omega, ?_⟩
    rcases ha with ha | ha
    · exact .inl ha.symm
    · by_cases e : zs.getD i 0 = zs.getD j 0
      · exact .inl e
      · exact .inr ⟨by omega, ha⟩
  · rintro ⟨i, j, hi, hj, hne, ho⟩
    obtain ⟨p, hp, ep⟩ := h.onto hi
    obtain ⟨q, hq, eq⟩ := h.onto hj
    have hpq : p ≠ q := by
      rintro rfl
      rw [ep] at eq
      injection eq with e1 e2
      omega
    have key : ∀ a b : Nat, a < b → b < zs.length → (d[a]!).1 ≤ (d[a + 1]!).1 ∧ (d[a + 1]!).1 ≤ (d[b]!).1 := fun a b hab hb => by
      refine ⟨h.sorted a (a + 1) (by omega) (by omega), ?_⟩
      by_cases e : a + 1 = b
      · rw [e]; exact Int.le_refl _
      · exact h.sorted (a + 1) b (by omega) hb
    have dp1 : (d[p]!).1 = zs.getD i 0 := by rw [ep]
    have dp2 : (d[p]!).2 = (i : Int) := by rw [ep]
    have dq1 : (d[q]!).1 = zs.getD j 0 := by rw [eq]
    rcases ho with ho | ⟨h1, h2⟩
    · rcases Nat.lt_or_gt_of_ne hpq with hl | hl
      · have := key p q hl hq
        exact ⟨p, by omega, .inl (by omega)⟩
      · have := key q p hl hp
        exact ⟨q, by omega, .inl (by omega)⟩
    · rcases Nat.lt_or_gt_of_ne hpq with hl | hl
      · have := key p q hl hq
        refine ⟨p, by omega, .inr ?_⟩
        rw [dp2, Int.toNat_natCast]
        omega
      · have := h.sorted q p hl hp
        omega

theorem zz20_any (ao bo : Option Addr) (n c1 c2 : Nat) (ids : Bool) (w : World) :
    Calls Tryf.prog 20 #[.slice ao n c1, .slice bo n c2, .bool ids] w fun e w' => ∃ G, e = .returned (.pointer (some ⟨G, 0, none⟩)) ∧ GrAt w' G ao bo n c1 c2 ids ∧ Keeps (fun _ => False) w w' := by
  go_enter Tryf.func20, Tryf.ntmps20
  go_wp2
  go_ret
  refine ⟨w.heap.size, rfl, ?_, (Keeps.refl _ w).alloc _⟩
  exact ⟨(Blk.new w _ _).cell 0, (Blk.new w _ _).cell 1, (Blk.new w _ _).cell 16⟩

theorem zz21_any (X R : Nat) (bo : Option Addr) (n c2 : Nat) (ids : Bool) (d : Array (Int × Int)) (w : World) (h : IxAt w X R bo n c2 ids d) :
    Calls Tryf.prog 21 #[.pointer (some ⟨X, 0, none⟩)] w fun e w' => e = .returned (.int .i64 n) ∧ w' = w := by
  have x2 := h.blk.cell 2
  simp at x2
  go_enter Tryf.func21, Tryf.ntmps21
  go_wp2
  go_ret
  exact ⟨rfl, rfl⟩

set_option maxHeartbeats 800000 in
theorem zz22_any (X R : Nat) (bo : Option Addr) (n c2 : Nat) (ids : Bool) (d : Array (Int × Int)) (w : World) (h : IxAt w X R bo n c2 ids d) (k : Nat) (hk : k < n) (_hn : n ≤ 1048576) (x o : Int) (hx : d[k]! = (x, o)) :
    Calls Tryf.prog 22 #[.pointer (some ⟨X, 0, none⟩), .int .i64 k] w fun e w' => e = .returned (.tuple #[.int .u64 x, .int .i64 o]) ∧ Keeps (fun _ => False) w w' := by
  have x2 := h.blk.cell 2
  have hs := h.size
  have a0 := (h.row.cell (i := k) (c := 0) (by omega) (by omega)).1
  have a1 := (h.row.cell (i := k) (c := 1) (by omega) (by omega)).1
  rw [hx] at a0 a1
  simp [encIx] at x2 a0 a1
  clear hx
  go_enter Tryf.func22, Tryf.ntmps22
  go_wp2_with fail
  go_quiet (fail)
  go_wp2
  refine bodyPost_ret (results_tmp2 rfl _ _ _) rfl ?_
  exact ⟨rfl, keeps_drewN ((Keeps.refl _ w).alloc _) _⟩

set_option maxHeartbeats 800000 in
theorem zz19_any (G : Nat) (ao bo : Option Addr) (n c1 c2 : Nat) (zs ss : List Int) (ids : Bool) (w : World) (hn : n ≤ 1048576) (hG : GrAt w G ao bo n c1 c2 ids) (ha : UArg w ao n zs) (hb : UArg w bo n ss) :
    Calls Tryf.prog 19 #[.pointer (some ⟨G, 0, none⟩)] w fun e w' => ∃ X R ev d, e = .returned (.tuple #[.pointer (some ⟨X, 0, none⟩), ev]) ∧ IxAt w' X R bo n c2 ids d ∧ IxOf zs d ∧
      ErrIs (AnyOv zs ss ids) ev ∧ Keeps (fun _ => False) w w' := by
  have HC := hid (newIx_any G ao bo n c1 c2 zs ss ids w hn hG ha hb)
  go_enter Tryf.func19, Tryf.ntmps19
  go_wp2_with (go_at_call 29; refine HC.out.mono ?_; rintro e w' ⟨X, R, ev, d, rfl, h1, h2, h3, h4⟩)
  refine bodyPost_ret (results_tmp2 rfl _ _ _) rfl ?_
  refine ⟨X, R, ev, d, rfl, h1, h2, ?_, h4⟩
  rw [← ha.1] at h3
  unfold ErrIs at h3 ⊢
  rw [adj_iff h2] at h3
  exact h3
end Go.Proofs.Qxb6609217aFmt
