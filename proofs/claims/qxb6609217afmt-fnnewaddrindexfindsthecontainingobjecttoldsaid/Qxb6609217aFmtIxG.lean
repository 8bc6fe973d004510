import Derived.Test.Qxb6609217aFmtIxF
namespace Go.Proofs.Qxb6609217aFmt
open Go.RowKit Go.Shelf Go.Lib Go.Sort

/-- Which objects the first k entries name. -/
def seenF (d : Array (Int × Int)) (k o : Nat) : Bool := (List.range k).any fun j => decide ((d[j]!).2 = (o : Int))
def seenA (n : Nat) (d : Array (Int × Int)) (k : Nat) : Array Value := ((List.range n).map fun o => Value.bool (seenF d k o)).toArray
theorem seenA_at {n k o : Nat} {d : Array (Int × Int)} (h : o < n) : (seenA n d k)[o]? = some (.bool (seenF d k o)) := by simp [seenA, h]
theorem seenA_set {n k o : Nat} {d : Array (Int × Int)} (ho : (d[k]!).2 = (o : Int)) : (seenA n d k).setIfInBounds o (.bool true) = seenA n d (k + 1) := by
  apply Array.ext_getElem?
  intro j
  rw [Array.getElem?_setIfInBounds]
  by_cases hj : j < n
  · rw [seenA_at hj, seenA_at hj]
    have e : seenF d (k + 1) j = (seenF d k j || decide ((d[k]!).2 = (j : Int))) := by simp [seenF, List.range_succ]
    rw [e, ho]
    by_cases eo : o = j
    · subst eo
      rw [if_pos rfl, if_pos (by simp [seenA]; exact hj)]
      simp
    · rw [if_neg eo]
      have : ¬ ((o : Int) = (j : Int)) := by omega
      simp [this]
  · have e1 : (seenA n d k)[j]? = none := by simp [seenA]; omega
    have e2 : (seenA n d (k + 1))[j]? = none := by simp [seenA]; omega
    rw [e1, e2]
    split
    · rw [if_neg (by simp [seenA]; omega)]
    · rfl
theorem seenA_start (n : Nat) (d : Array (Int × Int)) : madeCells #[.bool false] n = seenA n d 0 := by
  apply Array.ext'
  rw [toList_madeCells_one]
  simp [seenA, seenF, List.map_const']
theorem Tryf.info4u : (Tryf.prog.info? 4).map (fun i => (i.zero, i.size, i.bytes)) = some (some (.bool false), 1, 1) := by kernel_rfl
theorem make_seen (d : Array (Int × Int)) (n : Nat) (hn : n ≤ 1048576) (w : World) :
    (Instr.makeSlice 68 (.int .i64 (n : Int)) (.int .i64 (n : Int))).run Tryf.prog w = .ok (.slice (some ⟨w.heap.size, 0, none⟩) n n) (w.alloc (.cells (seenA n d 0) 4)) := by
  obtain ⟨i0, hi0, hz0, hz1, hz2⟩ := info_parts Tryf.info4u
  have := run_make (P := Tryf.prog) w 68 4 i0 (.bool false) Tryf.underlying68 hi0 hz0 .i64 .i64 n n (by omega) (Int.le_refl _) (by rw [hz2]; omega) (by omega)
  rw [this, hz1]
  simp only [Int.toNat_natCast, Value.cells, Nat.mul_one]
  rw [seenA_start n d]

theorem UArg.keep {S : Nat → Prop} {w w' : World} {ao : Option Addr} {n : Nat} {zs : List Int} (h : UArg w ao n zs) (k : Keeps S w w') (hs : ∀ b, b < w.heap.size → ¬ S b) : UArg w' ao n zs :=
  ⟨h.1, h.2.1, fun h0 => by
    obtain ⟨b, off, e, hlt, hc⟩ := h.2.2 h0
    exact ⟨b, off, e, Nat.lt_of_lt_of_le hlt k.size, fun i hi => k.cell (hc i hi) (hs b hlt)⟩⟩

theorem IxAt.keep {S : Nat → Prop} {w w' : World} {X R : Nat} {bo : Option Addr} {n c2 : Nat} {ids : Bool} {d : Array (Int × Int)} (h : IxAt w X R bo n c2 ids d) (k : Keeps S w w') (hs : ∀ b, b < w.heap.size → ¬ S b) : IxAt w' X R bo n c2 ids d :=
  ⟨k.blk h.blk (hs _ h.blk.lt), holdsK_keep h.row h.lt k (hs _ h.lt), Nat.lt_of_lt_of_le h.lt k.size, h.size⟩

/-- true is returned. -/
def RetT (e : Ending) : Prop := e = .returned (.bool true)

set_option maxRecDepth 100000 in
set_option maxHeartbeats 1600000 in
theorem law5_any (ao bo : Option Addr) (n m c1 c2 : Nat) (zs ss : List Int) (ids : Bool) (w : World) (hn : n ≤ maxLen) (hm : m ≤ maxLen) (ha : UArg w ao n zs) (hb : UArg w bo m ss) :
    Calls Tryf.prog 5 #[.slice ao n c1, .slice bo m c2, .bool ids] w fun e w' => RetT e ∧ Keeps (fun _ => False) w w' := by
  have HZ := hid (zz17_any ao bo n m c1 c2 ids w hn hm)
  unfold maxLen at hn hm
  by_cases h1 : 4096 < n
  · go_enter Tryf.func5, Tryf.ntmps5
    go_wp2_with (go_at_call 17; refine HZ.out.mono ?_; rintro e w' ⟨⟨b, rfl⟩, rfl⟩; cases b)
    all_goals go_ret; exact ⟨rfl, Keeps.refl _ _⟩
  by_cases h2 : 4096 < m
  · go_enter Tryf.func5, Tryf.ntmps5
    go_wp2_with (go_at_call 17; refine HZ.out.mono ?_; rintro e w' ⟨⟨b, rfl⟩, rfl⟩; cases b)
    all_goals go_ret; exact ⟨rfl, Keeps.refl _ _⟩
  by_cases h3 : m = n
  · subst h3
    have HCa := hid (clone_any ao m c1 zs w (by omega) ha)
    have HCb : Hid (∀ W, Keeps (fun _ => False) w W → Calls Tryf.prog 18 #[.slice bo m c2] W fun e w' => ∃ go c', e = .returned (.slice go m c') ∧ UArg w' go m ss ∧ Keeps (fun _ => False) W w') :=
      fun W hW => clone_any bo m c2 ss W (by omega) (hb.keep hW (fun _ _ => id))
    have hl1 := ha.1
    clear ha hb
    go_enter Tryf.func5, Tryf.ntmps5
    go_wp2_with (first
      | (go_at_call 17; refine HZ.out.mono ?_; rintro e w' ⟨⟨b, rfl⟩, rfl⟩; cases b)
      | (go_at_call 18; first | (refine (HCb.out _ hk1).mono ?_; rintro e w2 ⟨gb, d2, rfl, hb, hk2⟩) | (refine HCa.out.mono ?_; rintro e w1 ⟨ga, d1, rfl, ha, hk1⟩))
      | (go_at_call 20; refine (zz20_any _ _ _ _ _ _ _).mono ?_; rintro e w3 ⟨G, rfl, hG, hk3⟩)
      | (go_at_call 19; refine (zz19_any _ _ _ _ _ _ zs ss ids _ (by omega) hG ((ha.keep hk2 (fun _ _ => id)).keep hk3 (fun _ _ => id)) (hb.keep hk3 (fun _ _ => id))).mono ?_; rintro e w4 ⟨X, R, ev, d, rfl, hI, hO, hE, hk4⟩)
      | (go_at_call 21; refine (zz21_any _ _ _ _ _ _ _ _ hI).mono ?_; rintro e w5 ⟨rfl, rfl⟩; have hmk := make_seen d m (by omega)))
    · go_ret
      exact ⟨rfl, Keeps.refl _ _⟩
    have hkw : Keeps (fun _ => False) w w5 := ((hk1.trans hk2).trans hk3).trans hk4
    have hga := ((ha.keep hk2 (fun _ _ => id)).keep hk3 (fun _ _ => id)).keep hk4 (fun _ _ => id)
    have hgb := (hb.keep hk3 (fun _ _ => id)).keep hk4 (fun _ _ => id)
    have HO := hid hO
    have HE := hid hE
    clear hmk hk1 hk2 hk3 hk4 ha hb hO hE HCa HCb HZ hG
    go_loopw [11, 12] (fun p' i' wr => ∃ (p : Int) (k : Nat), k ≤ m ∧ p' = .int .u64 p ∧ i' = .int .i64 k ∧ Hid (∀ j, k ≤ j → j < m → p ≤ (d[j]!).1) ∧ Blk wr w5.heap.size 4 (seenA m d k) ∧ Keeps (fun _ => False) w5 wr) (fun _ i' _ => m - (intOf i').toNat)
    case atStart =>
      refine ⟨0, 0, Nat.zero_le _, rfl, rfl, ?_, Blk.new w5 4 _, (Keeps.refl _ w5).alloc _⟩
      intro j _ hj
      obtain ⟨i, hi, ei⟩ := HO.out.entry (j := j) (by omega)
      rw [ei]
      exact (hga.range i).1
    case round =>
      obtain ⟨p, k, hk, rfl, rfl, Hp, hS, hkr⟩ := hrel
      by_cases hlt : k < m
      · obtain ⟨i, hi, ei⟩ := HO.out.entry (j := k) (by omega)
        have hz := zz22_any X R _ m _ ids d wr (hI.keep hkr (fun _ _ => id)) k hlt (by omega) _ _ ei
        have hpk := Hp.out k (Nat.le_refl _) hlt
        rw [ei] at hpk
        have HN : Hid (∀ j, k + 1 ≤ j → j < m → zs.getD i 0 ≤ (d[j]!).1) := fun j h1 h2 => by
          have := HO.out.sorted k j (by omega) (by omega)
          rw [ei] at this
          exact this
        have hseen : seenF d k i = false := by
          unfold seenF
          rw [List.any_eq_false]
          intro j hj
          have hj' := List.mem_range.1 hj
          have := HO.out.inj (j := j) (k := k) hj' (by omega)
          rw [ei] at this
          simpa using this
        have hset := seenA_set (n := m) (d := d) (k := k) (o := i) (by rw [ei])
        obtain ⟨b, off, rfl, hb1, hc⟩ := hga.2.2 (by omega)
        have him : i < m := by omega
        have ci := hkr.cell (hc i him) id
        have si := hS.cell i
        rw [seenA_at him, hseen] at si
        obtain ⟨x, hx⟩ : ∃ x, x = zs.getD i 0 := ⟨_, rfl⟩
        rw [← hx] at hz hpk ci HN
        have Hz := hid hz
        have Hset := hid hset
        clear hc hx ei hseen hset hz hi
        by_cases hk0 : 0 < k
        · go_wp2_with (go_at_call 22; refine Hz.out.mono ?_; rintro e w6 ⟨rfl, hk6⟩; have ci6 := hk6.cell ci id; have si6 := hk6.cell si id; have fi6 := (hk6.blk hS id).frozen i)
          go_roundw
          case rel =>
            refine ⟨x, k + 1, by omega, rfl, by go_num, HN, ?_, (hkr.trans hk6).setCell (.inl (Nat.le_refl _)) _⟩
            have := (hk6.blk hS id).set i (.bool true)
            rw [Hset.out] at this
            exact this
          case measure => simp [intOf]; omega
        · go_wp2_with (go_at_call 22; refine Hz.out.mono ?_; rintro e w6 ⟨rfl, hk6⟩; have ci6 := hk6.cell ci id; have si6 := hk6.cell si id; have fi6 := (hk6.blk hS id).frozen i)
          go_roundw
          case rel =>
            refine ⟨x, k + 1, by omega, rfl, by go_num, HN, ?_, (hkr.trans hk6).setCell (.inl (Nat.le_refl _)) _⟩
            have := (hk6.blk hS id).set i (.bool true)
            rw [Hset.out] at this
            exact this
          case measure => simp [intOf]; omega
      · obtain rfl : k = m := by omega
        have hga' := hga.keep hkr (fun _ _ => id)
        have hgb' := hgb.keep hkr (fun _ _ => id)
        obtain ⟨bv, hbv⟩ : ∃ b : Bool, b = true ↔ AnyOv zs ss ids := by
          by_cases h : AnyOv zs ss ids
          · exact ⟨true, by simp [h]⟩
          · exact ⟨false, by simp [h]⟩
        have HC : Hid (∀ q, Calls Tryf.prog 23 #[.slice ga k d1, .slice gb k d2, .bool ids] (wr.drewN q) fun e w' => e = .returned (.bool bv) ∧ ∃ r, w' = wr.drewN r) := by
          intro q
          refine (anyOv_any ga gb k d1 d2 zs ss ids (wr.drewN q) (by omega) hga' hgb').mono ?_
          rintro e w' ⟨⟨b, rfl, hb⟩, r, rfl⟩
          refine ⟨?_, drews _ _ _⟩
          rw [Bool.eq_iff_iff.2 (hb.trans hbv.symm)]
        rcases HE.out with ⟨rfl, hno⟩ | ⟨⟨t, v, rfl⟩, hyes⟩
        · obtain rfl : bv = false := by cases bv <;> simp_all
          have q42 : ∀ W, (binOp .neq 42 .nilIface .nilIface).run Tryf.prog W = .ok (.bool false) W := fun W => Go.run_neq_nil_nil_at W 42 (by kernel_rfl)
          clear hno hbv
          go_wp2_with fail
          go_quiet ((go_at_call 23; refine (HC.out _).mono ?_; rintro e w' ⟨rfl, r, rfl⟩; exact ⟨rfl, _, rfl⟩))
          go_wp2
          go_ret
          exact ⟨rfl, keeps_drewN (hkw.trans hkr) _⟩
        · obtain rfl : bv = true := hbv.2 hyes
          have q42 : ∀ W, (binOp .neq 42 (.iface t v) .nilIface).run Tryf.prog W = .ok (.bool true) W := fun W => Go.run_neq_iface_nil W 42 (by kernel_rfl) t v
          clear hyes hbv
          go_wp2_with fail
          go_quiet ((go_at_call 23; refine (HC.out _).mono ?_; rintro e w' ⟨rfl, r, rfl⟩; exact ⟨rfl, _, rfl⟩))
          go_wp2
          go_ret
          exact ⟨rfl, keeps_drewN (hkw.trans hkr) _⟩
  · go_enter Tryf.func5, Tryf.ntmps5
    go_wp2_with (go_at_call 17; refine HZ.out.mono ?_; rintro e w' ⟨⟨b, rfl⟩, rfl⟩; cases b)
    all_goals go_ret; exact ⟨rfl, Keeps.refl _ _⟩
end Go.Proofs.Qxb6609217aFmt
