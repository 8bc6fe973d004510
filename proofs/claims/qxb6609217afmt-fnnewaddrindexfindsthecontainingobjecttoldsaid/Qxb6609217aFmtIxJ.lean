import Derived.Test.Qxb6609217aFmtIxI
namespace Go.Proofs.Qxb6609217aFmt
open Go.RowKit Go.Shelf Go.Lib Go.Sort

theorem zz19_ok (G : Nat) (ao bo : Option Addr) (n c1 c2 : Nat) (zs ss : List Int) (ids : Bool) (w : World) (hn : n ≤ 1048576) (hG : GrAt w G ao bo n c1 c2 ids) (ha : UArg w ao n zs) (hb : UArg w bo n ss) (hno : ¬ AnyOv zs ss ids) :
    Calls Tryf.prog 19 #[.pointer (some ⟨G, 0, none⟩)] w fun e w' => ∃ X R d, e = .returned (.tuple #[.pointer (some ⟨X, 0, none⟩), .nilIface]) ∧ IxAt w' X R bo n c2 ids d ∧ IxOf zs d ∧ Keeps (fun _ => False) w w' := by
  refine (zz19_any G ao bo n c1 c2 zs ss ids w hn hG ha hb).mono ?_
  rintro e w' ⟨X, R, ev, d, rfl, h1, h2, h3, h4⟩
  rcases h3 with ⟨rfl, _⟩ | ⟨_, h⟩
  · exact ⟨X, R, d, rfl, h1, h2, h4⟩
  · exact absurd h hno

/-- What is known of the index while the queries are asked. -/
structure Idx (w : World) (X R : Nat) (ao bo : Option Addr) (n c2 : Nat) (ids : Bool) (d : Array (Int × Int)) (zs ss : List Int) : Prop where
  hI : IxAt w X R bo n c2 ids d
  hO : IxOf zs d
  ha : UArg w ao n zs
  hb : UArg w bo n ss
  hno : ¬ AnyOv zs ss ids
theorem Idx.keep {w w' : World} {X R : Nat} {ao bo : Option Addr} {n c2 : Nat} {ids : Bool} {d : Array (Int × Int)} {zs ss : List Int} (h : Idx w X R ao bo n c2 ids d zs ss) (k : Keeps (fun _ => False) w w') : Idx w' X R ao bo n c2 ids d zs ss :=
  ⟨h.hI.keep k (fun _ _ => id), h.hO, h.ha.keep k (fun _ _ => id), h.hb.keep k (fun _ _ => id), h.hno⟩

theorem zz26_some {w : World} {X R : Nat} {ao bo : Option Addr} {n c2 : Nat} {ids : Bool} {d : Array (Int × Int)} {zs ss : List Int} {x : Int} (h : Idx w X R ao bo n c2 ids d zs ss) (hn : n ≤ 1048576) (hx : x < 18446744073709551616) {i : Nat} (hi : i < n) (hd : Hd zs ss ids x i) :
    Calls Tryf.prog 26 #[.pointer (some ⟨X, 0, none⟩), .int .u64 x] w fun e w' => e = .returned (.tuple #[.int .i64 i, .bool true]) ∧ Keeps (fun _ => False) w w' := by
  refine (zz26_any X R bo n c2 ids d zs ss x w hn h.hI h.hO h.hb h.ha.1 h.ha.2.1 hx h.hno).mono ?_
  rintro e w' ⟨got, ok, rfl, h1, h2⟩
  have hl := h.ha.1
  rcases h1 with ⟨rfl, j, hj, rfl, hdj⟩ | ⟨_, hn'⟩
  · obtain rfl := hd_uniq h.hno hj (by omega) hdj hd
    exact ⟨rfl, h2⟩
  · exact absurd hd (hn' i (by omega))

theorem zz26_none {w : World} {X R : Nat} {ao bo : Option Addr} {n c2 : Nat} {ids : Bool} {d : Array (Int × Int)} {zs ss : List Int} {x : Int} (h : Idx w X R ao bo n c2 ids d zs ss) (hn : n ≤ 1048576) (hx : x < 18446744073709551616) (hd : ∀ i, i < n → ¬ Hd zs ss ids x i) :
    Calls Tryf.prog 26 #[.pointer (some ⟨X, 0, none⟩), .int .u64 x] w fun e w' => ∃ got, e = .returned (.tuple #[.int .i64 got, .bool false]) ∧ Keeps (fun _ => False) w w' := by
  refine (zz26_any X R bo n c2 ids d zs ss x w hn h.hI h.hO h.hb h.ha.1 h.ha.2.1 hx h.hno).mono ?_
  rintro e w' ⟨got, ok, rfl, h1, h2⟩
  have hl := h.ha.1
  rcases h1 with ⟨_, j, hj, _, hdj⟩ | ⟨rfl, _⟩
  · exact absurd hdj (hd j (by omega))
  · exact ⟨got, rfl, h2⟩

theorem hd_of_holdsB {zs ss : List Int} {ids : Bool} {x : Int} {i : Nat} : holdsB ids (zs.getD i 0) (ss.getD i 0) x = true ↔ Hd zs ss ids x i := by
  simp only [holdsB, Hd, Bool.and_eq_true, decide_eq_true_eq]

set_option maxRecDepth 100000 in
set_option maxHeartbeats 1600000 in
theorem law6_any (ao bo qo : Option Addr) (n m l c1 c2 c3 : Nat) (zs ss xs : List Int) (ids : Bool) (w : World) (hn : n ≤ maxLen) (hm : m ≤ maxLen) (hl : l ≤ maxLen) (ha : UArg w ao n zs) (hb : UArg w bo m ss) (hq : UArg w qo l xs) :
    Calls Tryf.prog 6 #[.slice ao n c1, .slice bo m c2, .bool ids, .slice qo l c3] w fun e w' => RetT e ∧ Keeps (fun _ => False) w w' := by
  have HZ := hid (zz24_any ao bo qo n m l c1 c2 c3 ids w hn hm hl)
  unfold maxLen at hn hm hl
  by_cases h1 : 4096 < n
  · go_enter Tryf.func6, Tryf.ntmps6
    go_wp2_with (go_at_call 24; refine HZ.out.mono ?_; rintro e w' ⟨⟨b, rfl⟩, rfl⟩; cases b)
    all_goals go_ret; exact ⟨rfl, Keeps.refl _ _⟩
  by_cases h2 : 4096 < m
  · go_enter Tryf.func6, Tryf.ntmps6
    go_wp2_with (go_at_call 24; refine HZ.out.mono ?_; rintro e w' ⟨⟨b, rfl⟩, rfl⟩; cases b)
    all_goals go_ret; exact ⟨rfl, Keeps.refl _ _⟩
  by_cases h4 : 4096 < l
  · go_enter Tryf.func6, Tryf.ntmps6
    go_wp2_with (go_at_call 24; refine HZ.out.mono ?_; rintro e w' ⟨⟨b, rfl⟩, rfl⟩; cases b)
    all_goals go_ret; exact ⟨rfl, Keeps.refl _ _⟩
  by_cases h3 : m = n
  · subst h3
    have HA := hid (anyOv_any ao bo m c1 c2 zs ss ids w (by omega) ha hb)
    have HCa : Hid (∀ W, Keeps (fun _ => False) w W → Calls Tryf.prog 18 #[.slice ao m c1] W fun e w' => ∃ go c', e = .returned (.slice go m c') ∧ UArg w' go m zs ∧ Keeps (fun _ => False) W w') :=
      fun W hW => clone_any ao m c1 zs W (by omega) (ha.keep hW (fun _ _ => id))
    have HCb : Hid (∀ W, Keeps (fun _ => False) w W → Calls Tryf.prog 18 #[.slice bo m c2] W fun e w' => ∃ go c', e = .returned (.slice go m c') ∧ UArg w' go m ss ∧ Keeps (fun _ => False) W w') :=
      fun W hW => clone_any bo m c2 ss W (by omega) (hb.keep hW (fun _ _ => id))
    have hl1 := ha.1
    clear ha hb
    go_enter Tryf.func6, Tryf.ntmps6
    go_wp2_with (first
      | (go_at_call 24; refine HZ.out.mono ?_; rintro e w' ⟨⟨b, rfl⟩, rfl⟩; cases b)
      | (go_at_call 23; refine HA.out.mono ?_; rintro e w' ⟨⟨b, rfl, hov⟩, q0, rfl⟩; have hk0 := keeps_drewN (Keeps.refl (fun _ => False) w) q0; cases b)
      | (go_at_call 18; first | (refine (HCb.out _ hk01).mono ?_; rintro e w2 ⟨gb, d2, rfl, hb, hk2⟩) | (refine (HCa.out _ hk0).mono ?_; rintro e w1 ⟨ga, d1, rfl, ha, hk1⟩; have hk01 := hk0.trans hk1))
      | (go_at_call 20; refine (zz20_any _ _ _ _ _ _ _).mono ?_; rintro e w3 ⟨G, rfl, hG, hk3⟩)
      | (go_at_call 19; refine (zz19_ok _ _ _ _ _ _ zs ss ids _ (by omega) hG ((ha.keep hk2 (fun _ _ => id)).keep hk3 (fun _ _ => id)) (hb.keep hk3 (fun _ _ => id)) (by simpa using hov)).mono ?_; rintro e w4 ⟨X, R, d, rfl, hI, hO, hk4⟩))
    · go_ret
      exact ⟨rfl, Keeps.refl _ _⟩
    · have hno : ¬ AnyOv zs ss ids := by simpa using hov
      have hk3' := hk3
      have hkw : Keeps (fun _ => False) w w4 := (((hk0.trans hk1).trans hk2).trans hk3).trans hk4
      have HX : Hid (Idx w4 X R ga gb m d2 ids d zs ss) := ⟨hI, hO, ((ha.keep hk2 (fun _ _ => id)).keep hk3 (fun _ _ => id)).keep hk4 (fun _ _ => id), (hb.keep hk3 (fun _ _ => id)).keep hk4 (fun _ _ => id), hno⟩
      have hqw := hq.keep hkw (fun _ _ => id)
      clear hov hno hk0 hk01 hk1 hk2 hk3 hk3' hk4 ha hb hO hI HCa HCb HZ HA hG hq
      go_loopw [11] (fun i' wr => ∃ t : Nat, t ≤ l ∧ i' = .int .i64 t ∧ Keeps (fun _ => False) w4 wr) (fun i' _ => l - (intOf i').toNat)
      case atStart => exact ⟨0, Nat.zero_le _, rfl, Keeps.refl _ _⟩
      case round =>
        obtain ⟨t, ht, rfl, hkr⟩ := hrel
        by_cases hlt : t < l
        · obtain ⟨bq, offq, rfl, hbq, hcq⟩ := hqw.2.2 (by omega)
          have rx := (hqw.range t).2
          have cq := hcq t hlt
          obtain ⟨x, hx⟩ : ∃ x, x = xs.getD t 0 := ⟨_, rfl⟩
          rw [← hx] at rx cq
          clear hcq hx
          obtain ⟨W1, h⟩ : ∃ x, x = wr := ⟨_, rfl⟩
          subst h
          go_wp2
          go_loopw [12, 13] (fun v' i' wr => ∃ i : Nat, i ≤ m ∧ v' = .int .i64 (-1) ∧ i' = .int .i64 i ∧ Hid (∀ j, j < i → ¬ Hd zs ss ids x j) ∧ Keeps (fun _ => False) w4 wr) (fun _ i' _ => m - (intOf i').toNat)
          case atStart => exact ⟨0, Nat.zero_le _, rfl, rfl, (fun j h => by omega), hkr⟩
          case round =>
            obtain ⟨i, hi, rfl, rfl, Hno, hks⟩ := hrel
            have cqr := hks.cell cq id
            have HXr := hid (HX.out.keep hks)
            by_cases hlti : i < m
            · obtain ⟨ba, offa, rfl, _, hca⟩ := HXr.out.ha.2.2 (by omega)
              obtain ⟨bb, offb, rfl, _, hcb⟩ := HXr.out.hb.2.2 (by omega)
              have ca := hca i hlti
              have cb := hcb i hlti
              have ra := (HXr.out.ha.range i).1
              clear hca hcb
              have hiff : holdsB ids (zs.getD i 0) (ss.getD i 0) x = true ↔ Hd zs ss ids x i := hd_of_holdsB
              have HH : Hid (∀ W, Calls Tryf.prog 25 #[.int .u64 (zs.getD i 0), .int .u64 (ss.getD i 0), .bool ids, .int .u64 x] W fun e w' => e = .returned (.bool (holdsB ids (zs.getD i 0) (ss.getD i 0) x)) ∧ w' = W) := fun W => holds_any _ _ _ ids W ra rx
              generalize holdsB ids (zs.getD i 0) (ss.getD i 0) x = hb at HH hiff
              generalize zs.getD i 0 = a at HH ca ra
              generalize ss.getD i 0 = s at HH cb
              cases hb with
              | true =>
                have HD := hid (hiff.1 rfl)
                clear hiff
                go_wp2_with fail
                go_quiet ((go_at_call 25; refine (HH.out _).mono ?_; rintro e w' ⟨rfl, rfl⟩; exact ⟨rfl, _, rfl⟩))
                go_wp2_with (go_at_call 26; refine (zz26_some (HXr.out.keep (keeps_drewN (Keeps.refl _ wr) _)) (by omega) rx hlti HD.out).mono ?_; rintro e w6 ⟨rfl, hk6⟩)
                go_roundw
                case rel => exact ⟨t + 1, by omega, by go_num, (keeps_drewN hks _).trans hk6⟩
                case measure => simp [intOf]; omega
              | false =>
                have HD : Hid (¬ Hd zs ss ids x i) := fun h => by cases hiff.2 h
                clear hiff
                go_wp2_with fail
                go_quiet ((go_at_call 25; refine (HH.out _).mono ?_; rintro e w' ⟨rfl, rfl⟩; exact ⟨rfl, _, rfl⟩))
                go_wp2
                go_roundw
                case rel => exact ⟨i + 1, by omega, rfl, by go_num, fun j hj => by
                  by_cases e : j = i
                  · rw [e]; exact HD.out
                  · exact Hno.out j (by omega), keeps_drewN hks _⟩
                case measure => simp [intOf]; omega
            · go_wp2_with (go_at_call 26; refine (zz26_none HXr.out (by omega) rx (fun j hj => Hno.out j (by omega))).mono ?_; rintro e w6 ⟨got, rfl, hk6⟩)
              go_roundw
              case rel => exact ⟨t + 1, by omega, by go_num, hks.trans hk6⟩
              case measure => simp [intOf]; omega
        · go_wp2
          go_ret
          exact ⟨rfl, hkw.trans hkr⟩
    · go_ret
      exact ⟨rfl, hk0⟩
  · go_enter Tryf.func6, Tryf.ntmps6
    go_wp2_with (go_at_call 24; refine HZ.out.mono ?_; rintro e w' ⟨⟨b, rfl⟩, rfl⟩; cases b)
    all_goals go_ret; exact ⟨rfl, Keeps.refl _ _⟩
end Go.Proofs.Qxb6609217aFmt
