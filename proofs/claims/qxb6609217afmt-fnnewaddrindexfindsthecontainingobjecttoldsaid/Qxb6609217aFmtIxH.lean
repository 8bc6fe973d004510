import Derived.Test.Qxb6609217aFmtIxG
namespace Go.Proofs.Qxb6609217aFmt
open Go.RowKit Go.Shelf Go.Lib Go.Sort

set_option maxHeartbeats 800000 in
theorem closure39 (x : Int × Int) (a : Int) (W : World) : Calls Tryf.prog 39 #[.agg #[.int .u64 x.1, .int .i64 x.2], .int .u64 a] W fun e w' => e = .returned (.int .i64 (cmp3 x.1 a)) ∧ Keeps (fun _ => False) W w' := by
  have hcon := fun W' => compare_any x.1 a W'
  generalize cmp3 x.1 a = r at hcon ⊢
  go_enter Tryf.func39, Tryf.ntmps39
  go_wp2_with (go_at_call 35; refine (hcon _).mono ?_; rintro e w' ⟨rfl, rfl⟩)
  go_ret
  exact ⟨rfl, (Keeps.refl _ W).alloc _⟩

theorem cmp3_neg {a b : Int} : cmp3 a b < 0 ↔ a < b := by
  unfold cmp3
  split
  · simp; omega
  · split <;> simp <;> omega
theorem cmp3_zero {a b : Int} : cmp3 a b = 0 ↔ a = b := by
  unfold cmp3
  split
  · simp; omega
  · split
    · simp; omega
    · simp; omega

/-- What the search answers: the first place that isn't below x, and whether x lies there. -/
structure Srch (d : Array (Int × Int)) (n : Nat) (x : Int) (k : Nat) (f : Bool) : Prop where
  le : k ≤ n
  below : ∀ j, j < k → (d[j]!).1 < x
  above : ∀ j, k ≤ j → j < n → x ≤ (d[j]!).1
  hit : f = true ↔ (k < n ∧ (d[k]!).1 = x)

set_option maxRecDepth 100000 in
set_option maxHeartbeats 1600000 in
theorem bs_any (R n cap : Nat) (d : Array (Int × Int)) (x : Int) (w : World) (hH : HoldsK encIx 2 w R 0 d) (hR : R < w.heap.size) (hs : d.size = n) (hn : n ≤ 1048576)
    (hso : ∀ i j, i < j → j < n → (d[i]!).1 ≤ (d[j]!).1) :
    Calls Tryf.prog 38 #[.slice (some ⟨R, 0, none⟩) n cap, .int .u64 x, .func (.func 39) #[] #[]] w fun e w' => ∃ k f, e = .returned (.tuple #[.int .i64 (k : Nat), .bool f]) ∧ Srch d n x k f ∧ Keeps (fun _ => False) w w' := by
  have HSO := hid hso
  clear hso
  go_enter Tryf.func38, Tryf.ntmps38
  go_wp2
  go_loopw [9, 10] (fun i' j' wr => ∃ i j : Nat, i ≤ j ∧ j ≤ n ∧ i' = .int .i64 i ∧ j' = .int .i64 j ∧ Hid (∀ t, t < i → (d[t]!).1 < x) ∧ Hid (∀ t, j ≤ t → t < n → x ≤ (d[t]!).1) ∧ Keeps (fun _ => False) w wr) (fun i' j' _ => (intOf j' - intOf i').toNat)
  case atStart => exact ⟨0, n, Nat.zero_le _, Nat.le_refl _, rfl, rfl, (fun t h => by omega), (fun t h1 h2 => by omega), Keeps.refl _ _⟩
  case round =>
    obtain ⟨i, j, hij, hjn, rfl, rfl, Hb, Ha, hkr⟩ := hrel
    by_cases hlt : i < j
    · have hHr := holdsK_keep hH hR hkr id
      have a0 := (hHr.cell (i := (i + j) / 2) (c := 0) (by omega) (by omega)).1
      have a1 := (hHr.cell (i := (i + j) / 2) (c := 1) (by omega) (by omega)).1
      obtain ⟨dm, hdm⟩ : ∃ x, x = d[(i + j) / 2]! := ⟨_, rfl⟩
      rw [← hdm] at a0 a1
      simp [encIx] at a0 a1
      have Hdm := hid hdm
      have HC := hid (closure39 dm x wr)
      have hiff : cmp3 dm.1 x < 0 ↔ dm.1 < x := cmp3_neg
      clear hdm
      generalize cmp3 dm.1 x = r at HC hiff
      by_cases hc : r < 0
      · have HL := hid (hiff.1 hc)
        clear hiff
        go_wp2_with (go_at_call 39; refine HC.out.mono ?_; rintro e w1 ⟨rfl, hk1⟩)
        go_roundw
        case rel =>
          refine ⟨(i + j) / 2 + 1, j, by omega, hjn, by go_num, rfl, fun t ht => ?_, Ha, hkr.trans hk1⟩
          have h1 := HL.out
          rw [Hdm.out] at h1
          by_cases e : t = (i + j) / 2
          · rw [e]; exact h1
          · have := HSO.out t ((i + j) / 2) (by omega) (by omega)
            omega
        case measure => simp [intOf]; omega
      · have HL := hid (fun h => hc (hiff.2 h))
        clear hiff
        go_wp2_with (go_at_call 39; refine HC.out.mono ?_; rintro e w1 ⟨rfl, hk1⟩)
        go_roundw
        case rel =>
          refine ⟨i, (i + j) / 2, by omega, by omega, rfl, by go_num, Hb, fun t h1 h2 => ?_, hkr.trans hk1⟩
          have h3 : ¬ dm.1 < x := HL.out
          rw [Hdm.out] at h3
          by_cases e : t = (i + j) / 2
          · rw [e]; omega
          · have := HSO.out ((i + j) / 2) t (by omega) h2
            omega
        case measure => simp [intOf]; omega
    · obtain rfl : i = j := by omega
      by_cases hin : i < n
      · have hHr := holdsK_keep hH hR hkr id
        have a0 := (hHr.cell (i := i) (c := 0) (by omega) (by omega)).1
        have a1 := (hHr.cell (i := i) (c := 1) (by omega) (by omega)).1
        obtain ⟨dm, hdm⟩ : ∃ x, x = d[i]! := ⟨_, rfl⟩
        rw [← hdm] at a0 a1
        simp [encIx] at a0 a1
        have Hdm := hid hdm
        have HC := hid (closure39 dm x wr)
        have hiff : cmp3 dm.1 x = 0 ↔ dm.1 = x := cmp3_zero
        clear hdm
        generalize cmp3 dm.1 x = r at HC hiff
        have HF := hid hiff
        clear hiff
        go_wp2_with (go_at_call 39; refine HC.out.mono ?_; rintro e w1 ⟨rfl, hk1⟩)
        refine bodyPost_ret (results_tmp2 rfl _ _ _) rfl ?_
        refine ⟨i, r == 0, rfl, ⟨by omega, Hb.out, Ha.out, ?_⟩, hkr.trans hk1⟩
        have h1 := HF.out
        rw [Hdm.out] at h1
        simp [hin, h1]
      · go_wp2
        refine bodyPost_ret (results_tmp2 rfl _ _ _) rfl ?_
        exact ⟨i, false, rfl, ⟨by omega, Hb.out, Ha.out, by simp [hin]⟩, hkr⟩
end Go.Proofs.Qxb6609217aFmt
