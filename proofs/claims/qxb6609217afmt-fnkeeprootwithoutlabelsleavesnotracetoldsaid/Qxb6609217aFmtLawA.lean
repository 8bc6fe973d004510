import Derived.Test.Qxb6609217aFmtKeepD
namespace Go.Proofs.Qxb6609217aFmt
open Go.RowKit

/-- The cells that the kinds of these names lie in. -/
def kc (ss : List ByteArray) : List Value := ss.flatMap fun s => [.string s, .nilFunc]
theorem kc_snoc (ss : List ByteArray) (s : ByteArray) : kc (ss ++ [s]) = kc ss ++ [.string s, .nilFunc] := by simp [kc]
theorem kc_take (ss : List ByteArray) (k : Nat) (h : k < ss.length) : kc (ss.take (k + 1)) = kc (ss.take k) ++ [.string (ss.getD k ByteArray.empty), .nilFunc] := by
  rw [List.take_succ_eq_append_getElem h, kc_snoc]; simp [List.getD, h]

/-- The new Builder while its kinds are added. -/
def Adding (w0 wr : World) (B : Nat) (l : Bool) (ss : List ByteArray) (k : Nat) : Prop :=
  ∃ v5 v7 v12, IsSl v5 ∧ Blk wr B 47 (bcs false false l v5 v7 v12 (.slice none 0 0) (.slice none 0 0) (.map none)) ∧
    wr.ownsRow (B + 1) 51 2 v12 k (kc (ss.take k)) ∧ Below B w0 wr

theorem Adding.step {w0 wr w2 : World} {B : Nat} {l : Bool} {ss : List ByteArray} {k : Nat} {v5 v7 v12 v5' v7' : Value} {g cap : Nat} (hB : Blk wr B 47 (bcs false false l v5 v7 v12 (.slice none 0 0) (.slice none 0 0) (.map none)))
    (hown : wr.ownsRow (B + 1) 51 2 v12 k (kc (ss.take k))) (hbel : Below B w0 wr) (hk : k < ss.length) (h5' : IsSl v5')
    (hB' : Blk w2 B 47 (bcs false false l v5' v7' (.slice (some ⟨g, 0, none⟩) (k + 1) cap) (.slice none 0 0) (.slice none 0 0) (.map none)))
    (hown' : w2.ownsRow (B + 1) 51 2 (.slice (some ⟨g, 0, none⟩) (k + 1) cap) (k + 1) (kc (ss.take k) ++ [.string (ss.getD k ByteArray.empty), .nilFunc]))
    (hK : Keeps (fun k => k = B ∨ v12.ownBlock = some k) wr w2) : Adding w0 w2 B l ss (k + 1) := by
  have hlt := hB.lt
  refine ⟨v5', v7', _, h5', hB', by rw [kc_take ss k hk]; exact hown', hbel.trans (hK.below (by omega) (fun j hj => ?_))⟩
  rcases hj with rfl | hj
  · omega
  · have := (hown.lt j hj).1; omega

set_option maxRecDepth 100000 in
set_option maxHeartbeats 1600000 in
theorem law2_false (ao : Option Addr) (len cap : Nat) (ss : List ByteArray) (ro : Option Addr) (rlen rcap : Nat) (rs : List RIn) (w : World) (hlen : len ≤ maxLen) (h : StrArg w ao len ss) (hrlen : rlen ≤ maxLen) (hr : RootArg w ro rlen rs) :
    Calls Tryf.prog 3 #[.bool false, .slice ao len cap, .slice ro rlen rcap] w fun e w' => e = .returned (.bool true) ∧ Below w.heap.size w w' := by
  have HZ := zz7_any false ao len cap ss ro rlen rcap rs w hlen h hrlen hr
  have HS := sb_any ao len cap ss w hlen h
  have HR := rb_any ro rlen rcap rs w hrlen hr
  unfold maxLen at hlen hrlen
  by_cases h1 : 65536 < len
  · go_enter Tryf.func3, Tryf.ntmps3
    go_wp2_with fail
    refine HZ.mono ?_
    rintro e w' ⟨⟨b, rfl⟩, rfl⟩
    cases b
    · go_wp2
      go_ret
      exact ⟨rfl, Below.refl _ _⟩
    · go_wp2
      go_ret
      exact ⟨rfl, Below.refl _ _⟩
  by_cases h2 : 4096 < rlen
  · go_enter Tryf.func3, Tryf.ntmps3
    go_wp2_with fail
    refine HZ.mono ?_
    rintro e w' ⟨⟨b, rfl⟩, rfl⟩
    cases b
    · go_wp2
      go_ret
      exact ⟨rfl, Below.refl _ _⟩
    · go_wp2
      go_ret
      exact ⟨rfl, Below.refl _ _⟩
  go_enter Tryf.func3, Tryf.ntmps3
  go_wp2_with fail
  refine HZ.mono ?_
  rintro e w' ⟨⟨b, rfl⟩, rfl⟩
  clear HZ
  cases b
  · go_wp2
    go_ret
    exact ⟨rfl, Below.refl _ _⟩
  go_wp2_with fail
  refine HS.mono ?_
  rintro e w1 ⟨⟨n, rfl⟩, rfl⟩
  go_wp2_with fail
  refine HR.mono ?_
  rintro e w1 ⟨⟨n', rfl⟩, rfl⟩
  clear HS HR
  go_wp2_with fail
  · go_ret
    exact ⟨rfl, Below.refl _ _⟩
  go_loopw [9] (fun i' wr => ∃ k : Nat, k ≤ len ∧ i' = .int .i64 k ∧ Adding w wr w.heap.size false ss k) (fun i' _ => len - (intOf i').toNat)
  case atStart => exact ⟨0, Nat.zero_le _, rfl, .slice none 0 0, .slice none 0 0, .slice none 0 0, .inl rfl, Blk.new w 47 _, World.ownsRow_nil _ _ _ _, (Below.refl _ _).alloc (Nat.le_refl _) _⟩
  case round =>
    obtain ⟨k, hk, rfl, v5, v7, v12, h5, hB, hown, hbel⟩ := hrel
    by_cases hlt : k < len
    · obtain ⟨b, off, rfl, hb, hc⟩ := h.2 (by omega)
      have hck : wr.cell? ⟨b, off + k, none⟩ = some (.string (ss.getD k ByteArray.empty)) := (hbel.cell (p := ⟨b, off + k, none⟩) hb).trans (hc k hlt)
      clear hc
      obtain ⟨s, hs⟩ : ∃ s, s = ss.getD k ByteArray.empty := ⟨_, rfl⟩
      rw [← hs] at hck
      have Hs := hid hs
      clear hs
      go_wp2_with fail
      refine (add_any false false false v5 v7 v12 _ _ _ s k (kc (ss.take k)) _ _ h5 hB hown (by omega)).mono ?_
      rintro e w2 ⟨rfl, v5', v7', g, cap', h5', hB', hown', hK⟩
      go_wp2
      go_roundw
      case rel => exact ⟨k + 1, by omega, by go_num, Adding.step hB hown hbel (by have := h.1; omega) h5' hB' (by rw [← Hs.out]; exact hown') hK⟩
      case measure => simp [intOf]; omega
    · go_wp2_with fail
      go_loopw [10] (fun i' wr' => ∃ j : Nat, j ≤ rlen ∧ i' = .int .i64 j ∧ Blk wr' w.heap.size 47 (bcs false false false v5 v7 v12 (.slice none 0 0) (.slice none 0 0) (.map none)) ∧ Below w.heap.size w wr') (fun i' _ => rlen - (intOf i').toNat)
      case atStart => exact ⟨0, Nat.zero_le _, rfl, hB, hbel⟩
      case round =>
        rename_i wr2
        clear hB hbel hown
        obtain ⟨j, hj, rfl, hB, hbel⟩ := hrel
        by_cases hlt' : j < rlen
        · obtain ⟨b, off, rfl, hb, hc⟩ := hr.2.2 (by omega)
          obtain ⟨d0, d1, d2, d3, d4⟩ := (hc j hlt').later hbel hb
          clear hc
          generalize rs.getD j RIn.zero = r at d0 d1 d2 d3 d4
          go_wp2_with fail
          refine (parts_any _ _ _ _ _ _).mono ?_
          rintro e w2 ⟨rfl, hk2⟩
          go_wp2_with fail
          refine (zzkeep_false false false v5 v7 v12 _ _ _ _ _ _ _ _ _ _ (hk2.blk hB id)).mono ?_
          rintro e w3 ⟨rfl, hk3⟩
          have hB3 := hk3.blk (hk2.blk hB id) id
          have hbel3 : Below w.heap.size w w3 := hbel.trans ((hk2.trans hk3).below hbel.size (fun _ => False.elim))
          go_wp2
          go_roundw
          case rel => exact ⟨j + 1, by omega, by go_num, hB3, hbel3⟩
          case measure => simp [intOf]; omega
        · go_wp2_with fail
          refine (texts_any false false false v5 v7 v12 _ _ _ _ _ hB).mono ?_
          rintro e w3 ⟨rfl, rfl⟩
          go_wp2_with fail
          refine (count_any false false false v5 v7 v12 _ _ none 0 0 _ _ hB).mono ?_
          rintro e w3 ⟨rfl, rfl⟩
          go_wp2
          go_ret
          exact ⟨rfl, hbel⟩
end Go.Proofs.Qxb6609217aFmt
