import Derived.Test.Qxb6609217aWalkB
import Derived.Deep.QuietTactic
import Derived.BigQuiet
namespace Go.Proofs.Qxb6609217a
open Go.RowKit

/-- The cells that the kinds of these names lie in. -/
def kc (ss : List ByteArray) : List Value := ss.flatMap fun s => [.string s, .nilFunc]
theorem kc_snoc (ss : List ByteArray) (s : ByteArray) : kc (ss ++ [s]) = kc ss ++ [.string s, .nilFunc] := by simp [kc]
theorem kc_take (ss : List ByteArray) (k : Nat) (h : k < ss.length) : kc (ss.take (k + 1)) = kc (ss.take k) ++ [.string (ss.getD k ByteArray.empty), .nilFunc] := by
  rw [List.take_succ_eq_append_getElem h, kc_snoc]; simp [List.getD, h]
theorem kc_at (ss : List ByteArray) : ∀ k, k < ss.length → (kc ss)[2 * k]? = some (.string (ss.getD k ByteArray.empty)) := by
  induction ss with
  | nil => intro k h; simp at h
  | cons s ss ih =>
    intro k h
    cases k with
    | zero => simp [kc]
    | succ k =>
      have := ih k (by simpa using h)
      rw [show 2 * (k + 1) = 2 * k + 1 + 1 by omega]
      simpa [kc] using this

theorem kinds_any (o i l : Bool) (v5 v7 v12 v13 v14 v26 : Value) (B : Nat) (w : World) (hB : Blk w B 42 (bcs o i l v5 v7 v12 v13 v14 v26)) :
    Calls Try.prog 7 #[.pointer (some ⟨B, 0, none⟩)] w fun e w' => e = .returned v12 ∧ w = w' := by
  have c12 := hB.cell 12
  simp [bcs] at c12
  go_enter Try.func7, Try.ntmps7
  go_wp2
  go_ret
  exact ⟨rfl, rfl⟩

set_option maxRecDepth 100000 in
set_option maxHeartbeats 1600000 in
theorem law_walk (o i l : Bool) (ao : Option Addr) (len cap : Nat) (ss : List ByteArray) (w : World) (hlen : len ≤ maxLen) (h : StrArg w ao len ss) :
    Calls Try.prog 3 #[.bool o, .bool i, .bool l, .slice ao len cap] w fun e w' => e = .returned (.bool true) ∧ Below w.heap.size w w' := by
  have HZ := zz_any o i l ao len cap ss w hlen h
  have HS := sb_any ao len cap ss w hlen h
  have hlen' := hlen
  unfold maxLen at hlen
  by_cases h1 : 65536 < len
  · go_enter Try.func3, Try.ntmps3
    go_wp2_with fail
    refine HZ.mono ?_
    rintro e w' ⟨⟨b, rfl⟩, rfl⟩
    cases b
    · go_wp2
      go_ret
      exact ⟨rfl, Below.refl _ _⟩
    · go_wp2
      go_ret
      exact ⟨rfl, Below.refl _ _⟩
  · go_enter Try.func3, Try.ntmps3
    go_wp2_with fail
    refine HZ.mono ?_
    rintro e w' ⟨⟨b, rfl⟩, rfl⟩
    clear HZ
    cases b
    · go_wp2
      go_ret
      exact ⟨rfl, Below.refl _ _⟩
    · go_wp2_with fail
      refine HS.mono ?_
      rintro e w1 ⟨⟨n, rfl⟩, rfl⟩
      clear HS
      by_cases h2 : 1048576 < n
      · go_wp2
        go_ret
        exact ⟨rfl, Below.refl _ _⟩
      · go_wp2_with fail
        go_loopw [10] (fun i' wr => ∃ k : Nat, k ≤ len ∧ i' = .int .i64 k ∧ ∃ v5 v7 v12, IsSl v5 ∧ Blk wr w.heap.size 42 (bcs o i l v5 v7 v12 (.slice none 0 0) (.slice none 0 0) (.map none)) ∧
            wr.ownsRow (w.heap.size + 1) 46 2 v12 k (kc (ss.take k)) ∧ Below w.heap.size w wr) (fun i' _ => len - (intOf i').toNat)
        case atStart => exact ⟨0, Nat.zero_le _, rfl, .slice none 0 0, .slice none 0 0, .slice none 0 0, .inl rfl, Blk.new w 42 _, World.ownsRow_nil _ _ _ _, (Below.refl _ _).alloc (Nat.le_refl _) _⟩
        case round =>
          obtain ⟨k, hk, rfl, v5, v7, v12, h5, hB, hown, hbel⟩ := hrel
          by_cases hlt : k < len
          · obtain ⟨b, off, rfl, hb, hc⟩ := h.2 (by omega)
            have hck : wr.cell? ⟨b, off + k, none⟩ = some (.string (ss.getD k ByteArray.empty)) := (hbel.cell (p := ⟨b, off + k, none⟩) hb).trans (hc k hlt)
            have Hkc := hid (kc_take ss k (by have := h.1; omega))
            clear hc
            generalize ss.getD k ByteArray.empty = s at hck Hkc
            go_wp2_with fail
            refine (add_any o i l v5 v7 v12 _ _ _ s k (kc (ss.take k)) _ _ h5 hB hown (by omega)).mono ?_
            rintro e w2 ⟨rfl, v5', v7', g, cap', h5', hB', hown', hK⟩
            go_wp2
            go_roundw
            case rel =>
              refine ⟨k + 1, by omega, by go_num, v5', v7', _, h5', hB', ?_, ?_⟩
              · rw [Hkc.out]; exact hown'
              · have hsz := hbel.size
                have hwr := hB.lt
                exact hbel.trans (hK.below (by omega) (fun k hk => by rcases hk with rfl | hk; · omega
                                                                      · have := (hown.lt k hk).1; omega))
            case measure => simp [intOf]; omega
          · go_wp2_with fail
            obtain rfl : k = len := by omega
            have hss : ss.take k = ss := List.take_of_length_le (by have := h.1; omega)
            rw [hss] at hown
            clear hss
            refine (kinds_any o i l v5 v7 v12 _ _ _ _ _ hB).mono ?_
            rintro e w2 ⟨rfl, rfl⟩
            obtain ⟨ga, gc, hv, hg⟩ : ∃ ga gc, v12 = .slice ga k gc ∧ (0 < k → ∃ g, ga = some ⟨g, 0, none⟩) := by
              rcases hown.2 with ⟨hv, h0⟩ | ⟨g, gc, cur, hv, _⟩
              · exact ⟨none, 0, by rw [hv, h0], fun hp => by omega⟩
              · exact ⟨_, gc, hv, fun _ => ⟨g, rfl⟩⟩
            subst hv
            go_wp2_with fail
            go_loopw [12] (fun i' wr' => ∃ j : Nat, j ≤ k ∧ i' = .int .i64 j ∧ ∃ q, wr' = wr.drewN q) (fun i' _ => k - (intOf i').toNat)
            case atStart => exact ⟨0, Nat.zero_le _, rfl, 0, rfl⟩
            case round =>
              obtain ⟨j, hj, rfl, q, rfl⟩ := hrel
              by_cases hlt' : j < k
              · obtain ⟨b, off, rfl, hb, hc⟩ := h.2 (by omega)
                obtain ⟨g, rfl⟩ := hg (by omega)
                have hcj : wr.cell? ⟨b, off + j, none⟩ = some (.string (ss.getD j ByteArray.empty)) := (hbel.cell (p := ⟨b, off + j, none⟩) hb).trans (hc j hlt')
                have hgj : wr.cell? ⟨g, j * 2, none⟩ = some (.string (ss.getD j ByteArray.empty)) := (hown.cellAt (j * 2) (by omega)).trans <| (congrArg (fun x => (kc ss)[x]?) (Nat.mul_comm j 2)).trans (kc_at ss j (by have := h.1; omega))
                clear hc
                generalize ss.getD j ByteArray.empty = s at hcj hgj
                go_wp2_with fail
                go_quiet (fail)
                go_wp2
                go_roundw
                case rel => exact ⟨j + 1, by omega, by go_num, _, rfl⟩
                case measure => simp [intOf]; omega
              · go_wp2
                go_ret
                exact ⟨rfl, below_drewN hbel _⟩
end Go.Proofs.Qxb6609217a
