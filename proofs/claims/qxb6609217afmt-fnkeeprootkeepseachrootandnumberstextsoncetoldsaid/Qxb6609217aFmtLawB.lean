import Derived.Test.Qxb6609217aFmtLawB0
import Derived.Deep.QuietTactic
import Derived.BigQuiet
namespace Go.Proofs.Qxb6609217aFmt
open Go.RowKit

set_option maxRecDepth 100000 in
set_option maxHeartbeats 6400000 in
theorem law2_true (ao : Option Addr) (len cap : Nat) (ss : List ByteArray) (ro : Option Addr) (rlen rcap : Nat) (rs : List RIn) (w : World) (hlen : len ≤ maxLen) (h : StrArg w ao len ss) (hrlen : rlen ≤ maxLen) (hr : RootArg w ro rlen rs) :
    Calls Tryf.prog 3 #[.bool true, .slice ao len cap, .slice ro rlen rcap] w fun e w' => e = .returned (.bool true) ∧ Below w.heap.size w w' := by
  have HZ := zz7_any true ao len cap ss ro rlen rcap rs w hlen h hrlen hr
  have HS := sb_any ao len cap ss w hlen h
  have HR := rb_any ro rlen rcap rs w hrlen hr
  unfold maxLen at hlen hrlen
  by_cases h1 : 65536 < len
  · go_enter Tryf.func3, Tryf.ntmps3
    go_wp2_with fail
    refine HZ.mono ?_
    rintro e w' ⟨⟨b, rfl⟩, rfl⟩
    cases b
    · go_wp2
      go_ret
      exact ⟨rfl, Below.refl _ _⟩
    · go_wp2
      go_ret
      exact ⟨rfl, Below.refl _ _⟩
  by_cases h2 : 4096 < rlen
  · go_enter Tryf.func3, Tryf.ntmps3
    go_wp2_with fail
    refine HZ.mono ?_
    rintro e w' ⟨⟨b, rfl⟩, rfl⟩
    cases b
    · go_wp2
      go_ret
      exact ⟨rfl, Below.refl _ _⟩
    · go_wp2
      go_ret
      exact ⟨rfl, Below.refl _ _⟩
  go_enter Tryf.func3, Tryf.ntmps3
  go_wp2_with fail
  refine HZ.mono ?_
  rintro e w' ⟨⟨b, rfl⟩, rfl⟩
  clear HZ
  cases b
  · go_wp2
    go_ret
    exact ⟨rfl, Below.refl _ _⟩
  go_wp2_with fail
  refine HS.mono ?_
  rintro e w1 ⟨⟨n, rfl⟩, rfl⟩
  go_wp2_with fail
  refine HR.mono ?_
  rintro e w1 ⟨⟨n', rfl⟩, rfl⟩
  clear HS HR
  go_wp2_with fail
  · go_ret
    exact ⟨rfl, Below.refl _ _⟩
  go_loop [7] (fun i' => ∃ k : Nat, k ≤ rlen ∧ i' = .int .i64 k ∧ Hid (∀ j, j < k → 0 ≤ (rs.getD j RIn.zero).kind ∧ (rs.getD j RIn.zero).kind < len)) (fun i' => rlen - (intOf i').toNat)
  case atStart => exact ⟨0, Nat.zero_le _, rfl, fun j hj => by omega⟩
  case round =>
    obtain ⟨k, hk, rfl, hin⟩ := hrel
    by_cases hlt : k < rlen
    · obtain ⟨b, off, rfl, hb, hc⟩ := hr.2.2 (by omega)
      have d0 := (hc k hlt).1
      clear hc
      obtain ⟨kd, hkd⟩ : ∃ x, x = (rs.getD k RIn.zero).kind := ⟨_, rfl⟩
      rw [← hkd] at d0
      have Hkd := hid hkd
      clear hkd
      by_cases hneg : kd < 0
      · go_wp2
        go_ret
        exact ⟨rfl, Below.refl _ _⟩
      by_cases hbig : (len : Int) ≤ kd
      · go_wp2
        go_ret
        exact ⟨rfl, Below.refl _ _⟩
      · go_wp2
        go_round
        case rel => exact ⟨k + 1, by omega, by go_num, fun j hj => by
          by_cases e : j = k
          · rw [e, ← Hkd.out]; omega
          · exact hin.out j (by omega)⟩
        case measure => simp [intOf]; omega
    · have Hin : Hid (∀ j, j < rlen → 0 ≤ (rs.getD j RIn.zero).kind ∧ (rs.getD j RIn.zero).kind < len) := fun j hj => hin.out j (by omega)
      clear hin
      go_wp2_with fail
      go_loopw [9] (fun i' wr => ∃ k : Nat, k ≤ len ∧ i' = .int .i64 k ∧ Adding w wr w.heap.size true ss k) (fun i' _ => len - (intOf i').toNat)
      case atStart => exact ⟨0, Nat.zero_le _, rfl, .slice none 0 0, .slice none 0 0, .slice none 0 0, .inl rfl, Blk.new w 47 _, World.ownsRow_nil _ _ _ _, (Below.refl _ _).alloc (Nat.le_refl _) _⟩
      case round =>
        obtain ⟨k2, hk2, rfl, v5, v7, v12, h5, hB, hown, hbel⟩ := hrel
        by_cases hlt2 : k2 < len
        · obtain ⟨b, off, rfl, hb, hc⟩ := h.2 (by omega)
          have hck : wr.cell? ⟨b, off + k2, none⟩ = some (.string (ss.getD k2 ByteArray.empty)) := (hbel.cell (p := ⟨b, off + k2, none⟩) hb).trans (hc k2 hlt2)
          clear hc
          obtain ⟨s, hs⟩ : ∃ s, s = ss.getD k2 ByteArray.empty := ⟨_, rfl⟩
          rw [← hs] at hck
          have Hs := hid hs
          clear hs
          go_wp2_with fail
          refine (add_any false false true v5 v7 v12 _ _ _ s k2 (kc (ss.take k2)) _ _ h5 hB hown (by omega)).mono ?_
          rintro e w2 ⟨rfl, v5', v7', g, cap', h5', hB', hown', hK⟩
          go_wp2
          go_roundw
          case rel => exact ⟨k2 + 1, by omega, by go_num, Adding.step hB hown hbel (by have := h.1; omega) h5' hB' (by rw [← Hs.out]; exact hown') hK⟩
          case measure => simp [intOf]; omega
        · have hKB0 : KB wr w.heap.size false false true len (tsOf (rs.take 0)) (krTo rs 0) := by
            obtain rfl : k2 = len := by omega
            obtain ⟨a12, c12, hv⟩ : ∃ a c, v12 = .slice a k2 c := by
              rcases hown.2 with ⟨hv, h0⟩ | ⟨g, gc, cur, hv, _⟩
              · exact ⟨none, 0, by rw [hv, h0]⟩
              · exact ⟨_, gc, hv⟩
            rw [hv] at hB
            exact ⟨v5, v7, a12, c12, _, _, _, h5, hB, World.ownsRow_nil _ _ _ _, World.ownsRow_nil _ _ _ _, .inl rfl, .inl ⟨rfl, rfl⟩⟩
          clear hB hown h5
          go_wp2_with fail
          go_loopw [10] (fun i' wr' => ∃ j : Nat, j ≤ rlen ∧ i' = .int .i64 j ∧ KB wr' w.heap.size false false true len (tsOf (rs.take j)) (krTo rs j) ∧ Below w.heap.size w wr') (fun i' _ => rlen - (intOf i').toNat)
          case atStart => exact ⟨0, Nat.zero_le _, rfl, hKB0, hbel⟩
          case round =>
            clear hbel hKB0
            obtain ⟨j, hj, rfl, hKB, hbel⟩ := hrel
            by_cases hlt3 : j < rlen
            · obtain ⟨b, off, rfl, hb, hc⟩ := hr.2.2 (by omega)
              obtain ⟨d0, d1, d2, d3, d4⟩ := (hc j hlt3).later hbel hb
              clear hc
              have hin := Hin.out j hlt3
              have hok := hr.getOk hlt3
              have hl1 : (tsOf (rs.take j)).length ≤ j := Nat.le_trans (tsOf_le _) (List.length_take_le _ _)
              obtain ⟨r, hrr⟩ : ∃ r, r = rs.getD j RIn.zero := ⟨_, rfl⟩
              rw [← hrr] at d0 d1 d2 d3 d4 hin hok
              have Hr := hid hrr
              clear hrr
              go_wp2_with fail
              refine (parts_any _ _ _ _ _ _).mono ?_
              rintro e w2 ⟨rfl, hkp⟩
              go_wp2_with fail
              refine (zzkeep_true false false len _ _ _ _ _ _ _ _ _ (hKB.keeps hkp) hin.1 hin.2 (by omega) hok.2.2.1 (by omega) (by rw [krTo_length]; omega)).mono ?_
              rintro e w3 ⟨rfl, hKB3, hbel3⟩
              have hbel3' : Below w.heap.size w w3 := (hbel.trans (hkp.below hbel.size (fun _ => False.elim))).trans hbel3
              go_wp2
              go_roundw
              case rel =>
                refine ⟨j + 1, by omega, by go_num, ?_, hbel3'⟩
                rw [tsOf_take rs j (by have := hr.1; omega), krTo_succ]
                have e1 : krAt rs j = ⟨r.addr, r.n0, r.n1, numT (tsOf (rs.take j)) r.text, r.kind⟩ := by rw [Hr.out]; rfl
                rw [e1, ← Hr.out]
                exact hKB3
              case measure => simp [intOf]; omega
            · obtain rfl : j = rlen := by omega
              have htk : rs.take j = rs := List.take_of_length_le (by have := hr.1; omega)
              rw [htk] at hKB
              clear htk
              have hsl := hr.1
              obtain ⟨v5, v7, a12, c12, v13, v14, v26, h5, hB, ho13, ho14, hdis, htm⟩ := hKB
              rw [krTo_length] at ho13
              obtain ⟨a13, c13, hv13, hg13⟩ : ∃ a c, v13 = .slice a j c ∧ (0 < j → ∃ g, a = some ⟨g, 0, none⟩) := by
                rcases ho13.2 with ⟨hv, h0⟩ | ⟨g, gc, cur, hv, _⟩
                · exact ⟨none, 0, by rw [hv, h0], fun hp => by omega⟩
                · exact ⟨_, gc, hv, fun _ => ⟨g, rfl⟩⟩
              subst hv13
              obtain ⟨a14, c14, hv14, hg14⟩ : ∃ a c, v14 = .slice a (tsOf rs).length c ∧ (0 < (tsOf rs).length → ∃ g, a = some ⟨g, 0, none⟩) := by
                rcases ho14.2 with ⟨hv, h0⟩ | ⟨g, gc, cur, hv, _⟩
                · exact ⟨none, 0, by rw [hv, h0], fun hp => by omega⟩
                · exact ⟨_, gc, hv, fun _ => ⟨g, rfl⟩⟩
              subst hv14
              have htl := tsOf_le rs
              obtain ⟨dn, hdn⟩ : ∃ x, x = (tsOf rs).length := ⟨_, rfl⟩
              rw [← hdn] at hB ho14 hg14 htl
              have Hdn := hid hdn
              clear hdn hdis htm h5
              have hmk := make_want rs j (by omega)
              go_wp2_with fail
              refine (texts_any _ _ _ _ _ _ _ _ _ _ _ hB).mono ?_
              rintro e w3 ⟨rfl, rfl⟩
              go_wp2_with fail
              clear hmk
              obtain ⟨W1, hW1⟩ : ∃ x, x = wr := ⟨_, rfl⟩
              subst hW1
              go_loopw [13, 14] (fun d i' wx => ∃ k : Nat, k ≤ j ∧ i' = .int .i64 k ∧ d = .int .i64 (tsOf (rs.take k)).length ∧ Blk wx W1.heap.size 3 (wcs rs j k) ∧ Below W1.heap.size W1 wx) (fun _ i' _ => j - (intOf i').toNat)
              case atStart => exact ⟨0, Nat.zero_le _, rfl, rfl, Blk.new W1 3 _, (Below.refl _ _).alloc (Nat.le_refl _) _⟩
              case round =>
                obtain ⟨wx, hwx⟩ : ∃ x, x = wr := ⟨_, rfl⟩
                subst hwx
                obtain ⟨k4, hk4, rfl, rfl, hW, hbx⟩ := hrel
                by_cases hlt4 : k4 < j
                · obtain ⟨b, off, rfl, hb, hc⟩ := hr.2.2 (by omega)
                  have hbel4 : Below w.heap.size w wx := hbel.trans (hbx.mono hbel.size)
                  have HC : Hid (∀ i, i < j → wx.cell? ⟨b, off + i * 5 + 2, none⟩ = some (.string (rs.getD i RIn.zero).text)) := fun i hi => ((hc i hi).later hbel4 hb).2.2.1
                  clear hc
                  have hdk := tsOf_le (rs.take k4)
                  rw [List.length_take] at hdk
                  go_wp2_with fail
                  go_loopw [15] (fun q wy => ∃ j' : Nat, j' ≤ k4 ∧ q = .int .i64 j' ∧ Hid (∀ q, q < j' → (rs.getD q RIn.zero).text ≠ (rs.getD k4 RIn.zero).text) ∧ ∃ nq, wy = wx.drewN nq) (fun q _ => k4 - (intOf q).toNat)
                  case atStart => exact ⟨0, Nat.zero_le _, rfl, fun q hq => by omega, 0, rfl⟩
                  case round =>
                    obtain ⟨j', hj', rfl, Hno, nq, rfl⟩ := hrel
                    have ck := HC.out k4 hlt4
                    by_cases hlt5 : j' < k4
                    · have cj := HC.out j' (by omega)
                      have gI : ((j' : Int) < (k4 : Int)) := by omega
                      have gE : ((j' : Int) == (k4 : Int)) = false := by simp; omega
                      by_cases he : (rs.getD j' RIn.zero).text = (rs.getD k4 RIn.zero).text
                      · rw [he] at cj
                        have cw := hW.cell j'
                        rw [wcs_get rs hlt5 (by omega)] at cw
                        have cw4 := hW.cell k4
                        rw [wcs_at rs hlt4] at cw4
                        have fw4 := hW.frozen k4
                        have He := hid he
                        clear he
                        generalize (rs.getD k4 RIn.zero).text = tk at ck cj
                        go_wp2_with fail
                        go_quiet (fail)
                        go_wp2
                        go_roundw
                        case rel =>
                          refine ⟨k4 + 1, by omega, by go_num, ?_, ?_, ?_⟩
                          · rw [want_old rs hlt5 (by omega) He.out]
                          · have := hW.set k4 (.int .i64 (wantAt rs j'))
                            rw [← want_same rs hlt5 (by omega) He.out, wcs_set rs hlt4, want_same rs hlt5 (by omega) He.out] at this
                            exact this
                          · exact below_drewN (hbx.setCell (p := ⟨W1.heap.size, k4, none⟩) (Nat.le_refl _) _) _
                        case measure => simp [intOf]; omega
                      · have hne := str_ne he
                        have He := hid he
                        clear he
                        obtain ⟨tk, htk⟩ : ∃ x, x = (rs.getD k4 RIn.zero).text := ⟨_, rfl⟩
                        obtain ⟨tj, htj⟩ : ∃ x, x = (rs.getD j' RIn.zero).text := ⟨_, rfl⟩
                        rw [← htk] at ck hne
                        rw [← htj] at cj hne
                        clear htk htj
                        go_wp2_with fail
                        go_quiet (fail)
                        go_wp2
                        go_roundw
                        case rel => exact ⟨j' + 1, by omega, by go_num, fun q hq => by
                          by_cases e : q = j'
                          · rw [e]; exact He.out
                          · exact Hno.out q (by omega), _, rfl⟩
                        case measure => simp [intOf]; omega
                    · obtain rfl : j' = k4 := by omega
                      have cw4 := hW.cell j'
                      rw [wcs_at rs hlt4] at cw4
                      have fw4 := hW.frozen j'
                      have gI : decide ((j' : Int) < (j' : Int)) = false := by simp
                      generalize (rs.getD j' RIn.zero).text = tk at ck
                      go_wp2_with fail
                      go_quiet (fail)
                      go_wp2
                      go_roundw
                      case rel =>
                        have hnew := want_new rs (i := j') (by omega) Hno.out
                        refine ⟨j' + 1, by omega, by go_num, ?_, ?_, ?_⟩
                        · rw [hnew.2]; simp
                        · have := hW.set j' (.int .i64 (wantAt rs j'))
                          rw [wcs_set rs hlt4, hnew.1] at this
                          exact this
                        · exact below_drewN (hbx.setCell (p := ⟨W1.heap.size, j', none⟩) (Nat.le_refl _) _) _
                      case measure => simp [intOf]; omega
                · obtain rfl : k4 = j := by omega
                  have htk : rs.take k4 = rs := List.take_of_length_le (by omega)
                  have hB4 := hB.below hbx hB.lt
                  have hlen4 : (tsOf (rs.take k4)).length = dn := by rw [htk, Hdn.out]
                  rw [hlen4]
                  clear hlen4 htk
                  go_wp2_with fail
                  refine (count_any _ _ _ _ _ _ _ _ _ _ _ _ _ hB4).mono ?_
                  rintro e w3 ⟨rfl, rfl⟩
                  go_wp2_with fail
                  go_loopw [16] (fun i' wy => ∃ k6 : Nat, k6 ≤ k4 ∧ i' = .int .i64 k6 ∧ Keeps (fun _ => False) wx wy) (fun i' _ => k4 - (intOf i').toNat)
                  case atStart => exact ⟨0, Nat.zero_le _, rfl, Keeps.refl _ _⟩
                  case round =>
                    obtain ⟨k6, hk6, rfl, hkp⟩ := hrel
                    by_cases hlt6 : k6 < k4
                    · obtain ⟨b, off, rfl, hb, hc⟩ := hr.2.2 (by omega)
                      obtain ⟨g13, rfl⟩ := hg13 (by omega)
                      have hdn0 : 0 < dn := by have := want_lt rs (i := k6) (by omega); rw [Hdn.out]; omega
                      obtain ⟨g14, rfl⟩ := hg14 hdn0
                      have hby : ∀ {wz : World}, Keeps (fun _ => False) wx wz → Below W1.heap.size W1 wz := fun hz => hbx.trans (hz.below hbx.size (fun _ => False.elim))
                      obtain ⟨e0, e1, e2, e3, e4⟩ := read_root ho13 hlt6 (hby hkp)
                      have hin := Hin.out k6 hlt6
                      have hwl : wantAt rs k6 < dn := by have := want_lt rs (i := k6) (by omega); rw [Hdn.out]; exact this
                      go_wp2_with fail
                      refine (rootAt_any _ _ _ _ _ _ _ _ _ _ _ _ (krAt rs k6) _ _ (hkp.blk hB4 id) hlt6 e0 e1 e2 e3 e4).mono ?_
                      rintro e w2 ⟨rfl, hk2'⟩
                      have hkp2 := hkp.trans hk2'
                      obtain ⟨d0, d1, d2, d3, d4⟩ := (hc k6 hlt6).later (hbel.trans ((hby hkp2).mono hbel.size)) hb
                      have cT := read_text ho14 Hdn.out (k := k6) (by omega) (hby hkp2)
                      have cW := (hkp2.blk hW id).cell k6
                      rw [wcs_get rs hlt6 (by omega)] at cW
                      clear e0 e1 e2 e3 e4 hc hkp hk2'
                      have hb2 : b < w2.heap.size := World.block_lt_of_cell? w2 _ d0
                      have hg2 : g14 < w2.heap.size := World.block_lt_of_cell? w2 _ cT
                      have hw2 : W1.heap.size < w2.heap.size := World.block_lt_of_cell? w2 _ cW
                      have f1 : (krAt rs k6).addr = (rs.getD k6 RIn.zero).addr := rfl
                      have f2 : (krAt rs k6).n0 = (rs.getD k6 RIn.zero).n0 := rfl
                      have f3 : (krAt rs k6).n1 = (rs.getD k6 RIn.zero).n1 := rfl
                      have f4 : (krAt rs k6).text = wantAt rs k6 := rfl
                      have f5 : (krAt rs k6).kind = (rs.getD k6 RIn.zero).kind := rfl
                      rw [f1, f2, f3, f4, f5]
                      clear f1 f2 f3 f4 f5
                      generalize rs.getD k6 RIn.zero = r at d0 d1 d2 d3 d4 hin cT
                      generalize wantAt rs k6 = wn at cT cW hwl
                      have hwr := wrap_u32_small (x := r.kind) hin.1 (by omega)
                      have hwn := wrap_u32_small (x := (wn : Int)) (by omega) (by omega)
                      have hneq := neq28
                      go_wp2_with fail
                      go_quiet (fail)
                      go_wp2_with fail
                      go_quiet (fail)
                      go_wp2
                      go_roundw
                      case rel => exact ⟨k6 + 1, by omega, by go_num, (hkp2.alloc _).drewN _⟩
                      case measure => simp [intOf]; omega
                    · go_wp2
                      go_ret
                      exact ⟨rfl, hbel.trans ((hbx.trans (hkp.below hbx.size (fun _ => False.elim))).mono hbel.size)⟩
end Go.Proofs.Qxb6609217aFmt
