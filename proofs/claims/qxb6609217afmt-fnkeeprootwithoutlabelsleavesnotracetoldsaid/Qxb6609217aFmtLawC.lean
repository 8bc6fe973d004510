import Derived.Test.Qxb6609217aFmtLawB0
import Derived.Deep.QuietTactic
import Derived.BigQuiet
namespace Go.Proofs.Qxb6609217aFmt
open Go.RowKit

/-- The Builder's cells, and what the rows of its roots and texts hold. -/
theorem KB.parts {w : World} {B : Nat} {o i l : Bool} {nk : Nat} {ts : List ByteArray} {rs : List KR} (h : KB w B o i l nk ts rs) :
    ∃ v5 v7 v12 a13 c13 a14 c14 v26, Blk w B 47 (bcs o i l v5 v7 v12 (.slice a13 rs.length c13) (.slice a14 ts.length c14) v26) ∧
      (∀ k r, rs[k]? = some r → ∃ g, a13 = some ⟨g, 0, none⟩ ∧ w.cell? ⟨g, k * 5, none⟩ = some (.int .u64 r.addr) ∧ w.cell? ⟨g, k * 5 + 1, none⟩ = some (.int .u64 r.n0) ∧ w.cell? ⟨g, k * 5 + 2, none⟩ = some (.int .u64 r.n1) ∧
        w.cell? ⟨g, k * 5 + 3, none⟩ = some (.int .u32 r.text) ∧ w.cell? ⟨g, k * 5 + 4, none⟩ = some (.int .u32 r.kind)) ∧
      (∀ k s, ts[k]? = some s → ∃ g, a14 = some ⟨g, 0, none⟩ ∧ w.cell? ⟨g, k, none⟩ = some (.string s)) := by
  obtain ⟨v5, v7, a12, c12, v13, v14, v26, h5, hB, h13, h14, hd, htm⟩ := h
  obtain ⟨a13, c13, hv13, hc13⟩ : ∃ a c, v13 = .slice a rs.length c ∧ ∀ j, j < rs.length * 5 → ∃ g, a = some ⟨g, 0, none⟩ ∧ w.cell? ⟨g, j, none⟩ = (rs.flatMap KR.cells)[j]? := by
    rcases h13.2 with ⟨hv, h0⟩ | ⟨g, gc, cur, hv, _⟩
    · exact ⟨none, 0, by rw [hv, h0], fun j hj => by omega⟩
    · subst hv
      exact ⟨_, gc, rfl, fun j hj => ⟨g, rfl, h13.cellAt j hj⟩⟩
  obtain ⟨a14, c14, hv14, hc14⟩ : ∃ a c, v14 = .slice a ts.length c ∧ ∀ j, j < ts.length → ∃ g, a = some ⟨g, 0, none⟩ ∧ w.cell? ⟨g, j, none⟩ = (ts.map Value.string)[j]? := by
    rcases h14.2 with ⟨hv, h0⟩ | ⟨g, gc, cur, hv, _⟩
    · exact ⟨none, 0, by rw [hv, h0], fun j hj => by omega⟩
    · subst hv
      exact ⟨_, gc, rfl, fun j hj => ⟨g, rfl, h14.cellAt j (by omega)⟩⟩
  subst hv13 hv14
  refine ⟨v5, v7, _, a13, c13, a14, c14, v26, hB, fun k r hr => ?_, fun k s hs => ?_⟩
  · have hk := (List.getElem?_eq_some_iff.1 hr).1
    obtain ⟨g, hg, e0⟩ := hc13 (k * 5) (by omega)
    have hc : ∀ j, j < 5 → w.cell? ⟨g, k * 5 + j, none⟩ = r.cells[j]? := fun j hj => by
      obtain ⟨g', hg', e⟩ := hc13 (k * 5 + j) (by omega)
      rw [hg] at hg'
      simp at hg'
      subst hg'
      rw [e]
      exact KR.cell_at _ k j r hr hj
    exact ⟨g, hg, hc 0 (by omega), hc 1 (by omega), hc 2 (by omega), hc 3 (by omega), hc 4 (by omega)⟩
  · have hk := (List.getElem?_eq_some_iff.1 hs).1
    obtain ⟨g, hg, e0⟩ := hc14 k hk
    exact ⟨g, hg, by rw [e0, List.getElem?_map, hs]; rfl⟩

theorem mem_addT_self (ts : List ByteArray) (s : ByteArray) : by' s ∈ (addT ts s).map by' := (mem_addT ts s s).2 (.inr rfl)
theorem get_addT (ts : List ByteArray) (s : ByteArray) : (addT ts s)[numT ts s]? = some s := by
  have := get_numT (mem_addT_self ts s)
  rwa [numT_addT] at this

set_option maxRecDepth 100000 in
set_option maxHeartbeats 6400000 in
theorem law3_walk (ao : Option Addr) (len cap : Nat) (ss : List ByteArray) (ro : Option Addr) (rlen rcap : Nat) (rs : List RIn) (w : World) (hlen : len ≤ maxLen) (h : StrArg w ao len ss) (hrlen : rlen ≤ maxLen) (hr : RootArg w ro rlen rs) :
    Calls Tryf.prog 4 #[.slice ao len cap, .slice ro rlen rcap] w fun e w' => e = .returned (.bool true) ∧ Below w.heap.size w w' := by
  have HZ := zz16_any ao len cap ss ro rlen rcap rs w hlen h hrlen hr
  have HS := sb_any ao len cap ss w hlen h
  have HR := rb_any ro rlen rcap rs w hrlen hr
  unfold maxLen at hlen hrlen
  by_cases h1 : 65536 < len
  · go_enter Tryf.func4, Tryf.ntmps4
    go_wp2_with fail
    refine HZ.mono ?_
    rintro e w' ⟨⟨b, rfl⟩, rfl⟩
    cases b
    · go_wp2
      go_ret
      exact ⟨rfl, Below.refl _ _⟩
    · go_wp2
      go_ret
      exact ⟨rfl, Below.refl _ _⟩
  by_cases h2 : 16384 < rlen
  · go_enter Tryf.func4, Tryf.ntmps4
    go_wp2_with fail
    refine HZ.mono ?_
    rintro e w' ⟨⟨b, rfl⟩, rfl⟩
    cases b
    · go_wp2
      go_ret
      exact ⟨rfl, Below.refl _ _⟩
    · go_wp2
      go_ret
      exact ⟨rfl, Below.refl _ _⟩
  go_enter Tryf.func4, Tryf.ntmps4
  go_wp2_with fail
  refine HZ.mono ?_
  rintro e w' ⟨⟨b, rfl⟩, rfl⟩
  clear HZ
  cases b
  · go_wp2
    go_ret
    exact ⟨rfl, Below.refl _ _⟩
  go_wp2_with fail
  refine HS.mono ?_
  rintro e w1 ⟨⟨n, rfl⟩, rfl⟩
  go_wp2_with fail
  refine HR.mono ?_
  rintro e w1 ⟨⟨n', rfl⟩, rfl⟩
  clear HS HR
  go_wp2_with fail
  · go_ret
    exact ⟨rfl, Below.refl _ _⟩
  go_loopw [6] (fun i' wr => ∃ k : Nat, k ≤ len ∧ i' = .int .i64 k ∧ Adding w wr w.heap.size false ss k) (fun i' _ => len - (intOf i').toNat)
  case atStart => exact ⟨0, Nat.zero_le _, rfl, .slice none 0 0, .slice none 0 0, .slice none 0 0, .inl rfl, Blk.new w 47 _, World.ownsRow_nil _ _ _ _, (Below.refl _ _).alloc (Nat.le_refl _) _⟩
  case round =>
    obtain ⟨k, hk, rfl, v5, v7, v12, h5, hB, hown, hbel⟩ := hrel
    by_cases hlt : k < len
    · obtain ⟨b, off, rfl, hb, hc⟩ := h.2 (by omega)
      have hck : wr.cell? ⟨b, off + k, none⟩ = some (.string (ss.getD k ByteArray.empty)) := (hbel.cell (p := ⟨b, off + k, none⟩) hb).trans (hc k hlt)
      clear hc
      obtain ⟨s, hs⟩ : ∃ s, s = ss.getD k ByteArray.empty := ⟨_, rfl⟩
      rw [← hs] at hck
      have Hs := hid hs
      clear hs
      go_wp2_with fail
      refine (add_any false false false v5 v7 v12 _ _ _ s k (kc (ss.take k)) _ _ h5 hB hown (by omega)).mono ?_
      rintro e w2 ⟨rfl, v5', v7', g, cap', h5', hB', hown', hK⟩
      go_wp2
      go_roundw
      case rel => exact ⟨k + 1, by omega, by go_num, Adding.step hB hown hbel (by have := h.1; omega) h5' hB' (by rw [← Hs.out]; exact hown') hK⟩
      case measure => simp [intOf]; omega
    · obtain rfl : k = len := by omega
      obtain ⟨a12, c12, hv⟩ : ∃ a c, v12 = .slice a k c := by
        rcases hown.2 with ⟨hv, h0⟩ | ⟨g, gc, cur, hv, _⟩
        · exact ⟨none, 0, by rw [hv, h0]⟩
        · exact ⟨_, gc, hv⟩
      subst hv
      go_wp2_with fail
      go_loopw [7] (fun i' wr' => ∃ j : Nat, j ≤ rlen ∧ i' = .int .i64 j ∧ Blk wr' w.heap.size 47 (bcs false false false v5 v7 (.slice a12 k c12) (.slice none 0 0) (.slice none 0 0) (.map none)) ∧ Below w.heap.size w wr') (fun i' _ => rlen - (intOf i').toNat)
      case atStart => exact ⟨0, Nat.zero_le _, rfl, hB, hbel⟩
      case round =>
        clear hB hbel hown
        obtain ⟨j, hj, rfl, hB, hbel⟩ := hrel
        by_cases hlt' : j < rlen
        · obtain ⟨b, off, rfl, hb, hc⟩ := hr.2.2 (by omega)
          obtain ⟨d0, d1, d2, d3, d4⟩ := (hc j hlt').later hbel hb
          clear hc
          generalize rs.getD j RIn.zero = r at d0 d1 d2 d3 d4
          go_wp2_with fail
          refine (parts_any _ _ _ _ _ _).mono ?_
          rintro e w2 ⟨rfl, hk2⟩
          go_wp2_with fail
          refine (zzkeep_false false false v5 v7 _ _ _ _ _ _ _ _ _ _ _ (hk2.blk hB id)).mono ?_
          rintro e w3 ⟨rfl, hk3⟩
          have hB3 := hk3.blk (hk2.blk hB id) id
          have hbel3 : Below w.heap.size w w3 := hbel.trans ((hk2.trans hk3).below hbel.size (fun _ => False.elim))
          go_wp2
          go_roundw
          case rel => exact ⟨j + 1, by omega, by go_num, hB3, hbel3⟩
          case measure => simp [intOf]; omega
        · go_wp2_with fail
          refine (count_any false false false v5 v7 _ _ _ none 0 0 _ _ hB).mono ?_
          rintro e w3 ⟨rfl, rfl⟩
          go_wp2_with fail
          refine (texts_any false false false v5 v7 _ _ _ _ _ _ hB).mono ?_
          rintro e w3 ⟨rfl, rfl⟩
          have c2 := hB.cell 2
          simp [bcs] at c2
          have f2 := hB.frozen 2
          have hKB0 : KB (wr.setCell ⟨w.heap.size, 2, none⟩ (.bool true)) w.heap.size false false true k [] [] := by
            have := hB.set 2 (.bool true)
            exact ⟨v5, v7, a12, c12, .slice none 0 0, .slice none 0 0, .map none, h5, by simpa [bcs] using this, World.ownsRow_nil _ _ _ _, World.ownsRow_nil _ _ _ _, .inl rfl, .inl ⟨rfl, rfl⟩⟩
          have hbel0 : Below w.heap.size w (wr.setCell ⟨w.heap.size, 2, none⟩ (.bool true)) := hbel.setCell (Nat.le_refl _) _
          clear hB hbel
          go_wp2_with fail
          go_loopw [8, 9] (fun kp i' wr' => ∃ (q m : Nat) (ts : List ByteArray) (rs2 : List KR), q ≤ rlen ∧ i' = .int .i64 q ∧ kp = .int .i64 m ∧ m ≤ q ∧ rs2.length = m ∧ ts.length ≤ m ∧ KB wr' w.heap.size false false true k ts rs2 ∧ Below w.heap.size w wr') (fun _ i' _ => rlen - (intOf i').toNat)
          case atStart => exact ⟨0, 0, [], [], Nat.zero_le _, rfl, rfl, Nat.le_refl _, rfl, Nat.le_refl _, hKB0, hbel0⟩
          case round =>
            clear hKB0 hbel0 c2 f2
            obtain ⟨q, m, ts, rs2, hq, rfl, rfl, hmq, hm2, htm, hKB, hbel⟩ := hrel
            by_cases hltq : q < rlen
            · obtain ⟨b, off, rfl, hb, hc⟩ := hr.2.2 (by omega)
              have hc6 := hc q hltq
              have hok := hr.getOk hltq
              clear hc
              generalize rs.getD q RIn.zero = r at hc6 hok
              obtain ⟨d0, d1, d2, d3, d4⟩ := hc6.later hbel hb
              by_cases hneg : r.kind < 0
              · go_wp2
                go_roundw
                case rel => exact ⟨q + 1, m, ts, rs2, by omega, by go_num, rfl, by omega, hm2, htm, hKB, hbel⟩
                case measure => simp [intOf]; omega
              by_cases hbig : (k : Int) ≤ r.kind
              · go_wp2
                go_roundw
                case rel => exact ⟨q + 1, m, ts, rs2, by omega, by go_num, rfl, by omega, hm2, htm, hKB, hbel⟩
                case measure => simp [intOf]; omega
              go_wp2_with fail
              refine (parts_any _ _ _ _ _ _).mono ?_
              rintro e w2 ⟨rfl, hkp⟩
              go_wp2_with fail
              refine (zzkeep_true false false k _ _ _ _ _ _ _ _ _ (hKB.keeps hkp) (by omega) (by omega) (by omega) hok.2.2.1 (by omega) (by omega)).mono ?_
              rintro e w3 ⟨rfl, hKB3, hbel3'⟩
              have hbel3 : Below w.heap.size w w3 := (hbel.trans (hkp.below hbel.size (fun _ => False.elim))).trans hbel3'
              clear hbel3' hkp hKB hbel d0 d1 d2 d3 d4
              have Hm2 := hid hm2
              have HKB3 := hid hKB3
              obtain ⟨w5, w7, w12, a13, c13, a14, c14, v26, hB3, hcr, hct⟩ := hKB3.parts
              obtain ⟨g13, rfl, e0, e1, e2, e3, e4⟩ := hcr m ⟨r.addr, r.n0, r.n1, numT ts r.text, r.kind⟩ (by rw [← hm2]; simp)
              obtain ⟨g14, rfl, et⟩ := hct _ _ (get_addT ts r.text)
              have hlt3 := numT_lt ts r.text
              have hle3 := length_addT_le ts r.text
              have hnum0 : m = 0 → numT ts r.text = 0 := fun h0 => by have := numT_le ts r.text; omega
              simp only [List.length_append, List.length_cons, List.length_nil, Nat.zero_add, hm2] at hB3
              clear hcr hct hKB3 hm2
              generalize hgt : (addT ts r.text).length = tl at hB3 hlt3 hle3
              have Htl := hid hgt
              clear hgt
              go_wp2_with fail
              refine (count_any _ _ _ _ _ _ _ _ _ _ _ _ _ hB3).mono ?_
              rintro e w4 ⟨rfl, rfl⟩
              go_wp2_with fail
              refine (rootAt_any _ _ _ _ _ _ _ _ _ _ _ _ ⟨r.addr, r.n0, r.n1, numT ts r.text, r.kind⟩ _ _ hB3 (by omega) e0 e1 e2 e3 e4).mono ?_
              rintro e w4 ⟨rfl, hk4⟩
              have hB4 := hk4.blk hB3 id
              have et4 := hk4.cell et id
              have hbel4 : Below w.heap.size w w4 := hbel3.trans (hk4.below hbel3.size (fun _ => False.elim))
              have hlt4 : g14 < w4.heap.size := World.block_lt_of_cell? w4 _ et4
              obtain ⟨d0, d1, d2, d3, d4⟩ := hc6.later hbel4 hb
              have hb4 : b < w4.heap.size := World.block_lt_of_cell? w4 _ d0
              have hwr := wrap_u32_small (x := r.kind) (by omega) (by omega)
              have hwn := wrap_u32_small (x := (tl : Int)) (by omega) (by omega)
              have hneq := neq28
              have HKB4 : Hid (KB w4 w.heap.size false false true k (addT ts r.text) (rs2 ++ [⟨r.addr, r.n0, r.n1, numT ts r.text, r.kind⟩])) := HKB3.out.keeps hk4
              clear e0 e1 e2 e3 e4 et HKB3 hB3 hbel3 hk4 hc6
              have Hlen : Hid ((rs2 ++ [(⟨r.addr, r.n0, r.n1, numT ts r.text, r.kind⟩ : KR)]).length = m + 1) := by show _ = _; simp [Hm2.out]
              generalize rs2 ++ [(⟨r.addr, r.n0, r.n1, numT ts r.text, r.kind⟩ : KR)] = rs3 at HKB4 Hlen
              generalize numT ts r.text = nt at et4 hlt3 hnum0
              have hge : decide ((tl : Int) ≤ (nt : Int)) = false := by simp; omega
              go_wp2_with fail
              refine (texts_any _ _ _ _ _ _ _ _ _ _ _ (hB4.alloc _)).mono ?_
              rintro e w5 ⟨rfl, rfl⟩
              go_wp2_with fail
              go_quiet (fail)
              go_wp2_with fail
              go_quiet (fail)
              by_cases hm0 : m = 0
              · have hb0 : ((m : Int) == 0) = true := by simp [hm0]
                have hn0 : ((nt : Int) != 0) = false := by simp [hnum0 hm0]
                clear hm0 hnum0
                go_wp2
                go_roundw
                case rel => exact ⟨q + 1, m + 1, _, rs3, by omega, by go_num, by go_num, by omega, Hlen.out, by rw [Htl.out]; omega, (HKB4.out.alloc _).drewN _, below_drewN (hbel4.alloc hbel4.size _) _⟩
                case measure => simp [intOf]; omega
              · have hb0 : ((m : Int) == 0) = false := by simp; omega
                clear hm0 hnum0
                go_wp2
                go_roundw
                case rel => exact ⟨q + 1, m + 1, _, rs3, by omega, by go_num, by go_num, by omega, Hlen.out, by rw [Htl.out]; omega, (HKB4.out.alloc _).drewN _, below_drewN (hbel4.alloc hbel4.size _) _⟩
                case measure => simp [intOf]; omega
            · obtain ⟨w5, w7, w12, a13, c13, a14, c14, v26, hB3, _, _⟩ := hKB.parts
              rw [hm2] at hB3
              go_wp2_with fail
              refine (count_any _ _ _ _ _ _ _ _ _ _ _ _ _ hB3).mono ?_
              rintro e w4 ⟨rfl, rfl⟩
              go_wp2_with fail
              refine (texts_any _ _ _ _ _ _ _ _ _ _ _ hB3).mono ?_
              rintro e w4 ⟨rfl, rfl⟩
              go_wp2
              go_ret
              exact ⟨rfl, hbel⟩
end Go.Proofs.Qxb6609217aFmt
