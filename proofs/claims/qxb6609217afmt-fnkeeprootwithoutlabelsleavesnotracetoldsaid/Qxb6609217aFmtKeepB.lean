import Derived.Test.Qxb6609217aFmtKeepA
import Derived.Deep.QuietTactic
import Derived.BigQuiet
import Derived.BigRegion
import Derived.Deep.DeepCutAuto
namespace Go.Proofs.Qxb6609217aFmt
open Go.RowKit

/-- A root's parts, as a value. -/
def RIn.val (r : RIn) : Value := .agg #[.int .i64 r.kind, .int .u64 r.addr, .string r.text, .int .u64 r.n0, .int .u64 r.n1]

set_option maxHeartbeats 400000 in
theorem keep_false (o i : Bool) (v5 v7 v12 v13 v14 v26 : Value) (kind addr n0 n1 : Int) (text : ByteArray) (B : Nat) (w : World) (hB : Blk w B 47 (bcs o i false v5 v7 v12 v13 v14 v26)) :
    Calls Tryf.prog 28 #[.pointer (some ⟨B, 0, none⟩), .agg #[.int .i64 kind, .int .u64 addr, .string text, .int .u64 n0, .int .u64 n1]] w fun e w' => e = .returned (.tuple #[]) ∧ Keeps (fun _ => False) w w' := by
  have c2 := hB.cell 2
  simp [bcs] at c2
  have hlt := hB.lt
  go_enter Tryf.func28, Tryf.ntmps28
  go_wp2
  refine bodyPost_ret (results_none rfl _ _ _) rfl ?_
  exact ⟨rfl, (Keeps.refl _ w).alloc _⟩

/-- The Builder, its values named. -/
def KBat (w : World) (B : Nat) (o i : Bool) (v5 v7 v12 v13 v14 v26 : Value) (ts : List ByteArray) (rs : List KR) : Prop :=
  Blk w B 47 (bcs o i true v5 v7 v12 v13 v14 v26) ∧
    w.ownsRow (B + 1) 78 5 v13 rs.length (rs.flatMap KR.cells) ∧ w.ownsRow (B + 1) 9 1 v14 ts.length (ts.map Value.string) ∧
    (v13.ownBlock = none ∨ v13.ownBlock ≠ v14.ownBlock) ∧ IsTM w B v26 (ts.map by')

theorem mid_made {w W : World} {B : Nat} {o i : Bool} {v5 v7 v12 v13 v14 : Value} {ts : List ByteArray} {rs : List KR} {box : Array Value} {H : Nat} (h : KBat W B o i v5 v7 v12 v13 v14 (.map none) ts rs) (hbx : Blk W H 53 box) (hHB : B < H) (hbel : Below B w W) (m : Nat) (hm : W.heap.size = m) :
    KBat ((W.setCell ⟨B, 26, none⟩ (.map (some m))).alloc (.map #[] 0)) B o i v5 v7 v12 v13 v14 (.map (some m)) ts rs ∧
      Blk ((W.setCell ⟨B, 26, none⟩ (.map (some m))).alloc (.map #[] 0)) H 53 box ∧ Below B w ((W.setCell ⟨B, 26, none⟩ (.map (some m))).alloc (.map #[] 0)) := by
  obtain ⟨hB, h13, h14, hd, htm⟩ := h
  have hlt := hB.lt
  have hts : ts.map by' = [] := by
    rcases htm with ⟨_, h⟩ | ⟨m, _, _, h, _⟩
    · exact h
    · cases h
  refine ⟨⟨?_, (ownsRow_setCell_below h13 (by simp) _).alloc _, (ownsRow_setCell_below h14 (by simp) _).alloc _, hd, .inr ⟨m, 0, .map [], rfl, by omega, Nat.zero_le _, ?_, by rw [hts]; exact mapIs_empty⟩⟩, (hbx.setOther (by simp; omega) _).alloc _, (hbel.setCell (Nat.le_refl _) _).alloc (by simp; omega) _⟩
  · have := (hB.set 26 (.map (some m))).alloc (.map #[] 0)
    simpa [bcs] using this
  · have := World.ownsMap_made (H := Unit) (W.setCell ⟨B, 26, none⟩ (.map (some m))) Tryf.prog 9 (plainElem Tryf.prog 57)
    simpa [hm] using this

theorem map_ne_row {w : World} {P : Program} {k : TypeId} {R : Value → Option (DataW Unit × List MemPlace)} {m n : Nat} {D : DataW Unit} (hm : w.ownsMap P k R m n D) {base : Nat} {e : TypeId} {size : Nat} {v : Value} {c : Nat} {xs : List Value} (h : w.ownsRow base e size v c xs) : v.ownBlock ≠ some m := by
  intro hv
  rcases h.2 with ⟨rfl, _⟩ | ⟨g, cap, cur, rfl, _, hg, _⟩
  · simp [Value.ownBlock] at hv
  · simp [Value.ownBlock] at hv
    subst hv
    obtain ⟨es, cl, h1, _⟩ := hm
    rw [h1] at hg
    cases hg

/-- Behind the append to the texts and the store of the new slice. -/
theorem mid_text {w w2 w3 : World} {B H m n : Nat} {D : DataW Unit} {o i : Bool} {v5 v7 v12 v13 v14 : Value} {ts : List ByteArray} {rs : List KR} {box : Array Value} {text : ByteArray} {g cap : Nat} {ob : Obj}
    (hB : Blk w2 B 47 (bcs o i true v5 v7 v12 v13 v14 (.map (some m)))) (hbx : Blk w2 H 53 box) (hHB : B < H) (hnH : v14.ownBlock ≠ some H)
    (h13 : w2.ownsRow (B + 1) 78 5 v13 rs.length (rs.flatMap KR.cells)) (h14 : w2.ownsRow (B + 1) 9 1 v14 ts.length (ts.map Value.string)) (hd : v13.ownBlock = none ∨ v13.ownBlock ≠ v14.ownBlock)
    (hmap : w2.ownsMap (H := Unit) Tryf.prog 9 (plainElem Tryf.prog 57) m n D) (hBm : B < m) (hn : n ≤ ts.length + 1) (hMI : MapIs D (ts.map by' ++ [by' text])) (hbel : Below B w w2)
    (hown : w3.ownsRow (B + 1) 9 1 (.slice (some ⟨g, 0, none⟩) (ts.length + 1) cap) (ts.length + 1) (ts.map Value.string ++ [.string text]))
    (hgrow : (w2.alloc ob).drew.grownBy w3 v14.ownBlock) (hat : v14.ownBlock = some g ∨ g = w2.heap.size + 1) :
    KBat (w3.setCell ⟨B, 14, none⟩ (.slice (some ⟨g, 0, none⟩) (ts.length + 1) cap)) B o i v5 v7 v12 v13 (.slice (some ⟨g, 0, none⟩) (ts.length + 1) cap) (.map (some m)) (ts ++ [text]) rs ∧
      Blk (w3.setCell ⟨B, 14, none⟩ (.slice (some ⟨g, 0, none⟩) (ts.length + 1) cap)) H 53 box ∧ Below B w (w3.setCell ⟨B, 14, none⟩ (.slice (some ⟨g, 0, none⟩) (ts.length + 1) cap)) := by
  have hlt := hB.lt
  have hne : v14.ownBlock ≠ some B := fun h => by have := (h14.lt B h).1; omega
  refine ⟨⟨?_, ?_, ?_, ?_, .inr ⟨m, n, D, rfl, hBm, by simpa using hn, ?_, by simpa using hMI⟩⟩, ?_, ?_⟩
  · have := (((hB.alloc ob).drew).grown hgrow hne).set 14 (.slice (some ⟨g, 0, none⟩) (ts.length + 1) cap)
    simpa [bcs] using this
  · exact ownsRow_setCell_below ((h13.alloc ob).drew.kept hgrow hd) (by simp) _
  · have := ownsRow_setCell_below (a := ⟨B, 14, none⟩) hown (by simp) (.slice (some ⟨g, 0, none⟩) (ts.length + 1) cap)
    simpa using this
  · by_cases h0 : v13.ownBlock = none
    · exact .inl h0
    · right
      rcases hat with hat | hat
      · rw [hat] at hd; simpa [Value.ownBlock] using hd.resolve_left h0
      · intro e
        have := (h13.lt g (by simpa [Value.ownBlock] using e)).2
        omega
  · exact ((hmap.alloc ob).drew.kept hgrow (Ne.symm (map_ne_row hmap h14))).setCell (by simp; omega) _
  · exact (((hbx.alloc ob).drew).grown hgrow hnH).setOther (by simp; omega) _
  · exact (((hbel.alloc (by omega) ob).drew).grown hgrow (by simp; omega) (fun k hk => by have := (h14.lt k hk).1; omega)).setCell (Nat.le_refl _) _

/-- Behind the append to the roots and the store of the new slice. -/
theorem end_root {w w2 w3 : World} {B : Nat} {o i : Bool} {v5 v7 v13 v14 v26 : Value} {a12 : Option Addr} {nk c12 : Nat} {ts : List ByteArray} {rs : List KR} {r : KR} {g cap : Nat} {ob : Obj}
    (h5 : IsSl v5) (h : KBat w2 B o i v5 v7 (.slice a12 nk c12) v13 v14 v26 ts rs) (hbel : Below B w w2)
    (hown : w3.ownsRow (B + 1) 78 5 (.slice (some ⟨g, 0, none⟩) (rs.length + 1) cap) (rs.length + 1) (rs.flatMap KR.cells ++ r.cells))
    (hgrow : (w2.alloc ob).drew.grownBy w3 v13.ownBlock) (hat : v13.ownBlock = some g ∨ g = w2.heap.size + 1) :
    KB (w3.setCell ⟨B, 13, none⟩ (.slice (some ⟨g, 0, none⟩) (rs.length + 1) cap)) B o i true nk ts (rs ++ [r]) ∧
      Below B w (w3.setCell ⟨B, 13, none⟩ (.slice (some ⟨g, 0, none⟩) (rs.length + 1) cap)) := by
  obtain ⟨hB, h13, h14, hd, htm⟩ := h
  have hlt := hB.lt
  have hne : v13.ownBlock ≠ some B := fun h => by have := (h13.lt B h).1; omega
  refine ⟨⟨v5, v7, a12, c12, .slice (some ⟨g, 0, none⟩) (rs.length + 1) cap, v14, v26, h5, ?_, ?_, ?_, ?_, ?_⟩, ?_⟩
  · have := (((hB.alloc ob).drew).grown hgrow hne).set 13 (.slice (some ⟨g, 0, none⟩) (rs.length + 1) cap)
    simpa [bcs] using this
  · have := ownsRow_setCell_below (a := ⟨B, 13, none⟩) hown (by simp) (.slice (some ⟨g, 0, none⟩) (rs.length + 1) cap)
    simpa using this
  · refine ownsRow_setCell_below ((h14.alloc ob).drew.kept hgrow ?_) (by simp) _
    rcases hd with hd | hd
    · cases h0 : v14.ownBlock
      · exact .inl rfl
      · right; rw [hd]; simp
    · exact .inr (Ne.symm hd)
  · right
    intro e
    rcases hat with hat | hat
    · rcases hd with hd | hd
      · rw [hd] at hat; cases hat
      · exact hd (by rw [hat, ← e]; rfl)
    · have := (h14.lt g (by rw [← e]; rfl)).2
      omega
  · rcases htm with htm | ⟨m, n, D, h1, h2, h3, h4, h5'⟩
    · exact .inl htm
    · exact .inr ⟨m, n, D, h1, h2, h3, ((h4.alloc ob).drew.kept hgrow (Ne.symm (map_ne_row h4 h13))).setCell (by simp; omega) _, h5'⟩
  · exact (((hbel.alloc (by omega) ob).drew).grown hgrow (by simp; omega) (fun k hk => by have := (h13.lt k hk).1; omega)).setCell (Nat.le_refl _) _

set_option maxRecDepth 100000 in
set_option maxHeartbeats 3200000 in
theorem keep_true (o i : Bool) (nk : Nat) (ts : List ByteArray) (rs : List KR) (kind addr n0 n1 : Int) (text : ByteArray) (B : Nat) (w : World) (hK : KB w B o i true nk ts rs)
    (hk0 : 0 ≤ kind) (hk1 : kind < nk) (hnk : nk ≤ 1048576) (htx : text.size ≤ maxLen) (hts : ts.length ≤ 1048576) (hrs : rs.length ≤ 1048576) :
    Calls Tryf.prog 28 #[.pointer (some ⟨B, 0, none⟩), .agg #[.int .i64 kind, .int .u64 addr, .string text, .int .u64 n0, .int .u64 n1]] w fun e w' => e = .returned (.tuple #[]) ∧
      KB w' B o i true nk (addT ts text) (rs ++ [⟨addr, n0, n1, numT ts text, kind⟩]) ∧ Below B w w' := by
  obtain ⟨v5, v7, a12, c12', v13, v14, v26, h5, hB, ho13, ho14, hdis, htm⟩ := hK
  obtain ⟨c, Hlook, hc⟩ := look_any (htm.alloc (.cells #[.int .i64 kind, .int .u64 addr, .string text, .int .u64 n0, .int .u64 n1] 53)) text htx
  have hlook : ∀ nq, (Instr.lookup 45 v26 (.string text) true).run Tryf.prog ((w.alloc (.cells #[.int .i64 kind, .int .u64 addr, .string text, .int .u64 n0, .int .u64 n1] 53)).drewN nq) = .ok (.tuple #[.int .u32 c, .bool (hasT ts text)]) ((w.alloc (.cells #[.int .i64 kind, .int .u64 addr, .string text, .int .u64 n0, .int .u64 n1] 53)).drewN nq) := fun nq => Hlook _ rfl
  clear Hlook
  have Hc := hid hc
  clear hc
  have c2 := hB.cell 2
  have c12 := hB.cell 12
  have c13 := hB.cell 13
  have c14 := hB.cell 14
  have c26 := hB.cell 26
  simp [bcs] at c2 c12 c13 c14 c26
  have hlt := hB.lt
  have HW : Hid (IntKind.u32.wrap kind = kind) := by
    show IntKind.u32.wrap kind = kind
    rw [wrap_u32]; omega
  have hk0' : decide (kind < 0) = false := by simp; omega
  have hk1' : decide ((nk : Int) ≤ kind) = false := by simp; omega
  go_enter Tryf.func28, Tryf.ntmps28
  go_wp2_with fail
  go_quiet (fail)
  go_wp2_with fail
  go_quiet (fail)
  go_upto_if 51 with fail
  go_cut [5, 6] (fun t _ wx => t = .int .u32 (numT ts text) ∧ ∃ v14 v26, KBat wx B o i v5 v7 (.slice a12 nk c12') v13 v14 v26 (addT ts text) rs ∧
    Blk wx w.heap.size 53 #[.int .i64 kind, .int .u64 addr, .string text, .int .u64 n0, .int .u64 n1] ∧ Below B w wx)
  case first =>
    cases hh : hasT ts text
    · have hnot : by' text ∉ ts.map by' := by simpa [hasT] using hh
      have eadd : addT ts text = ts ++ [text] := by simp only [addT]; rw [if_neg hnot]
      have enum : numT ts text = ts.length := by unfold numT; rw [List.idxOf_eq_length hnot]; simp
      have Eadd := hid eadd
      have Enum := hid enum
      clear hlook Hc eadd enum
      have q45 : ∀ (w : World) (r : Option Nat), (binOp .eql 45 (.map r) (.map none)).run Tryf.prog w = .ok (.bool r.isNone) w := fun w r => run_eql_map_nil w 45 9 57 r Tryf.underlying45
      have hmm := @run_makeMap Tryf.prog
      have f26 := hB.frozen 26
      obtain ⟨r26, hr26⟩ : ∃ r, v26 = .map r := by rcases htm with ⟨rfl, _⟩ | ⟨m, _, _, rfl, _⟩ <;> exact ⟨_, rfl⟩
      subst hr26
      go_upto_if 56 with fail
      go_cut [] (fun wx => ∃ m, KBat wx B o i v5 v7 (.slice a12 nk c12') v13 v14 (.map (some m)) ts rs ∧
        Blk wx w.heap.size 53 #[.int .i64 kind, .int .u64 addr, .string text, .int .u64 n0, .int .u64 n1] ∧ Below B w wx)
      case first =>
        cases r26 with
        | none =>
          go_wp2
          go_meet
          case rel => exact ⟨w.heap.size + 1, mid_made (w := w) (W := World.drewN (w.alloc (.cells #[.int .i64 kind, .int .u64 addr, .string text, .int .u64 n0, .int .u64 n1] 53)) _) ⟨hB.alloc _, ho13.alloc _, ho14.alloc _, hdis, htm.alloc _⟩ (Blk.new w 53 _) hlt (below_drewN ((Below.refl _ _).alloc (Nat.le_of_lt hlt) _) _) _ (by simp)⟩
        | some m =>
          go_wp2
          go_meet
          case rel => exact ⟨m, ⟨hB.alloc _, ho13.alloc _, ho14.alloc _, hdis, htm.alloc _⟩, Blk.new w 53 _, below_drewN ((Below.refl _ _).alloc (Nat.le_of_lt hlt) _) _⟩
      case rest =>
        have hltw := hlt
        clear hlt c2 c12 c13 c14 c26 f26 hB ho13 ho14 hdis htm
        obtain ⟨m, ⟨hB, ho13, ho14, hdis, htm⟩, hbx, hbel⟩ := hcut
        obtain ⟨a14, c14', hv14⟩ : ∃ a c, v14 = .slice a ts.length c := by
          rcases ho14.2 with ⟨hv, h0⟩ | ⟨g, gc, cur, hv, _⟩
          · exact ⟨none, 0, by rw [hv, h0]⟩
          · exact ⟨_, gc, hv⟩
        subst hv14
        have c14 := hB.cell 14
        have c26 := hB.cell 26
        have d2 := hbx.cell 2
        simp [bcs] at c14 c26 d2
        obtain ⟨n, D, hBm, hnk, hmap, hMI⟩ : ∃ n D, B < m ∧ n ≤ ts.length ∧ wc.ownsMap (H := Unit) Tryf.prog 9 (plainElem Tryf.prog 57) m n D ∧ MapIs D (ts.map by') := by
          rcases htm with ⟨h, _⟩ | ⟨m', n, D, h, h1, h2, h3, h4⟩
          · cases h
          · injection h with h; injection h with h; subst h; exact ⟨n, D, h1, by simpa using h2, h3, h4⟩
        obtain ⟨w2, hrun, hmap2, hturn⟩ := hmap.drew.store law9 Tryf.underlying45 (by unfold maxLen; omega) (WideMaps.keyOf_string_mk (P := Tryf.prog) Tryf.underlying9 htx) (plainElem_int (H := Unit) (q := .u32) (a := (ts.length : Int)) Tryf.underlying57 (wf_u32 (by omega) (by omega)))
        go_wp2_with fail
        go_region
        have hg2 := hturn.grown
        have hmH : m ≠ w.heap.size := by
          rintro rfl
          obtain ⟨es, cl, h1, _⟩ := hmap
          unfold Blk at hbx
          rw [h1] at hbx
          cases hbx
        have hB2 : Blk w2 B 47 _ := hB.drew.grown hg2 (by simp; omega)
        have hbx2 : Blk w2 w.heap.size 53 _ := hbx.drew.grown hg2 (by simpa using hmH)
        have hbel2 : Below B w w2 := hbel.drew.grown hg2 (by have := hB.lt; simp; omega) (by intro k hk; cases hk; omega)
        have hrm : ∀ {e size v n xs}, wc.ownsRow (B + 1) e size v n xs → w2.ownsRow (B + 1) e size v n xs := by
          intro e size v n xs h
          refine h.drew.kept hg2 (.inr ?_)
          intro hv
          rcases h.2 with ⟨rfl, _⟩ | ⟨g, cap, cur, rfl, _, hg, _⟩
          · simp [Value.ownBlock] at hv
          · simp [Value.ownBlock] at hv
            subst hv
            obtain ⟨es, cl, h1, _⟩ := hmap
            rw [h1] at hg
            cases hg
        have ho13' := hrm ho13
        have ho14' := hrm ho14
        have hMI2 := hMI.put hmap.isMap (s := by' text) hnot
        rw [List.length_map] at hMI2
        clear hrm hrun hmap hturn hg2 hB hbx hbel ho13 ho14 c14 c26 d2 htm hMI
        obtain ⟨i0, hi0, hz0, hz1, hz2⟩ := info_parts Tryf.info9
        have hlt2 := hB2.lt
        have c14 := hB2.cell 14
        have d2 := hbx2.cell 2
        simp [bcs] at c14 d2
        have hne : (Value.slice a14 ts.length c14').ownBlock ≠ some B := fun h => by have := (ho14'.lt B h).1; omega
        have hnH : (Value.slice a14 ts.length c14').ownBlock ≠ some w.heap.size := by
          intro hv
          rcases ho14'.2 with ⟨hv', _⟩ | ⟨g, cap, cur, hv', _, hg, _⟩
          · rw [hv'] at hv; simp [Value.ownBlock] at hv
          · rw [hv'] at hv
            simp [Value.ownBlock] at hv
            subst hv
            unfold Blk at hbx2
            rw [hbx2] at hg
            simp at hg
        go_wp2_with fail
        go_region_law
          ((refine step_append_lies _ (by rfl) _ _ _ (by rfl) (B + 1) 9 i0 _ 1 16 Tryf.underlying22 hi0 hz0 hz1 hz2 rfl (by omega) _ ts.length (ts.map Value.string) (by rfl) ((ho14'.alloc _).drew)
              ⟨w2.heap.size, 0, none⟩ 1 1 [.string text] (by rfl) (by rfl) (World.news_of_block (cs := #[.string text]) (t := 9) (fr := (0, 0)) (heap_alloc_new w2 _)) (by simp [Value.oneCell'])
              (by omega) (by unfold maxLen; omega) (by omega) (by simp; omega) (w2.heap.size + 1) (by simp) ?_; intro g cap w3 hown3 hgrow hat hlt3; have c14w := (hgrow.cell_far ⟨B, 14, none⟩ (by simp; omega) (Ne.symm hne)).trans ((hB2.alloc _).drew.cell 14); have f14w : w3.frozen? ⟨B, 14, none⟩ = false := (hgrow.frozen_far ⟨B, 14, none⟩ (by simp; omega) (Ne.symm hne)).trans ((hB2.alloc _).drew.frozen 14); simp [bcs] at c14w))
        all_goals
          go_wp2
          go_meet
          case rel => exact ⟨by rw [Enum.out], _, _, by rw [Eadd.out]; exact mid_text hB2 hbx2 hltw hnH ho13' ho14' hdis hmap2 hBm (by omega) hMI2 hbel2 hown3 hgrow hat⟩
    · have hin : by' text ∈ ts.map by' := by simpa [hasT] using hh
      have eadd : addT ts text = ts := by simp only [addT]; rw [if_pos hin]
      have enum : c = (numT ts text : Nat) := Hc.out hin
      clear hlook Hc
      go_wp2
      go_meet
      case rel => exact ⟨by rw [enum], v14, v26, by rw [eadd]; exact ⟨hB.alloc _, ho13.alloc _, ho14.alloc _, hdis, htm.alloc _⟩, Blk.new w 53 _, below_drewN ((Below.refl _ _).alloc (Nat.le_of_lt hlt) _) _⟩
  case rest =>
    have hltw := hlt
    clear hlook Hc hlt c2 c12 c13 c14 c26 hB ho13 ho14 hdis htm hk0' hk1'
    obtain ⟨rfl, v14', v26', hbat, hbx, hbel⟩ := hcut
    obtain ⟨i0, hi0, hz0, hz1, hz2⟩ := info_parts Tryf.info78
    have hB := hbat.1
    have ho13 := hbat.2.1
    have hlt := hB.lt
    have c13 := hB.cell 13
    have d0 := hbx.cell 0
    have d1 := hbx.cell 1
    have d2 := hbx.cell 2
    have d3 := hbx.cell 3
    have d4 := hbx.cell 4
    simp [bcs] at c13 d0 d1 d2 d3 d4
    have hne : v13.ownBlock ≠ some B := fun h => by have := (ho13.lt B h).1; omega
    have Hbat := hid hbat
    clear hbat
    go_wp2_with fail
    go_region_law
      ((refine step_append_lies _ (by rfl) _ _ _ (by rfl) (B + 1) 78 i0 _ 5 32 Tryf.underlying35 hi0 hz0 hz1 hz2 rfl (by omega) v13 rs.length (rs.flatMap KR.cells) (by rfl) ((ho13.alloc _).drew)
          ⟨wc.heap.size, 0, none⟩ 1 1 [.int .u64 addr, .int .u64 n0, .int .u64 n1, .int .u32 (numT ts text), .int .u32 (IntKind.u32.wrap kind)] (by rfl) (by rfl) (World.news_of_block (cs := #[.int .u64 addr, .int .u64 n0, .int .u64 n1, .int .u32 (numT ts text), .int .u32 (IntKind.u32.wrap kind)]) (t := 78) (fr := (0, 0)) (heap_alloc_new wc _)) (by simp [Value.oneCell'])
          (by omega) (by unfold maxLen; omega) (by omega) (by simp; omega) (wc.heap.size + 1) (by simp) ?_; intro g cap w3 hown3 hgrow hat hlt3; have c13w := (hgrow.cell_far ⟨B, 13, none⟩ (by simp; omega) (Ne.symm hne)).trans ((hB.alloc _).drew.cell 13); have f13w : w3.frozen? ⟨B, 13, none⟩ = false := (hgrow.frozen_far ⟨B, 13, none⟩ (by simp; omega) (Ne.symm hne)).trans ((hB.alloc _).drew.frozen 13); simp [bcs] at c13w))
    all_goals
      go_wp2
      go_end0
      have hfin := end_root (w := w) (r := ⟨addr, n0, n1, numT ts text, IntKind.u32.wrap kind⟩) h5 Hbat.out hbel hown3 hgrow hat
      rw [HW.out] at hfin
      exact ⟨rfl, hfin.1, hfin.2⟩
end Go.Proofs.Qxb6609217aFmt
