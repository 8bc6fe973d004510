import Derived.Test.Qxb6609217aWalkA
import Derived.Test.Qxb6609217aKit
import Derived.Lib.SliceRun
import Derived.Deep.RegionLaw
import Derived.Deep.DrawnRows
import Derived.Laws.EntriesVeiled
namespace Go.Proofs.Qxb6609217a
open Go.RowKit

/-- The cells of a Builder: its three flags, refStart, rootStart, rootKinds, roots, texts, the map of texts. -/
def bcs (o i l : Bool) (v5 v7 v12 v13 v14 v26 : Value) : Array Value :=
  #[.bool o, .bool i, .bool l, .slice none 0 0, .slice none 0 0, v5, .slice none 0 0, v7, .slice none 0 0, .slice none 0 0, .slice none 0 0, .bool false, v12, v13, v14,
    .int .u64 0, .slice none 0 0, .slice none 0 0, .pointer none, .bool false, .pointer none, .nilIface, .slice none 0 0, .nilIface, .slice none 0 0, .string ByteArray.empty, v26]

set_option maxHeartbeats 400000 in
theorem graph_first (o i l : Bool) (v7 v12 v13 v14 v26 : Value) (B : Nat) (w : World) (hB : Blk w B 42 (bcs o i l (.slice none 0 0) v7 v12 v13 v14 v26)) :
    Calls Try.prog 8 #[.pointer (some ⟨B, 0, none⟩)] w fun e w' => e = .returned (.pointer (some ⟨B, 3, none⟩)) ∧
      ∃ a5 v7', Blk w' B 42 (bcs o i l (.slice (some a5) 1 1) v7' v12 v13 v14 v26) ∧ Keeps (· = B) w w' := by
  have q27 : ∀ (w : World) (a : Option Addr) (n c n' c' : Nat), (binOp .eql 27 (.slice a n c) (.slice none n' c')).run Try.prog w = .ok (.bool a.isNone) w := fun w a n c n' c' => Lib.run_eql_slice_nil w 27 3 a n c n' c' Try.underlying27
  have c5 := hB.cell 5
  have c7 := hB.cell 7
  simp [bcs] at c5 c7
  have f5 := hB.frozen 5
  have f7 := hB.frozen 7
  have hlt := hB.lt
  go_enter Try.func8, Try.ntmps8
  go_wp2
  go_ret
  refine ⟨rfl, ⟨w.heap.size, 0, none⟩, .slice (some ⟨w.heap.size + 1, 0, none⟩) 1 1, ?_, ?_⟩
  · have := ((((hB.set 5 (.slice (some ⟨w.heap.size, 0, none⟩) 1 1)).set 7 (.slice (some ⟨w.heap.size + 1, 0, none⟩) 1 1)).alloc (.cells #[.int .i64 0] 3)).alloc (.cells #[.int .i64 0] 3))
    simpa [bcs] using this
  · exact ((((Keeps.refl (fun x => x = B) w).setCell (a := ⟨B, 5, none⟩) (Or.inr rfl) _).setCell (a := ⟨B, 7, none⟩) (Or.inr rfl) _).alloc _).alloc _

set_option maxHeartbeats 400000 in
theorem graph_later (o i l : Bool) (a5 : Addr) (n5 c5 : Nat) (v7 v12 v13 v14 v26 : Value) (B : Nat) (w : World) (hB : Blk w B 42 (bcs o i l (.slice (some a5) n5 c5) v7 v12 v13 v14 v26)) :
    Calls Try.prog 8 #[.pointer (some ⟨B, 0, none⟩)] w fun e w' => e = .returned (.pointer (some ⟨B, 3, none⟩)) ∧ w' = w := by
  have q27 : ∀ (w : World) (a : Option Addr) (n c n' c' : Nat), (binOp .eql 27 (.slice a n c) (.slice none n' c')).run Try.prog w = .ok (.bool a.isNone) w := fun w a n c n' c' => Lib.run_eql_slice_nil w 27 3 a n c n' c' Try.underlying27
  have c5 := hB.cell 5
  simp [bcs] at c5
  go_enter Try.func8, Try.ntmps8
  go_wp2
  go_ret
  exact ⟨rfl, rfl⟩

/-- nil, or not. -/
def IsSl (v : Value) : Prop := v = .slice none 0 0 ∨ ∃ a n c, v = .slice (some a) n c

theorem graph_any (o i l : Bool) (v5 v7 v12 v13 v14 v26 : Value) (B : Nat) (w : World) (h5 : IsSl v5) (hB : Blk w B 42 (bcs o i l v5 v7 v12 v13 v14 v26)) :
    Calls Try.prog 8 #[.pointer (some ⟨B, 0, none⟩)] w fun e w' => e = .returned (.pointer (some ⟨B, 3, none⟩)) ∧
      ∃ v5' v7', IsSl v5' ∧ Blk w' B 42 (bcs o i l v5' v7' v12 v13 v14 v26) ∧ Keeps (· = B) w w' := by
  rcases h5 with rfl | ⟨a5, n5, c5, rfl⟩
  · refine (graph_first o i l v7 v12 v13 v14 v26 B w hB).mono ?_
    rintro e w' ⟨rfl, a5, v7', h1, h2⟩
    exact ⟨rfl, _, v7', .inr ⟨a5, 1, 1, rfl⟩, h1, h2⟩
  · refine (graph_later o i l a5 n5 c5 v7 v12 v13 v14 v26 B w hB).mono ?_
    rintro e w' ⟨rfl, rfl⟩
    exact ⟨rfl, _, v7, .inr ⟨a5, n5, c5, rfl⟩, hB, Keeps.refl _ _⟩

theorem Try.info46 : (Try.prog.info? 46).map (fun i => (i.zero, i.size, i.bytes)) = some (some (.agg #[.string ByteArray.empty, .nilFunc]), 2, 24) := by kernel_rfl

set_option maxRecDepth 100000 in
set_option maxHeartbeats 3200000 in
theorem add_any (o i l : Bool) (v5 v7 v12 v13 v14 v26 : Value) (s : ByteArray) (n : Nat) (xs : List Value) (B : Nat) (w : World) (h5 : IsSl v5) (hB : Blk w B 42 (bcs o i l v5 v7 v12 v13 v14 v26))
    (hown : w.ownsRow (B + 1) 46 2 v12 n xs) (hn : n ≤ 1048576) :
    Calls Try.prog 6 #[.pointer (some ⟨B, 0, none⟩), .agg #[.string s, .nilFunc]] w fun e w' => e = .returned (.int .i64 n) ∧
      ∃ v5' v7' g cap, IsSl v5' ∧ Blk w' B 42 (bcs o i l v5' v7' (.slice (some ⟨g, 0, none⟩) (n + 1) cap) v13 v14 v26) ∧
        w'.ownsRow (B + 1) 46 2 (.slice (some ⟨g, 0, none⟩) (n + 1) cap) (n + 1) (xs ++ [.string s, .nilFunc]) ∧ Keeps (fun k => k = B ∨ v12.ownBlock = some k) w w' := by
  obtain ⟨i0, hi0, hz0, hz1, hz2⟩ := info_parts Try.info46
  have hlt := hB.lt
  go_enter Try.func6, Try.ntmps6
  go_wp2_with fail
  refine (graph_any o i l v5 v7 v12 v13 v14 v26 B _ h5 (hB.alloc _)).mono ?_
  rintro e w1 ⟨rfl, v5', v7', h5', hB1, hK1⟩
  go_wp2_with fail
  have c12 := hB1.cell 12
  simp [bcs] at c12
  have f12 := hB1.frozen 12
  have hlt1 := hB1.lt
  have hs1 := hK1.size
  simp only [World.size_alloc] at hs1
  have hbx : Blk w1 w.heap.size 46 #[.string s, .nilFunc] := hK1.blk (Blk.new w 46 _) (by omega)
  have d0 := hbx.cell 0
  have d1 := hbx.cell 1
  simp at d0 d1
  have hown1 : w1.ownsRow (B + 1) 46 2 v12 n xs := hK1.owns (hown.alloc _) (fun k hk => by have := (hown.lt k hk).1; omega)
  have hne : v12.ownBlock ≠ some B := fun h => by have := (hown1.lt B h).1; omega
  have hneH : v12.ownBlock ≠ some w.heap.size := fun h => by have := (hown.lt _ h).2; omega
  go_region_law
    ((refine step_append_lies _ (by rfl) _ _ _ (by rfl) (B + 1) 46 i0 _ 2 24 Try.underlying28 hi0 hz0 hz1 hz2 rfl (by omega) v12 n xs (by rfl) ((hown1.alloc _).drew)
        ⟨w1.heap.size, 0, none⟩ 1 1 [.string s, .nilFunc] (by rfl) (by rfl) (World.news_of_block (cs := #[.string s, .nilFunc]) (t := 46) (fr := (0, 0)) (heap_alloc_new w1 _)) (by simp [Value.oneCell'])
        (by omega) (by unfold maxLen; omega) (by omega) (by simp; omega) (w1.heap.size + 1) (by simp) ?_; intro g cap w2 hown2 hgrow hat hlt2; have c12w : w2.cell? ⟨B, 12, none⟩ = some v12 := (hgrow.cell_far ⟨B, 12, none⟩ (by simp; omega) (Ne.symm hne)).trans ((hB1.alloc _).drew.cell 12); have f12w : w2.frozen? ⟨B, 12, none⟩ = false := (hgrow.frozen_far ⟨B, 12, none⟩ (by simp; omega) (Ne.symm hne)).trans ((hB1.alloc _).drew.frozen 12); have d0w : w2.cell? ⟨w.heap.size, 0, none⟩ = some (.string s) := (hgrow.cell_far ⟨w.heap.size, 0, none⟩ (by simp; omega) (Ne.symm hneH)).trans ((hbx.alloc _).drew.cell 0); have d1w : w2.cell? ⟨w.heap.size, 1, none⟩ = some .nilFunc := (hgrow.cell_far ⟨w.heap.size, 1, none⟩ (by simp; omega) (Ne.symm hneH)).trans ((hbx.alloc _).drew.cell 1)))
  all_goals
    go_wp2
    go_ret
    refine ⟨by simp, v5', v7', g, cap, h5', ?_, ?_, ?_⟩
    · have := (((hB1.alloc (.cells #[.string s, .nilFunc] 46)).drew).grown hgrow hne).set 12 (.slice (some ⟨g, 0, none⟩) (n + 1) cap)
      simpa [bcs] using this
    · exact ownsRow_setCell_below hown2 (by simp) _
    · have k1 : Keeps (fun k => k = B ∨ v12.ownBlock = some k) w w1 := ((Keeps.refl _ w).alloc _).trans (hK1.weak (fun k _ hk => .inl hk))
      exact ((k1.alloc _).drew.grown hgrow (fun k hk => .inr (.inr hk))).setCell (.inr (.inl rfl)) _

end Go.Proofs.Qxb6609217a
