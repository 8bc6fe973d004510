import Derived.WalkKit
import Derived.Deep.AppendLies
namespace Go.Proofs.Qxb6609217aFmt
open Go.RowKit

theorem hid {p : Prop} (h : p) : Hid p := h

/-- Block B holds the cells cs, none of them frozen. -/
def Blk (w : World) (B : Nat) (t : TypeId) (cs : Array Value) : Prop := w.heap[B]? = some (.cells cs t (0, 0))

section
variable {w : World} {B : Nat} {t : TypeId} {cs : Array Value}

theorem Blk.cell (h : Blk w B t cs) (o : Nat) : w.cell? ⟨B, o, none⟩ = cs[o]? := by
  unfold Blk at h; simp [World.cell?, h]
theorem Blk.frozen (h : Blk w B t cs) (o : Nat) : w.frozen? ⟨B, o, none⟩ = false := by
  unfold Blk at h; simp [World.frozen?, h]
theorem Blk.lt (h : Blk w B t cs) : B < w.heap.size := by
  unfold Blk at h; exact (Array.getElem?_eq_some_iff.1 h).1
theorem Blk.drew (h : Blk w B t cs) : Blk w.drew B t cs := h
theorem Blk.alloc (h : Blk w B t cs) (o : Obj) : Blk (w.alloc o) B t cs := by
  have := h.lt
  unfold Blk at h ⊢; rw [Below.heap_alloc _ _ _ this]; exact h
theorem Blk.new (w : World) (t : TypeId) (cs : Array Value) : Blk (w.alloc (.cells cs t)) w.heap.size t cs := heap_alloc_new w _
theorem Blk.set (h : Blk w B t cs) (o : Nat) (v : Value) : Blk (w.setCell ⟨B, o, none⟩ v) B t (cs.setIfInBounds o v) := by
  unfold Blk at h ⊢; simp [World.setCell, Array.getElem?_modify, h]
theorem Blk.setOther (h : Blk w B t cs) {a : Addr} (ha : B ≠ a.block) (v : Value) : Blk (w.setCell a v) B t cs := by
  unfold Blk at h ⊢; rw [Below.heap_setCell _ _ _ _ ha]; exact h
end

theorem Blk.grown {w w' : World} {B : Nat} {t : TypeId} {cs : Array Value} {row : Option Nat} (h : Blk w B t cs) (hg : w.grownBy w' row) (hne : row ≠ some B) : Blk w' B t cs := by
  have := h.lt
  unfold Blk at h ⊢; rw [hg.block B this (Ne.symm hne)]; exact h

/-- Of the blocks that were there only those in S may have turned. -/
structure Keeps (S : Nat → Prop) (w w' : World) : Prop where
  os : w'.os = w.os
  tape : w'.tape = w.tape
  output : w'.output = w.output
  size : w.heap.size ≤ w'.heap.size
  block : ∀ k, k < w.heap.size → ¬ S k → w'.heap[k]? = w.heap[k]?

section
variable {S : Nat → Prop} {w w1 w2 : World}
theorem Keeps.refl (S : Nat → Prop) (w : World) : Keeps S w w := ⟨rfl, rfl, rfl, Nat.le_refl _, fun _ _ _ => rfl⟩
theorem Keeps.trans (h : Keeps S w w1) (k : Keeps S w1 w2) : Keeps S w w2 :=
  ⟨k.os.trans h.os, k.tape.trans h.tape, k.output.trans h.output, Nat.le_trans h.size k.size,
    fun i hi hs => (k.block i (Nat.lt_of_lt_of_le hi h.size) hs).trans (h.block i hi hs)⟩
theorem Keeps.weak {S' : Nat → Prop} (h : Keeps S w w1) (hs : ∀ k, k < w.heap.size → S k → S' k) : Keeps S' w w1 :=
  ⟨h.os, h.tape, h.output, h.size, fun k hk hn => h.block k hk (fun h' => hn (hs k hk h'))⟩
theorem Keeps.drew (h : Keeps S w w1) : Keeps S w w1.drew := ⟨h.os, h.tape, h.output, h.size, h.block⟩
theorem Keeps.alloc (h : Keeps S w w1) (o : Obj) : Keeps S w (w1.alloc o) :=
  ⟨h.os, h.tape, h.output, by have := h.size; simp; omega, fun k hk hn => by rw [Below.heap_alloc _ _ _ (Nat.lt_of_lt_of_le hk h.size)]; exact h.block k hk hn⟩
theorem Keeps.setCell (h : Keeps S w w1) {a : Addr} (ha : w.heap.size ≤ a.block ∨ S a.block) (v : Value) : Keeps S w (w1.setCell a v) :=
  ⟨h.os, h.tape, h.output, by have := h.size; simp; omega, fun k hk hn => by
    rw [Below.heap_setCell _ _ _ _ (by intro e; rcases ha with ha | ha; · omega
                                       · exact hn (e ▸ ha))]
    exact h.block k hk hn⟩
theorem Keeps.grown {row : Option Nat} (h : Keeps S w w1) (hg : w1.grownBy w2 row) (hr : ∀ k, row = some k → w.heap.size ≤ k ∨ S k) : Keeps S w w2 :=
  ⟨hg.os.trans h.os, hg.tape.trans h.tape, hg.output.trans h.output, Nat.le_trans h.size hg.size, fun k hk hn => by
    rw [hg.block k (Nat.lt_of_lt_of_le hk h.size) (by intro e; rcases hr k e.symm with h' | h'; · omega
                                                      · exact hn h')]
    exact h.block k hk hn⟩
theorem Keeps.below {B : Nat} (h : Keeps S w w1) (hB : B ≤ w.heap.size) (hs : ∀ k, S k → B ≤ k) : Below B w w1 :=
  ⟨h.os, h.tape, h.output, h.size, fun k hk => h.block k (by omega) (fun h' => by have := hs k h'; omega)⟩
theorem Keeps.blk {B : Nat} {t : TypeId} {cs : Array Value} (h : Keeps S w w1) (hb : Blk w B t cs) (hn : ¬ S B) : Blk w1 B t cs := by
  have := hb.lt
  unfold Blk at hb ⊢; rw [h.block B this hn]; exact hb
theorem Keeps.owns {base : Nat} {e : TypeId} {size : Nat} {v : Value} {n : Nat} {xs : List Value} (h : Keeps S w w1) (ho : w.ownsRow base e size v n xs) (hn : ∀ k, v.ownBlock = some k → ¬ S k) : w1.ownsRow base e size v n xs := by
  refine ⟨ho.1, ?_⟩
  rcases ho.2 with hv | ⟨g, cap, cur, rfl, hb, hg, rest⟩
  · exact .inl hv
  · refine .inr ⟨g, cap, cur, rfl, hb, ?_, rest⟩
    rw [h.block g (Array.getElem?_eq_some_iff.1 hg).1 (hn g rfl)]; exact hg
theorem Keeps.cell {a : Addr} {v : Value} (h : Keeps S w w1) (hc : w.cell? a = some v) (hn : ¬ S a.block) : w1.cell? a = some v :=
  (World.cell?_of_block (h.block a.block (World.block_lt_of_cell? w a hc) hn)).trans hc
end
end Go.Proofs.Qxb6609217aFmt
