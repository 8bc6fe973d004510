import Derived.Test.Qxb6609217aFmtKeepA
import Derived.BigRegion
namespace Go.Proofs.Qxb6609217aFmt
open Go.RowKit

/-- The roots' parts out of what came in. -/
theorem parts_any (kind addr n0 n1 : Int) (text : ByteArray) (w : World) :
    Calls Tryf.prog 12 #[.agg #[.int .i64 kind, .int .u64 addr, .string text, .int .u64 n0, .int .u64 n1]] w fun e w' =>
      e = .returned (.agg #[.int .i64 kind, .int .u64 addr, .string text, .int .u64 n0, .int .u64 n1]) ∧ Keeps (fun _ => False) w w' := by
  go_enter Tryf.func12, Tryf.ntmps12
  go_wp2
  exact bodyPost_ret (v := .agg #[.int .i64 kind, .int .u64 addr, .string text, .int .u64 n0, .int .u64 n1]) (by simp [results, Tryf.results12, go_sem]) rfl ⟨rfl, ((Keeps.refl _ w).alloc _).alloc _⟩

theorem texts_any (o i l : Bool) (v5 v7 v12 v13 v14 v26 : Value) (B : Nat) (w : World) (hB : Blk w B 47 (bcs o i l v5 v7 v12 v13 v14 v26)) :
    Calls Tryf.prog 13 #[.pointer (some ⟨B, 0, none⟩)] w fun e w' => e = .returned v14 ∧ w = w' := by
  have c14 := hB.cell 14
  simp [bcs] at c14
  go_enter Tryf.func13, Tryf.ntmps13
  go_wp2
  go_ret
  exact ⟨rfl, rfl⟩

theorem count_any (o i l : Bool) (v5 v7 v12 v14 v26 : Value) (a13 : Option Addr) (n c13 : Nat) (B : Nat) (w : World) (hB : Blk w B 47 (bcs o i l v5 v7 v12 (.slice a13 n c13) v14 v26)) :
    Calls Tryf.prog 14 #[.pointer (some ⟨B, 0, none⟩)] w fun e w' => e = .returned (.int .i64 n) ∧ w = w' := by
  have c13 := hB.cell 13
  simp [bcs] at c13
  go_enter Tryf.func14, Tryf.ntmps14
  go_wp2
  go_ret
  exact ⟨rfl, rfl⟩

set_option maxRecDepth 100000 in
set_option maxHeartbeats 1600000 in
theorem rootAt_any (o i l : Bool) (v5 v7 v12 v14 v26 : Value) (g n c : Nat) (k : Nat) (r : KR) (B : Nat) (w : World) (hB : Blk w B 47 (bcs o i l v5 v7 v12 (.slice (some ⟨g, 0, none⟩) n c) v14 v26)) (hk : k < n)
    (h0 : w.cell? ⟨g, k * 5, none⟩ = some (.int .u64 r.addr)) (h1 : w.cell? ⟨g, k * 5 + 1, none⟩ = some (.int .u64 r.n0)) (h2 : w.cell? ⟨g, k * 5 + 2, none⟩ = some (.int .u64 r.n1))
    (h3 : w.cell? ⟨g, k * 5 + 3, none⟩ = some (.int .u32 r.text)) (h4 : w.cell? ⟨g, k * 5 + 4, none⟩ = some (.int .u32 r.kind)) :
    Calls Tryf.prog 15 #[.pointer (some ⟨B, 0, none⟩), .int .i64 k] w fun e w' => e = .returned (.tuple #[.int .u64 r.addr, .agg #[.int .u64 r.n0, .int .u64 r.n1], .int .u32 r.text, .int .u32 r.kind]) ∧ Keeps (fun _ => False) w w' := by
  have c13 := hB.cell 13
  simp [bcs] at c13
  have hlt := hB.lt
  have hg := World.block_lt_of_cell? w _ h0
  simp only at hg
  go_enter Tryf.func15, Tryf.ntmps15
  go_wp2_with fail
  go_region
  all_goals
    go_wp2
    exact bodyPost_ret (v := .tuple #[.int .u64 r.addr, .agg #[.int .u64 r.n0, .int .u64 r.n1], .int .u32 r.text, .int .u32 r.kind]) (by simp [results, Tryf.results15, go_sem]) rfl ⟨rfl, (((Keeps.refl _ w).alloc _).alloc _).drew⟩
end Go.Proofs.Qxb6609217aFmt
