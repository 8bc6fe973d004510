import Derived.Test.Qxb6609217aFmtKeepB
import Derived.Test.Qxb6609217aFmtKeepC
import Derived.Test.Qxb6609217aFmtPlain
namespace Go.Proofs.Qxb6609217aFmt
open Go.RowKit

theorem KB.alloc {w : World} {B : Nat} {o i l : Bool} {nk : Nat} {ts : List ByteArray} {rs : List KR} (h : KB w B o i l nk ts rs) (ob : Obj) : KB (w.alloc ob) B o i l nk ts rs := by
  obtain ⟨v5, v7, a12, c12, v13, v14, v26, h5, hB, h13, h14, hd, htm⟩ := h
  exact ⟨v5, v7, a12, c12, v13, v14, v26, h5, hB.alloc _, h13.alloc _, h14.alloc _, hd, htm.alloc _⟩
theorem KB.drewN {w : World} {B : Nat} {o i l : Bool} {nk : Nat} {ts : List ByteArray} {rs : List KR} (h : KB w B o i l nk ts rs) (q : Nat) : KB (w.drewN q) B o i l nk ts rs := h
theorem KB.lt {w : World} {B : Nat} {o i l : Bool} {nk : Nat} {ts : List ByteArray} {rs : List KR} (h : KB w B o i l nk ts rs) : B < w.heap.size := by
  obtain ⟨v5, v7, a12, c12, v13, v14, v26, h5, hB, _⟩ := h
  exact hB.lt
theorem KB.keeps {w w' : World} {B : Nat} {o i l : Bool} {nk : Nat} {ts : List ByteArray} {rs : List KR} (h : KB w B o i l nk ts rs) (hk : Keeps (fun _ => False) w w') : KB w' B o i l nk ts rs := by
  obtain ⟨v5, v7, a12, c12, v13, v14, v26, h5, hB, h13, h14, hd, htm⟩ := h
  refine ⟨v5, v7, a12, c12, v13, v14, v26, h5, hk.blk hB id, hk.owns h13 (fun _ _ => id), hk.owns h14 (fun _ _ => id), hd, ?_⟩
  rcases htm with htm | ⟨m, n, D, h1, h2, h3, ⟨es, cl, h4, r⟩, h5⟩
  · exact .inl htm
  · exact .inr ⟨m, n, D, h1, h2, h3, ⟨es, cl, (hk.block m (Array.getElem?_eq_some_iff.1 h4).1 id).trans h4, r⟩, h5⟩

set_option maxHeartbeats 400000 in
theorem zzkeep_true (o i : Bool) (nk : Nat) (ts : List ByteArray) (rs : List KR) (kind addr n0 n1 : Int) (text : ByteArray) (B : Nat) (w : World) (hK : KB w B o i true nk ts rs)
    (hk0 : 0 ≤ kind) (hk1 : kind < nk) (hnk : nk ≤ 1048576) (htx : text.size ≤ maxLen) (hts : ts.length ≤ 1048576) (hrs : rs.length ≤ 1048576) :
    Calls Tryf.prog 11 #[.pointer (some ⟨B, 0, none⟩), .agg #[.int .i64 kind, .int .u64 addr, .string text, .int .u64 n0, .int .u64 n1]] w fun e w' => e = .returned (.tuple #[]) ∧
      KB w' B o i true nk (addT ts text) (rs ++ [⟨addr, n0, n1, numT ts text, kind⟩]) ∧ Below B w w' := by
  have hlt := hK.lt
  go_enter Tryf.func11, Tryf.ntmps11
  go_wp2_with fail
  refine (keep_true o i nk ts rs kind addr n0 n1 text B _ (hK.alloc _) hk0 hk1 hnk htx hts hrs).mono ?_
  rintro e w' ⟨rfl, h1, h2⟩
  go_wp2
  go_end0
  exact ⟨rfl, h1, ((Below.refl B w).alloc (by omega) _).trans h2⟩

set_option maxHeartbeats 400000 in
theorem zzkeep_false (o i : Bool) (v5 v7 v12 v13 v14 v26 : Value) (kind addr n0 n1 : Int) (text : ByteArray) (B : Nat) (w : World) (hB : Blk w B 47 (bcs o i false v5 v7 v12 v13 v14 v26)) :
    Calls Tryf.prog 11 #[.pointer (some ⟨B, 0, none⟩), .agg #[.int .i64 kind, .int .u64 addr, .string text, .int .u64 n0, .int .u64 n1]] w fun e w' => e = .returned (.tuple #[]) ∧ Keeps (fun _ => False) w w' := by
  go_enter Tryf.func11, Tryf.ntmps11
  go_wp2_with fail
  refine (keep_false o i v5 v7 v12 v13 v14 v26 kind addr n0 n1 text B _ (hB.alloc _)).mono ?_
  rintro e w' ⟨rfl, h1⟩
  go_wp2
  go_end0
  exact ⟨rfl, ((Keeps.refl _ w).alloc _).trans h1⟩
end Go.Proofs.Qxb6609217aFmt
