import Derived.Test.Qxb6609235aVar
namespace Go.Proofs.Qxb6609235a
open Go.RowKit
set_option linter.unusedVariables false

/-- The target that a variant has. -/
def rep (cur des : Int) : Int := if aw cur des = true then des else cur
/-- The reason that kept gives. -/
def rs (mn mx r : Int) (reason : ByteArray) : ByteArray := if cl mn mx r = r then reason else ⟨#[99, 108, 97, 109, 112, 101, 100]⟩

set_option maxHeartbeats 1600000 in
theorem kept (name reason : ByteArray) (mn mx cur rdy des st c : Int) (q : ByteArray) (w : World) (hc : cl mn mx (rep cur des) = c) (hq : rs mn mx (rep cur des) reason = q) :
    Calls Try.prog 14 #[.agg #[.string name, .pointer none, .int .i32 0, .int .i64 mn, .int .i64 mx, .int .i64 cur, .int .i64 rdy, .int .i64 des, .int .i64 st, .slice none 0 0], .string reason] w fun e w' => e = .returned (.agg #[.string name, .pointer none, .int .i32 0, .int .i64 mn, .int .i64 mx, .int .i64 cur, .int .i64 rdy, .int .i64 des, .int .i64 st, .slice none 0 0, .int .i64 c, .string q]) ∧ w' = (((((((w).alloc (.cells #[.string name, .pointer none, .int .i32 0, .int .i64 mn, .int .i64 mx, .int .i64 cur, .int .i64 rdy, .int .i64 des, .int .i64 st, .slice none 0 0] 29)).alloc (.cells #[.string name, .pointer none, .int .i32 0, .int .i64 mn, .int .i64 mx, .int .i64 cur, .int .i64 rdy, .int .i64 des, .int .i64 st, .slice none 0 0, .int .i64 c, .string q] 36)).alloc (.cells #[.string name, .pointer none, .int .i32 0, .int .i64 mn, .int .i64 mx, .int .i64 cur, .int .i64 rdy, .int .i64 des, .int .i64 st, .slice none 0 0, .int .i64 (rep cur des), .string reason] 36)).alloc (.cells #[.string name, .pointer none, .int .i32 0, .int .i64 mn, .int .i64 mx, .int .i64 cur, .int .i64 rdy, .int .i64 des, .int .i64 st, .slice none 0 0] 29)).alloc (.cells #[.string name, .pointer none, .int .i32 0, .int .i64 mn, .int .i64 mx, .int .i64 cur, .int .i64 rdy, .int .i64 des, .int .i64 st, .slice none 0 0, .int .i64 c, .string q] 36)).alloc (.cells #[.string name, .pointer none, .int .i32 0, .int .i64 mn, .int .i64 mx, .int .i64 cur, .int .i64 rdy, .int .i64 des, .int .i64 st, .slice none 0 0, .int .i64 c, .string q] 36)).alloc (.cells #[.string name, .pointer none, .int .i32 0, .int .i64 mn, .int .i64 mx, .int .i64 cur, .int .i64 rdy, .int .i64 des, .int .i64 st, .slice none 0 0] 29) := by
  have HA : Hid (∀ W, Calls Try.prog 13 #[.agg #[.string name, .pointer none, .int .i32 0, .int .i64 mn, .int .i64 mx, .int .i64 cur, .int .i64 rdy, .int .i64 des, .int .i64 st, .slice none 0 0]] W fun e w' => e = .returned (.bool (aw cur des)) ∧ w' = W.alloc (.cells #[.string name, .pointer none, .int .i32 0, .int .i64 mn, .int .i64 mx, .int .i64 cur, .int .i64 rdy, .int .i64 des, .int .i64 st, .slice none 0 0] 29)) := awaits name mn mx cur rdy des st
  have HW : Hid (∀ W, Calls Try.prog 15 #[.agg #[.string name, .pointer none, .int .i32 0, .int .i64 mn, .int .i64 mx, .int .i64 cur, .int .i64 rdy, .int .i64 des, .int .i64 st, .slice none 0 0, .int .i64 (rep cur des), .string reason]] W fun e w' => e = .returned (.agg #[.string name, .pointer none, .int .i32 0, .int .i64 mn, .int .i64 mx, .int .i64 cur, .int .i64 rdy, .int .i64 des, .int .i64 st, .slice none 0 0, .int .i64 c, .string q]) ∧ w' = (((W).alloc (.cells #[.string name, .pointer none, .int .i32 0, .int .i64 mn, .int .i64 mx, .int .i64 cur, .int .i64 rdy, .int .i64 des, .int .i64 st, .slice none 0 0, .int .i64 c, .string q] 36)).alloc (.cells #[.string name, .pointer none, .int .i32 0, .int .i64 mn, .int .i64 mx, .int .i64 cur, .int .i64 rdy, .int .i64 des, .int .i64 st, .slice none 0 0, .int .i64 c, .string q] 36)).alloc (.cells #[.string name, .pointer none, .int .i32 0, .int .i64 mn, .int .i64 mx, .int .i64 cur, .int .i64 rdy, .int .i64 des, .int .i64 st, .slice none 0 0] 29)) := by
    rw [← hc, ← hq]
    exact fun W => within name reason mn mx cur rdy des st (rep cur des) W
  clear hc hq
  unfold rep at HW ⊢
  cases ha : aw cur des
  all_goals
    rw [ha] at HA HW
    simp only [if_true, Bool.false_eq_true, if_false] at HW ⊢
    clear ha
    go_enter Try.func14, Try.ntmps14
    go_wp2_with (first
      | (go_at_call 13; refine (HA.out _).mono ?_; rintro e w1 ⟨rfl, rfl⟩)
      | (go_at_call 15; refine (HW.out _).mono ?_; rintro e w2 ⟨rfl, rfl⟩))
    all_goals exact bodyPost_ret (v := .agg #[.string name, .pointer none, .int .i32 0, .int .i64 mn, .int .i64 mx, .int .i64 cur, .int .i64 rdy, .int .i64 des, .int .i64 st, .slice none 0 0, .int .i64 c, .string q]) (by simp [results, Try.results14, go_sem]) rfl ⟨rfl, rfl⟩

set_option maxHeartbeats 1600000 in
theorem zzKept (name reason : ByteArray) (mn mx cur rdy des st c : Int) (q : ByteArray) (w : World) (hc : cl mn mx (rep cur des) = c) (hq : rs mn mx (rep cur des) reason = q) :
    Calls Try.prog 11 #[.agg #[.string name, .pointer none, .int .i32 0, .int .i64 mn, .int .i64 mx, .int .i64 cur, .int .i64 rdy, .int .i64 des, .int .i64 st, .slice none 0 0], .string reason] w fun e w' => e = .returned (.agg #[.string name, .pointer none, .int .i32 0, .int .i64 mn, .int .i64 mx, .int .i64 cur, .int .i64 rdy, .int .i64 des, .int .i64 st, .slice none 0 0, .int .i64 c, .string q]) ∧ Grown w w' := by
  have HK : Hid (∀ W, Calls Try.prog 14 #[.agg #[.string name, .pointer none, .int .i32 0, .int .i64 mn, .int .i64 mx, .int .i64 cur, .int .i64 rdy, .int .i64 des, .int .i64 st, .slice none 0 0], .string reason] W fun e w' => e = .returned (.agg #[.string name, .pointer none, .int .i32 0, .int .i64 mn, .int .i64 mx, .int .i64 cur, .int .i64 rdy, .int .i64 des, .int .i64 st, .slice none 0 0, .int .i64 c, .string q]) ∧ w' = (((((((W).alloc (.cells #[.string name, .pointer none, .int .i32 0, .int .i64 mn, .int .i64 mx, .int .i64 cur, .int .i64 rdy, .int .i64 des, .int .i64 st, .slice none 0 0] 29)).alloc (.cells #[.string name, .pointer none, .int .i32 0, .int .i64 mn, .int .i64 mx, .int .i64 cur, .int .i64 rdy, .int .i64 des, .int .i64 st, .slice none 0 0, .int .i64 c, .string q] 36)).alloc (.cells #[.string name, .pointer none, .int .i32 0, .int .i64 mn, .int .i64 mx, .int .i64 cur, .int .i64 rdy, .int .i64 des, .int .i64 st, .slice none 0 0, .int .i64 (rep cur des), .string reason] 36)).alloc (.cells #[.string name, .pointer none, .int .i32 0, .int .i64 mn, .int .i64 mx, .int .i64 cur, .int .i64 rdy, .int .i64 des, .int .i64 st, .slice none 0 0] 29)).alloc (.cells #[.string name, .pointer none, .int .i32 0, .int .i64 mn, .int .i64 mx, .int .i64 cur, .int .i64 rdy, .int .i64 des, .int .i64 st, .slice none 0 0, .int .i64 c, .string q] 36)).alloc (.cells #[.string name, .pointer none, .int .i32 0, .int .i64 mn, .int .i64 mx, .int .i64 cur, .int .i64 rdy, .int .i64 des, .int .i64 st, .slice none 0 0, .int .i64 c, .string q] 36)).alloc (.cells #[.string name, .pointer none, .int .i32 0, .int .i64 mn, .int .i64 mx, .int .i64 cur, .int .i64 rdy, .int .i64 des, .int .i64 st, .slice none 0 0] 29)) := fun W => kept name reason mn mx cur rdy des st c q W hc hq
  clear hc hq
  generalize rep cur des = r at HK
  go_enter Try.func11, Try.ntmps11
  go_wp2_with (go_at_call 14; refine (HK.out _).mono ?_; rintro e w1 ⟨rfl, rfl⟩)
  exact bodyPost_ret (v := .agg #[.string name, .pointer none, .int .i32 0, .int .i64 mn, .int .i64 mx, .int .i64 cur, .int .i64 rdy, .int .i64 des, .int .i64 st, .slice none 0 0, .int .i64 c, .string q]) (by simp [results, Try.results11, go_sem]) rfl ⟨rfl, by repeat (first | exact Grown.refl _ | apply Grown.alloc)⟩
end Go.Proofs.Qxb6609235a
