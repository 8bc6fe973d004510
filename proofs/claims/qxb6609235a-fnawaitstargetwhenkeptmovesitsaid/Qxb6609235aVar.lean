import Derived.Test.Qxb6609235aRows
import Derived.WalkKit
import Derived.ProofKit
import Derived.OpenShut
import Derived.ShutString
namespace Go.Proofs.Qxb6609235a
open Go.RowKit
set_option linter.unusedVariables false

theorem newVar (name : ByteArray) (mn mx cur rdy des st : Int) (w : World) :
    Calls Try.prog 7 #[.string name, .int .i64 mn, .int .i64 mx, .int .i64 cur, .int .i64 rdy, .int .i64 des, .int .i64 st] w fun e w' => e = .returned (.agg #[.string name, .pointer none, .int .i32 0, .int .i64 mn, .int .i64 mx, .int .i64 cur, .int .i64 rdy, .int .i64 des, .int .i64 st, .slice none 0 0]) ∧ w' = w.alloc (.cells #[.string name, .pointer none, .int .i32 0, .int .i64 mn, .int .i64 mx, .int .i64 cur, .int .i64 rdy, .int .i64 des, .int .i64 st, .slice none 0 0] 29) := by
  go_enter Try.func7, Try.ntmps7
  go_wp2
  exact bodyPost_ret (v := .agg #[.string name, .pointer none, .int .i32 0, .int .i64 mn, .int .i64 mx, .int .i64 cur, .int .i64 rdy, .int .i64 des, .int .i64 st, .slice none 0 0]) (by simp [results, Try.results7, go_sem]) rfl ⟨rfl, rfl⟩

theorem pending (name : ByteArray) (mn mx cur rdy des st : Int) (w : World) (h0 : 0 ≤ rdy) (h1 : rdy ≤ cur) (h2 : cur ≤ 65536) :
    Calls Try.prog 8 #[.agg #[.string name, .pointer none, .int .i32 0, .int .i64 mn, .int .i64 mx, .int .i64 cur, .int .i64 rdy, .int .i64 des, .int .i64 st, .slice none 0 0]] w fun e w' => e = .returned (.int .i64 (cur - rdy)) ∧ w' = w.alloc (.cells #[.string name, .pointer none, .int .i32 0, .int .i64 mn, .int .i64 mx, .int .i64 cur, .int .i64 rdy, .int .i64 des, .int .i64 st, .slice none 0 0] 29) := by
  go_enter Try.func8, Try.ntmps8
  go_wp2
  go_ret
  exact ⟨rfl, rfl⟩

/-- A target is awaited. -/
def aw (cur des : Int) : Bool := des != 0 && des != cur
theorem awaits (name : ByteArray) (mn mx cur rdy des st : Int) (w : World) :
    Calls Try.prog 13 #[.agg #[.string name, .pointer none, .int .i32 0, .int .i64 mn, .int .i64 mx, .int .i64 cur, .int .i64 rdy, .int .i64 des, .int .i64 st, .slice none 0 0]] w fun e w' => e = .returned (.bool (aw cur des)) ∧ w' = w.alloc (.cells #[.string name, .pointer none, .int .i32 0, .int .i64 mn, .int .i64 mx, .int .i64 cur, .int .i64 rdy, .int .i64 des, .int .i64 st, .slice none 0 0] 29) := by
  by_cases h1 : des = 0
  · have ha : aw cur des = false := by simp [aw, h1]
    rw [ha]
    clear ha
    subst h1
    go_enter Try.func13, Try.ntmps13
    go_wp2
    go_ret
    exact ⟨rfl, rfl⟩
  · go_enter Try.func13, Try.ntmps13
    go_wp2
    go_ret
    exact ⟨rfl, rfl⟩
theorem zzAwaits (name : ByteArray) (mn mx cur rdy des st : Int) (w : World) :
    Calls Try.prog 10 #[.agg #[.string name, .pointer none, .int .i32 0, .int .i64 mn, .int .i64 mx, .int .i64 cur, .int .i64 rdy, .int .i64 des, .int .i64 st, .slice none 0 0]] w fun e w' => e = .returned (.bool (aw cur des)) ∧ w' = (w.alloc (.cells #[.string name, .pointer none, .int .i32 0, .int .i64 mn, .int .i64 mx, .int .i64 cur, .int .i64 rdy, .int .i64 des, .int .i64 st, .slice none 0 0] 29)).alloc (.cells #[.string name, .pointer none, .int .i32 0, .int .i64 mn, .int .i64 mx, .int .i64 cur, .int .i64 rdy, .int .i64 des, .int .i64 st, .slice none 0 0] 29) := by
  have HC : Hid (∀ W, Calls Try.prog 13 #[.agg #[.string name, .pointer none, .int .i32 0, .int .i64 mn, .int .i64 mx, .int .i64 cur, .int .i64 rdy, .int .i64 des, .int .i64 st, .slice none 0 0]] W fun e w' => e = .returned (.bool (aw cur des)) ∧ w' = W.alloc (.cells #[.string name, .pointer none, .int .i32 0, .int .i64 mn, .int .i64 mx, .int .i64 cur, .int .i64 rdy, .int .i64 des, .int .i64 st, .slice none 0 0] 29)) := awaits name mn mx cur rdy des st
  go_enter Try.func10, Try.ntmps10
  go_wp2_with (go_at_call 13; refine (HC.out _).mono ?_; rintro e w' ⟨rfl, rfl⟩)
  go_ret
  exact ⟨rfl, rfl⟩

/-- The target within the bounds. -/
def cl (mn mx r : Int) : Int := min (max r mn) mx
theorem cl_of {mn mx r : Int} : (if mx < (if r < mn then mn else r) then mx else if r < mn then mn else r) = cl mn mx r := by
  unfold cl
  omega

set_option maxHeartbeats 1600000 in
theorem within (name reason : ByteArray) (mn mx cur rdy des st r : Int) (w : World) :
    Calls Try.prog 15 #[.agg #[.string name, .pointer none, .int .i32 0, .int .i64 mn, .int .i64 mx, .int .i64 cur, .int .i64 rdy, .int .i64 des, .int .i64 st, .slice none 0 0, .int .i64 r, .string reason]] w fun e w' => e = .returned (.agg #[.string name, .pointer none, .int .i32 0, .int .i64 mn, .int .i64 mx, .int .i64 cur, .int .i64 rdy, .int .i64 des, .int .i64 st, .slice none 0 0, .int .i64 (cl mn mx r), .string (if cl mn mx r = r then reason else ⟨#[99, 108, 97, 109, 112, 101, 100]⟩)]) ∧ w' = ((w.alloc (.cells #[.string name, .pointer none, .int .i32 0, .int .i64 mn, .int .i64 mx, .int .i64 cur, .int .i64 rdy, .int .i64 des, .int .i64 st, .slice none 0 0, .int .i64 (cl mn mx r), .string (if cl mn mx r = r then reason else ⟨#[99, 108, 97, 109, 112, 101, 100]⟩)] 36)).alloc (.cells #[.string name, .pointer none, .int .i32 0, .int .i64 mn, .int .i64 mx, .int .i64 cur, .int .i64 rdy, .int .i64 des, .int .i64 st, .slice none 0 0, .int .i64 (cl mn mx r), .string (if cl mn mx r = r then reason else ⟨#[99, 108, 97, 109, 112, 101, 100]⟩)] 36)).alloc (.cells #[.string name, .pointer none, .int .i32 0, .int .i64 mn, .int .i64 mx, .int .i64 cur, .int .i64 rdy, .int .i64 des, .int .i64 st, .slice none 0 0] 29) := by
  by_cases hc : cl mn mx r = r
  · rw [if_pos hc, hc]
    rw [← cl_of] at hc
    go_enter Try.func15, Try.ntmps15
    go_wp2
    all_goals exact bodyPost_ret (v := .agg #[.string name, .pointer none, .int .i32 0, .int .i64 mn, .int .i64 mx, .int .i64 cur, .int .i64 rdy, .int .i64 des, .int .i64 st, .slice none 0 0, .int .i64 r, .string reason]) (by simp [results, Try.results15, go_sem]) rfl ⟨rfl, rfl⟩
  · rw [if_neg hc]
    have he : (if mx < (if r < mn then mn else r) then mx else if r < mn then mn else r) = cl mn mx r := cl_of
    generalize cl mn mx r = c at he hc
    have hb : (c == r) = false := by simp [hc]
    clear hc
    go_enter Try.func15, Try.ntmps15
    go_wp2
    all_goals exact bodyPost_ret (v := .agg #[.string name, .pointer none, .int .i32 0, .int .i64 mn, .int .i64 mx, .int .i64 cur, .int .i64 rdy, .int .i64 des, .int .i64 st, .slice none 0 0, .int .i64 c, .string ⟨#[99, 108, 97, 109, 112, 101, 100]⟩]) (by simp [results, Try.results15, go_sem]) rfl ⟨rfl, rfl⟩
end Go.Proofs.Qxb6609235a
