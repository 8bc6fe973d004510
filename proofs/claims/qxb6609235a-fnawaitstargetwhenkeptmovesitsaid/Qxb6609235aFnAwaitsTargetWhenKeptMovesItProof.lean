import Derived.Test.Qxb6609235aKept
import Derived.WalkKit
import Derived.ProofKit
import Derived.OpenShut
import Derived.ShutString
namespace Go.Proofs.Qxb6609235a.fnAwaitsTargetWhenKeptMovesIt
open Go.ChangeShapes Go.WideShapes Go.ChangeAt Go.RowKit
open Go.ChangeMaps (open_string shut_string)
set_option linter.unusedVariables false      -- a walk need not use every 'w<i>' (that an integer argument fits its kind)

theorem own : ownKnob Try.prog.godebug = none := by kernel_rfl

theorem hid {p : Prop} (h : p) : Hid p := h
theorem grown_trans {w w1 w2 : World} (h : Grown w w1) (k : Grown w1 w2) : Grown w w2 :=
  ⟨World.keptBut_trans h.1 k.1, fun a => (k.2.1 a).trans (h.2.1 a), Nat.le_trans h.2.2 k.2.2⟩
theorem grown_block {w w1 : World} (h : Grown w w1) {i : Nat} (hi : i < w.heap.size) : w1.heap[i]? = w.heap[i]? := by
  have hk := h.1.2.2 i hi
  revert hk
  split
  · rename_i c t fr c' t' fr' e1 e2
    rintro ⟨rfl, rfl, hs, hc⟩
    rw [e1, e2]
    have : c' = c := Array.ext_getElem? (fun j => hc j id)
    rw [this]
  · rename_i e1 e2
    rintro (h' | ⟨rfl, rfl⟩)
    · exact h'.elim
    · rw [e1, e2]
  · exact id
theorem grown_cell {w w1 : World} (h : Grown w w1) {a : Addr} {v : Value} (hc : w.cell? a = some v) : w1.cell? a = some v :=
  (World.cell?_of_block (grown_block h (World.block_lt_of_cell? w a hc))).trans hc
theorem cell_new (w : World) (cs : Array Value) (t : TypeId) (o : Nat) (v : Value) (h : cs[o]? = some v) : (w.alloc (.cells cs t)).cell? ⟨w.heap.size, o, none⟩ = some v := by
  have e : (w.alloc (.cells cs t)).heap[w.heap.size]? = some (.cells cs t) := heap_alloc_new w _
  generalize w.alloc (.cells cs t) = W at e ⊢
  simp [World.cell?, e, h]
theorem bytes_any (a0 : ByteArray) (a1 a2 a3 a4 a5 a6 : Int) (a7 : ByteArray) (w : World) (w0 : a0.size ≤ maxLen) (w7 : a7.size ≤ maxLen) :
    Calls Try.prog 9 #[.string a0, .int .i64 a1, .int .i64 a2, .int .i64 a3, .int .i64 a4, .int .i64 a5, .int .i64 a6, .string a7] w fun e w' => (∃ b, e = .returned (.bool b)) ∧ w = w' := by
  unfold maxLen at w0 w7
  by_cases h1 : 1048576 < a0.size
  · go_enter Try.func9, Try.ntmps9
    go_wp2
    go_ret
    exact ⟨⟨_, rfl⟩, rfl⟩
  by_cases h2 : 1048576 < a7.size
  · go_enter Try.func9, Try.ntmps9
    go_wp2
    go_ret
    exact ⟨⟨_, rfl⟩, rfl⟩
  by_cases h3 : 1048576 < a0.size + a7.size
  · go_enter Try.func9, Try.ntmps9
    go_wp2
    go_ret
    exact ⟨⟨_, rfl⟩, rfl⟩
  · go_enter Try.func9, Try.ntmps9
    go_wp2
    go_ret
    exact ⟨⟨_, rfl⟩, rfl⟩

/-! ### STEP 1: THE WALK: the Go text returns true. 'Grown w w'': the world has at most new blocks (Derived/RowKit3.lean). Part the cases AHEAD of 'go_enter' where a test parts the walk; take each callee by a contract of your own. -/
set_option maxHeartbeats 3200000 in
theorem walk (a0 : ByteArray) (a1 : Int) (a2 : Int) (a3 : Int) (a4 : Int) (a5 : Int) (a6 : Int) (a7 : ByteArray) (w0 : a0.size ≤ maxLen) (w1 : (Lit.int .i64 a1).wf = true) (w2 : (Lit.int .i64 a2).wf = true) (w3 : (Lit.int .i64 a3).wf = true) (w4 : (Lit.int .i64 a4).wf = true) (w5 : (Lit.int .i64 a5).wf = true) (w6 : (Lit.int .i64 a6).wf = true) (w7 : a7.size ≤ maxLen) (w : World) :
    Calls Try.prog 4 #[.string a0, .int .i64 a1, .int .i64 a2, .int .i64 a3, .int .i64 a4, .int .i64 a5, .int .i64 a6, .string a7] w fun e w' => e = .returned (.bool true) ∧ Grown w w' := by
  have HZ := hid (bytes_any a0 a1 a2 a3 a4 a5 a6 a7 w w0 w7)
  unfold maxLen at w0 w7
  by_cases h1 : 524288 < a0.size
  · go_enter Try.func4, Try.ntmps4
    go_wp2_with (go_at_call 9; refine HZ.out.mono ?_; rintro e w' ⟨⟨b, rfl⟩, rfl⟩; cases b)
    all_goals go_ret; exact ⟨rfl, Grown.refl _⟩
  by_cases h2 : 524288 < a7.size
  · go_enter Try.func4, Try.ntmps4
    go_wp2_with (go_at_call 9; refine HZ.out.mono ?_; rintro e w' ⟨⟨b, rfl⟩, rfl⟩; cases b)
    all_goals go_ret; exact ⟨rfl, Grown.refl _⟩
  by_cases h3 : a3 < a1
  · go_enter Try.func4, Try.ntmps4
    go_wp2_with (go_at_call 9; refine HZ.out.mono ?_; rintro e w' ⟨⟨b, rfl⟩, rfl⟩; cases b)
    all_goals go_ret; exact ⟨rfl, Grown.refl _⟩
  by_cases h4 : a2 < a3
  · go_enter Try.func4, Try.ntmps4
    go_wp2_with (go_at_call 9; refine HZ.out.mono ?_; rintro e w' ⟨⟨b, rfl⟩, rfl⟩; cases b)
    all_goals go_ret; exact ⟨rfl, Grown.refl _⟩
  by_cases h5 : a5 = 0
  · subst h5
    have ha : aw a3 0 = false := by simp [aw]
    have hrep : rep a3 0 = a3 := by simp [rep, ha]
    have hcl : cl a1 a2 a3 = a3 := by unfold cl; omega
    have HN := hid (fun W => newVar a0 a1 a2 a3 a4 0 a6 W)
    have HA := hid (fun W => zzAwaits a0 a1 a2 a3 a4 0 a6 W)
    have HK := hid (fun W => zzKept a0 a7 a1 a2 a3 a4 0 a6 a3 a7 W (by rw [hrep]; exact hcl) (by rw [hrep, rs, if_pos hcl]))
    rw [ha] at HA
    clear ha hrep hcl
    go_enter Try.func4, Try.ntmps4
    go_wp2_with (first
      | (go_at_call 9; refine HZ.out.mono ?_; rintro e w' ⟨⟨b, rfl⟩, rfl⟩; cases b)
      | (go_at_call 7; refine (HN.out _).mono ?_; rintro e w' ⟨rfl, rfl⟩)
      | (go_at_call 10; refine (HA.out _).mono ?_; rintro e w' ⟨rfl, rfl⟩)
      | (go_at_call 11; refine (HK.out _).mono ?_; rintro e w1 ⟨rfl, hg1⟩))
    · go_ret
      exact ⟨rfl, Grown.refl _⟩
    go_ret
    have G1 : Grown w w1 := grown_trans (by repeat (first | exact Grown.refl _ | apply Grown.alloc)) hg1
    exact ⟨rfl, G1.alloc _ _⟩
  have hz : (a5 == 0) = false := by simp [h5]
  by_cases h6 : a5 < a1
  · go_enter Try.func4, Try.ntmps4
    go_wp2_with (go_at_call 9; refine HZ.out.mono ?_; rintro e w' ⟨⟨b, rfl⟩, rfl⟩; cases b)
    all_goals go_ret; exact ⟨rfl, Grown.refl _⟩
  by_cases h7 : a2 < a5
  · go_enter Try.func4, Try.ntmps4
    go_wp2_with (go_at_call 9; refine HZ.out.mono ?_; rintro e w' ⟨⟨b, rfl⟩, rfl⟩; cases b)
    all_goals go_ret; exact ⟨rfl, Grown.refl _⟩
  by_cases h8 : a5 = a3
  · subst h8
    have ha : aw a5 a5 = false := by simp [aw]
    have hrep : rep a5 a5 = a5 := by simp [rep, ha]
    have hcl : cl a1 a2 a5 = a5 := by unfold cl; omega
    have HN := hid (fun W => newVar a0 a1 a2 a5 a4 a5 a6 W)
    have HA := hid (fun W => zzAwaits a0 a1 a2 a5 a4 a5 a6 W)
    have HK := hid (fun W => zzKept a0 a7 a1 a2 a5 a4 a5 a6 a5 a7 W (by rw [hrep]; exact hcl) (by rw [hrep, rs, if_pos hcl]))
    rw [ha] at HA
    clear ha hrep hcl
    go_enter Try.func4, Try.ntmps4
    go_wp2_with (first
      | (go_at_call 9; refine HZ.out.mono ?_; rintro e w' ⟨⟨b, rfl⟩, rfl⟩; cases b)
      | (go_at_call 7; refine (HN.out _).mono ?_; rintro e w' ⟨rfl, rfl⟩)
      | (go_at_call 10; refine (HA.out _).mono ?_; rintro e w' ⟨rfl, rfl⟩)
      | (go_at_call 11; refine (HK.out _).mono ?_; rintro e w1 ⟨rfl, hg1⟩))
    · go_ret
      exact ⟨rfl, Grown.refl _⟩
    go_ret
    have G1 : Grown w w1 := grown_trans (by repeat (first | exact Grown.refl _ | apply Grown.alloc)) hg1
    exact ⟨rfl, G1.alloc _ _⟩
  · have ha : aw a3 a5 = true := by simp [aw, h5, h8]
    have hrep : rep a3 a5 = a5 := by simp [rep, ha]
    have hcl : cl a1 a2 a5 = a5 := by unfold cl; omega
    have hn : (a5 != a3) = true := by simp [h8]
    have HNE := hid hn
    have HN := hid (fun W => newVar a0 a1 a2 a3 a4 a5 a6 W)
    have HA := hid (fun W => zzAwaits a0 a1 a2 a3 a4 a5 a6 W)
    have HK := hid (fun W => zzKept a0 a7 a1 a2 a3 a4 a5 a6 a5 a7 W (by rw [hrep]; exact hcl) (by rw [hrep, rs, if_pos hcl]))
    rw [ha] at HA
    clear ha hrep hcl
    go_enter Try.func4, Try.ntmps4
    go_wp2_with (first
      | (go_at_call 9; refine HZ.out.mono ?_; rintro e w' ⟨⟨b, rfl⟩, rfl⟩; cases b)
      | (go_at_call 7; refine (HN.out _).mono ?_; rintro e w' ⟨rfl, rfl⟩)
      | (go_at_call 10; refine (HA.out _).mono ?_; rintro e w' ⟨rfl, rfl⟩)
      | (go_at_call 11; refine (HK.out _).mono ?_; rintro e w1 ⟨rfl, hg1⟩))
    · go_ret
      exact ⟨rfl, Grown.refl _⟩
    go_ret
    have G1 : Grown w w1 := grown_trans (by repeat (first | exact Grown.refl _ | apply Grown.alloc)) hg1
    exact ⟨by first | rfl | exact congrArg (fun b => Ending.returned (.bool b)) HNE.out, G1.alloc _ _⟩

/-! ### THE ROW's STEP: WRITTEN OUT: LEAVE IT -/
set_option maxRecDepth 100000 in
theorem lifted (os : Os) (started : os.Started) (H : Type) (enc : TypeId × Value → H) :
    ReturnsInHanded {} Try.checked os 4 .any (Rows.fnAwaitsTargetWhenKeptMovesItSpec.pre6 enc Try.prog Try.f4 Rows.fnAwaitsTargetWhenKeptMovesItRow.domain false) (Rows.fnAwaitsTargetWhenKeptMovesItSpec.post enc Try.prog Try.f4 false true false false) := by
  refine returnsInHanded_of_change (C := Try.checked) own started (by kernel_rfl) Try.func4
    (ChangeSpec.witness6 (enc := enc) (C := Try.checked) false ⟨#[], #[.string ByteArray.empty, .int .i64 0, .int .i64 0, .int .i64 0, .int .i64 0, .int .i64 0, .int .i64 0, .string ByteArray.empty], []⟩ 8 (by kernel_rfl) (by kernel_rfl) (by kernel_rfl) (by kernel_rfl)) ?_
  intro W base args ds gs before hval0 hW hcnd _
  have hval : ∀ (j : Nat) t v, Try.f4.params[j]? = some t → args[j]? = some v → Value.okWide Try.prog W .any base t v := hval0
  have hW' := hW
  obtain ⟨p, q, hA0, hV, rfl, hfz, hnd⟩ := hW
  have hA : DataW.TrodAll enc Try.prog W 0 (fun _ => true) true Try.f4.params.toList args.toList ds p := hA0
  rw [Try.params4] at hA hval
  obtain ⟨v0, vs0, d0, ds0, p0, q0, hargs, rfl, rfl, h0, r0⟩ := trodAll_cons hA
  obtain ⟨v1, vs1, d1, ds1, p1, q1, rfl, rfl, rfl, h1, r1⟩ := trodAll_cons r0
  obtain ⟨v2, vs2, d2, ds2, p2, q2, rfl, rfl, rfl, h2, r2⟩ := trodAll_cons r1
  obtain ⟨v3, vs3, d3, ds3, p3, q3, rfl, rfl, rfl, h3, r3⟩ := trodAll_cons r2
  obtain ⟨v4, vs4, d4, ds4, p4, q4, rfl, rfl, rfl, h4, r4⟩ := trodAll_cons r3
  obtain ⟨v5, vs5, d5, ds5, p5, q5, rfl, rfl, rfl, h5, r5⟩ := trodAll_cons r4
  obtain ⟨v6, vs6, d6, ds6, p6, q6, rfl, rfl, rfl, h6, r6⟩ := trodAll_cons r5
  obtain ⟨v7, vs7, d7, ds7, p7, q7, rfl, rfl, rfl, h7, r7⟩ := trodAll_cons r6
  obtain ⟨rfl, rfl, rfl⟩ := trodAll_nil r7
  obtain rfl : args = #[v0, v1, v2, v3, v4, v5, v6, v7] := by cases args; simp_all
  obtain ⟨rfl, rfl⟩ := trodVars_none hV
  obtain ⟨a0, rfl, rfl, rfl, w0⟩ := open_string Try.underlying9 (hval 0 9 v0 rfl rfl) h0
  obtain ⟨a1, rfl, rfl, rfl, w1⟩ := open_int Try.underlying3 (hval 1 3 v1 rfl rfl) h1
  obtain ⟨a2, rfl, rfl, rfl, w2⟩ := open_int Try.underlying3 (hval 2 3 v2 rfl rfl) h2
  obtain ⟨a3, rfl, rfl, rfl, w3⟩ := open_int Try.underlying3 (hval 3 3 v3 rfl rfl) h3
  obtain ⟨a4, rfl, rfl, rfl, w4⟩ := open_int Try.underlying3 (hval 4 3 v4 rfl rfl) h4
  obtain ⟨a5, rfl, rfl, rfl, w5⟩ := open_int Try.underlying3 (hval 5 3 v5 rfl rfl) h5
  obtain ⟨a6, rfl, rfl, rfl, w6⟩ := open_int Try.underlying2 (hval 6 2 v6 rfl rfl) h6
  obtain ⟨a7, rfl, rfl, rfl, w7⟩ := open_string Try.underlying9 (hval 7 9 v7 rfl rfl) h7
  clear hA0 hval0
  simp only [List.append_nil] at hW'
  refine (walk a0 a1 a2 a3 a4 a5 a6 a7 w0 w1 w2 w3 w4 w5 w6 w7 W).mono fun e W' ⟨he, hg⟩ => ?_
  subst he
  exact ⟨_, rfl, post_of_same (pa := []) (pv := []) hW' (fun _ _ _ => (trodAll_cons_mk (shut_bool Try.underlying4 _) trodAll_mk0)) (fun sp _ => (trodAll_cons_mk (shut_string Try.underlying9 w0) (trodAll_cons_mk (shut_int Try.underlying3 w1) (trodAll_cons_mk (shut_int Try.underlying3 w2) (trodAll_cons_mk (shut_int Try.underlying3 w3) (trodAll_cons_mk (shut_int Try.underlying3 w4) (trodAll_cons_mk (shut_int Try.underlying3 w5) (trodAll_cons_mk (shut_int Try.underlying2 w6) (trodAll_cons_mk (shut_string Try.underlying9 w7) trodAll_mk0))))))))) (fun _ _ => rfl) rfl
    (hg.frame _) hg.2.1 (ok_one (by kernel_rfl) rfl (okWide_bool_mk Try.underlying4 _))⟩

theorem over : Rows.fnAwaitsTargetWhenKeptMovesItRow.holds Try.pinned (OpenSpec.ofChange Rows.fnAwaitsTargetWhenKeptMovesItSpec) :=
  OpenClaim.holds_of_wide 4 Try.f4 rfl rfl rfl rfl rfl rfl rfl ⟨rfl, rfl, rfl, rfl, rfl⟩ rfl rfl rfl rfl rfl (by kernel_rfl) Try.func4 (by kernel_rfl)
    (of_decide_eq_true (by kernel_rfl)) (by unfold Func.isWrapper; first | (rw [if_pos (by decide +kernel)]; kernel_rfl) | (rw [if_neg (by decide +kernel)]; exact ⟨rfl, rfl⟩))
    (fun os started H enc _ => lifted os started H enc)

/-- ████ THE STATEMENT ████ -/
theorem proved : Rows.FnAwaitsTargetWhenKeptMovesItSaid :=
  over
#print axioms proved
end Go.Proofs.Qxb6609235a.fnAwaitsTargetWhenKeptMovesIt
