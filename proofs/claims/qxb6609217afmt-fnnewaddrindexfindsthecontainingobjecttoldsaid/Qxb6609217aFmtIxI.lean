import Derived.Test.Qxb6609217aFmtIxH
namespace Go.Proofs.Qxb6609217aFmt
open Go.RowKit Go.Shelf Go.Lib Go.Sort

/-- Object i holds the address x. -/
def Hd (zs ss : List Int) (ids : Bool) (x : Int) (i : Nat) : Prop := zs.getD i 0 ≤ x ∧ x - zs.getD i 0 < spanN ids (ss.getD i 0)

/-- Without overlap one object at most holds an address. -/
theorem hd_uniq {zs ss : List Int} {ids : Bool} {x : Int} (hno : ¬ AnyOv zs ss ids) {i j : Nat} (hi : i < zs.length) (hj : j < zs.length) (h1 : Hd zs ss ids x i) (h2 : Hd zs ss ids x j) : i = j := by
  by_cases e : i = j
  · exact e
  exfalso
  unfold Hd at h1 h2
  by_cases e1 : zs.getD i 0 = zs.getD j 0
  · exact hno ⟨i, j, hi, hj, e, .inl e1⟩
  · by_cases e2 : zs.getD i 0 < zs.getD j 0
    · exact hno ⟨i, j, hi, hj, e, .inr ⟨e2, by omega⟩⟩
    · exact hno ⟨j, i, hj, hi, Ne.symm e, .inr ⟨by omega, by omega⟩⟩

/-- The last object at or below x is the only one that can hold it. -/
theorem srch_none {zs ss : List Int} {ids : Bool} {d : Array (Int × Int)} {x : Int} (hO : IxOf zs d) (hS : Srch d zs.length x 0 false) {i : Nat} (hi : i < zs.length) : ¬ Hd zs ss ids x i := by
  intro h
  obtain ⟨q, hq, eq⟩ := hO.onto hi
  have h1 := hS.above q (Nat.zero_le _) hq
  have h2 := hS.above 0 (Nat.zero_le _) (by omega)
  have h3 : (d[0]!).1 ≤ (d[q]!).1 := by
    by_cases e : q = 0
    · rw [e]; exact Int.le_refl _
    · exact hO.sorted 0 q (by omega) hq
  have h4 : (d[q]!).1 = zs.getD i 0 := by rw [eq]
  have := h.1
  have := hS.hit.2 ⟨by omega, by omega⟩
  cases this

theorem srch_last {zs ss : List Int} {ids : Bool} {d : Array (Int × Int)} {x : Int} (hO : IxOf zs d) (hno : ¬ AnyOv zs ss ids) {k p o : Nat} {f : Bool} (hS : Srch d zs.length x k f) (hp : p < zs.length)
    (hpk : (f = true ∧ p = k) ∨ (f = false ∧ p + 1 = k)) (ho : o < zs.length) (eo : d[p]! = (zs.getD o 0, (o : Int))) {i : Nat} (hi : i < zs.length) (h : Hd zs ss ids x i) : Hd zs ss ids x o ∧ i = o := by
  obtain ⟨q, hq, eq⟩ := hO.onto hi
  have e1 : (d[q]!).1 = zs.getD i 0 := by rw [eq]
  have e2 : (d[p]!).1 = zs.getD o 0 := by rw [eo]
  have hio : i = o := by
    by_cases e : i = o
    · exact e
    exfalso
    have hqp : q ≠ p := by
      rintro rfl
      rw [eo] at eq
      injection eq with _ e3
      omega
    have hpx : (d[p]!).1 ≤ x := by
      rcases hpk with ⟨hf, hk⟩ | ⟨hf, hk⟩
      · have := (hS.hit.1 hf).2
        rw [hk]; omega
      · have := hS.below p (by omega)
        omega
    have hh := h
    unfold Hd at hh
    rcases Nat.lt_or_gt_of_ne hqp with hl | hl
    · have := hO.sorted q p hl hp
      by_cases e3 : zs.getD i 0 = zs.getD o 0
      · exact hno ⟨i, o, hi, ho, e, .inl e3⟩
      · exact hno ⟨i, o, hi, ho, e, .inr ⟨by omega, by omega⟩⟩
    · have hge := hO.sorted p q hl hq
      rcases hpk with ⟨hf, hk⟩ | ⟨hf, hk⟩
      · have h5 := (hS.hit.1 hf).2
        have h6 := hS.above q (by omega) hq
        rw [← hk] at h5
        exact hno ⟨i, o, hi, ho, e, .inl (by omega)⟩
      · have h6 := hS.above q (by omega) hq
        have h7 := hS.above k (Nat.le_refl _) (by omega)
        have h8 : (d[k]!).1 ≤ (d[q]!).1 := by
          by_cases e4 : q = k
          · rw [e4]; exact Int.le_refl _
          · exact hO.sorted k q (by omega) hq
        have := hS.hit.2 ⟨by omega, by omega⟩
        rw [hf] at this
        cases this
  exact ⟨hio ▸ h, hio⟩

theorem contains_any (a s x : Int) (w : World) (h : a ≤ x) (h0 : 0 ≤ a) (h1 : x < 18446744073709551616) :
    Calls Tryf.prog 40 #[.int .u64 a, .int .u64 s, .int .u64 x] w fun e w' => e = .returned (.bool (decide (x - a < s))) ∧ w' = w := by
  have hw := wrap_u64_small (x := x - a) (by omega) (by omega)
  go_enter Tryf.func40, Tryf.ntmps40
  go_wp2
  go_ret
  exact ⟨rfl, rfl⟩

def holdsB (ids : Bool) (a s x : Int) : Bool := decide (a ≤ x) && decide (x - a < spanN ids s)
theorem holds_any (a s x : Int) (ids : Bool) (w : World) (h0 : 0 ≤ a) (h1 : x < 18446744073709551616) :
    Calls Tryf.prog 25 #[.int .u64 a, .int .u64 s, .bool ids, .int .u64 x] w fun e w' => e = .returned (.bool (holdsB ids a s x)) ∧ w' = w := by
  have HS : Hid (∀ W, Calls Tryf.prog 30 #[.bool ids, .int .u64 s] W fun e w' => e = .returned (.int .u64 (spanN ids s)) ∧ w' = W) := span30_any ids s
  unfold holdsB
  generalize spanN ids s = sp at HS
  by_cases h : a ≤ x
  · have hw := wrap_u64_small (x := x - a) (by omega) (by omega)
    have hb : decide (a ≤ x) = true := by simp [h]
    rw [hb, Bool.true_and]
    clear hb
    go_enter Tryf.func25, Tryf.ntmps25
    go_wp2_with (go_at_call 30; refine (HS.out _).mono ?_; rintro e w' ⟨rfl, rfl⟩)
    go_ret
    exact ⟨rfl, rfl⟩
  · have hb : decide (a ≤ x) = false := by simp; omega
    rw [hb, Bool.false_and]
    clear hb
    go_enter Tryf.func25, Tryf.ntmps25
    go_wp2
    go_ret
    exact ⟨rfl, rfl⟩

/-- What find answers: the one object that holds x, or none. -/
def FindIs (zs ss : List Int) (ids : Bool) (x got : Int) (ok : Bool) : Prop :=
  (ok = true ∧ ∃ i : Nat, i < zs.length ∧ got = i ∧ Hd zs ss ids x i) ∨ (ok = false ∧ ∀ i, i < zs.length → ¬ Hd zs ss ids x i)

/-- The entry that the search leads to. -/
structure Ent (w : World) (X R : Nat) (bo : Option Addr) (n c2 : Nat) (zs ss : List Int) (ids : Bool) (x : Int) (p o : Nat) (a s : Int) (b off : Nat) : Prop where
  y0 : w.cell? ⟨X, 0, none⟩ = some (.slice bo n c2)
  y1 : w.cell? ⟨X, 1, none⟩ = some (.bool ids)
  y2 : w.cell? ⟨X, 2, none⟩ = some (.slice (some ⟨R, 0, none⟩) n n)
  c0 : w.cell? ⟨R, p * 2, none⟩ = some (.int .u64 a)
  c1 : w.cell? ⟨R, p * 2 + 1, none⟩ = some (.int .i64 o)
  hbo : bo = some ⟨b, off, none⟩
  cs : w.cell? ⟨b, off + o, none⟩ = some (.int .u64 s)
  hp : p < n
  ho : o < n
  a0 : 0 ≤ a
  ax : a ≤ x
  is : FindIs zs ss ids x o (decide (x - a < spanN ids s))

theorem find_split {w : World} {X R : Nat} {bo : Option Addr} {n c2 : Nat} {ids : Bool} {d : Array (Int × Int)} {zs ss : List Int} {x : Int} {k : Nat} {f : Bool} (hI : IxAt w X R bo n c2 ids d) (hO : IxOf zs d) (hb : UArg w bo n ss)
    (hl : zs.length = n) (hz : ∀ z ∈ zs, 0 ≤ z ∧ z < 18446744073709551616) (hno : ¬ AnyOv zs ss ids) (hS : Srch d n x k f) :
    (f = false ∧ k = 0 ∧ FindIs zs ss ids x 0 false) ∨ ∃ (p o : Nat) (a s : Int) (b off : Nat), ((f = true ∧ k = p) ∨ (f = false ∧ k = p + 1)) ∧ Ent w X R bo n c2 zs ss ids x p o a s b off := by
  subst hl
  have mk : ∀ p, p < zs.length → ((f = true ∧ p = k) ∨ (f = false ∧ p + 1 = k)) → ∃ (o : Nat) (a s : Int) (b off : Nat), Ent w X R bo zs.length c2 zs ss ids x p o a s b off := by
    intro p hp hpk
    obtain ⟨o, ho, eo⟩ := hO.entry hp
    have hs := hI.size
    have a0 := (hI.row.cell (i := p) (c := 0) (by omega) (by omega)).1
    have a1 := (hI.row.cell (i := p) (c := 1) (by omega) (by omega)).1
    rw [eo] at a0 a1
    simp only [encIx, Nat.zero_add, Nat.add_zero] at a0 a1
    obtain ⟨b, off, hbo, _, hc⟩ := hb.2.2 (by omega)
    have hpx : (d[p]!).1 ≤ x := by
      rcases hpk with ⟨hf, hk⟩ | ⟨hf, hk⟩
      · have := (hS.hit.1 hf).2
        rw [hk]; omega
      · have := hS.below p (by omega)
        omega
    rw [eo] at hpx
    have hz0 : 0 ≤ zs.getD o 0 := by
      rw [List.getD_eq_getElem?_getD, List.getElem?_eq_getElem ho]
      exact (hz _ (List.getElem_mem ho)).1
    refine ⟨o, zs.getD o 0, ss.getD o 0, b, off, hI.blk.cell 0, hI.blk.cell 1, hI.blk.cell 2, a0, a1, hbo, hc o ho, hp, ho, hz0, hpx, ?_⟩
    by_cases hlt : x - zs.getD o 0 < spanN ids (ss.getD o 0)
    · exact .inl ⟨decide_eq_true hlt, o, ho, rfl, hpx, hlt⟩
    · refine .inr ⟨decide_eq_false hlt, fun i hi h => ?_⟩
      exact hlt (srch_last hO hno hS hp hpk ho eo hi h).1.2
  cases f with
  | true =>
    obtain ⟨o, a, s, b, off, h⟩ := mk k (hS.hit.1 rfl).1 (.inl ⟨rfl, rfl⟩)
    exact .inr ⟨k, o, a, s, b, off, .inl ⟨rfl, rfl⟩, h⟩
  | false =>
    cases k with
    | zero => exact .inl ⟨rfl, rfl, .inr ⟨rfl, fun i hi => srch_none hO hS hi⟩⟩
    | succ p =>
      have := hS.le
      obtain ⟨o, a, s, b, off, h⟩ := mk p (by omega) (.inr ⟨rfl, rfl⟩)
      exact .inr ⟨p, o, a, s, b, off, .inr ⟨rfl, rfl⟩, h⟩

set_option maxRecDepth 100000 in
set_option maxHeartbeats 1600000 in
theorem find_any (X R : Nat) (bo : Option Addr) (n c2 : Nat) (ids : Bool) (d : Array (Int × Int)) (zs ss : List Int) (x : Int) (w : World) (hn : n ≤ 1048576) (hI : IxAt w X R bo n c2 ids d) (hO : IxOf zs d) (hb : UArg w bo n ss)
    (hl : zs.length = n) (hz : ∀ z ∈ zs, 0 ≤ z ∧ z < 18446744073709551616) (hx : x < 18446744073709551616) (hno : ¬ AnyOv zs ss ids) :
    Calls Tryf.prog 31 #[.pointer (some ⟨X, 0, none⟩), .int .u64 x] w fun e w' => ∃ got ok, e = .returned (.tuple #[.int .i64 got, .bool ok]) ∧ FindIs zs ss ids x got ok ∧ Keeps (fun _ => False) w w' := by
  have x2 := hI.blk.cell 2
  simp at x2
  have hso : ∀ i j, i < j → j < n → (d[i]!).1 ≤ (d[j]!).1 := fun i j h1 h2 => hO.sorted i j h1 (by omega)
  have hbs := bs_any R n n d x w hI.row hI.lt hI.size hn hso
  have HB : Hid (Calls Tryf.prog 38 #[.slice (some ⟨R, 0, none⟩) n n, .int .u64 x, .func (.func 39) #[] #[]] w fun e w' => ∃ k f, e = .returned (.tuple #[.int .i64 (k : Nat), .bool f]) ∧
      ((f = false ∧ k = 0 ∧ FindIs zs ss ids x 0 false) ∨ ∃ (p o : Nat) (a s : Int) (b off : Nat), ((f = true ∧ k = p) ∨ (f = false ∧ k = p + 1)) ∧ Ent w' X R bo n c2 zs ss ids x p o a s b off) ∧ Keeps (fun _ => False) w w') := by
    refine hbs.mono ?_
    rintro e w' ⟨k, f, rfl, hS, hk⟩
    exact ⟨k, f, rfl, find_split (hI.keep hk (fun _ _ => id)) hO (hb.keep hk (fun _ _ => id)) hl hz hno hS, hk⟩
  clear hso hbs hI hO hb hno hz hl
  go_enter Tryf.func31, Tryf.ntmps31
  go_wp2_with (go_at_call 38; refine HB.out.mono ?_; rintro e w1 ⟨k, f, rfl, ⟨rfl, rfl, hF⟩ | ⟨p, o, a, s, b, off, ⟨rfl, rfl⟩ | ⟨rfl, rfl⟩, ⟨y0, y1, y2, c0, c1, rfl, cs, hp, ho, ha0, hax, hF⟩⟩, hk1⟩)
  · refine bodyPost_ret (results_tmp2 rfl _ _ _) rfl ?_
    exact ⟨0, false, rfl, hF, hk1⟩
  all_goals
    have hB := Blk.new w1 83 #[.int .u64 a, .int .i64 o]
    have hk2 := (Keeps.refl (fun _ => False) w1).alloc (.cells #[.int .u64 a, .int .i64 o] 83)
    generalize w1.alloc (.cells #[.int .u64 a, .int .i64 o] 83) = W2 at hB hk2 ⊢
    have z0 := hB.cell 0
    have z1 := hB.cell 1
    simp at z0 z1
    have v0 := hk2.cell y0 id
    have v1 := hk2.cell y1 id
    have vs := hk2.cell cs id
    clear y0 y1 y2 c0 c1 cs
    have HS : Hid (∀ W, Calls Tryf.prog 36 #[.bool ids, .int .u64 s] W fun e w' => e = .returned (.int .u64 (spanN ids s)) ∧ w' = W) := span36_any ids s
    have HF := hid hF
    clear hF
    generalize spanN ids s = sp at HS HF
    have HT : Hid (∀ W, Calls Tryf.prog 40 #[.int .u64 a, .int .u64 sp, .int .u64 x] W fun e w' => e = .returned (.bool (decide (x - a < sp))) ∧ w' = W) := fun W => contains_any a sp x W hax ha0 hx
    generalize decide (x - a < sp) = ok at HT HF
    go_quiet (first | (go_at_call 36; refine (HS.out _).mono ?_; rintro e w' ⟨rfl, rfl⟩; exact ⟨rfl, _, rfl⟩) | (go_at_call 40; refine (HT.out _).mono ?_; rintro e w' ⟨rfl, rfl⟩; exact ⟨rfl, _, rfl⟩))
    go_wp2
    refine bodyPost_ret (results_tmp2 rfl _ _ _) rfl ?_
    exact ⟨o, ok, rfl, HF.out, keeps_drewN (hk1.trans hk2) _⟩

set_option maxHeartbeats 800000 in
theorem zz26_any (X R : Nat) (bo : Option Addr) (n c2 : Nat) (ids : Bool) (d : Array (Int × Int)) (zs ss : List Int) (x : Int) (w : World) (hn : n ≤ 1048576) (hI : IxAt w X R bo n c2 ids d) (hO : IxOf zs d) (hb : UArg w bo n ss)
    (hl : zs.length = n) (hz : ∀ z ∈ zs, 0 ≤ z ∧ z < 18446744073709551616) (hx : x < 18446744073709551616) (hno : ¬ AnyOv zs ss ids) :
    Calls Tryf.prog 26 #[.pointer (some ⟨X, 0, none⟩), .int .u64 x] w fun e w' => ∃ got ok, e = .returned (.tuple #[.int .i64 got, .bool ok]) ∧ FindIs zs ss ids x got ok ∧ Keeps (fun _ => False) w w' := by
  have HC := hid (find_any X R bo n c2 ids d zs ss x w hn hI hO hb hl hz hx hno)
  clear hI hO hb hl hz hx hno
  go_enter Tryf.func26, Tryf.ntmps26
  go_wp2_with (go_at_call 31; refine HC.out.mono ?_; rintro e w' ⟨got, ok, rfl, h1, h2⟩)
  refine bodyPost_ret (results_tmp2 rfl _ _ _) rfl ?_
  exact ⟨got, ok, rfl, h1, h2⟩
end Go.Proofs.Qxb6609217aFmt
