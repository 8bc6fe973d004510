import Derived.Test.Qxb6609217aFmtRows
import Derived.Test.Qxb6609217aFmtKit
import Derived.WalkSpells
import Derived.WalkLawsBesides
import Derived.Deep.QuietTactic
import Derived.BigQuiet
import Derived.Lib.SliceRun
import Derived.Laws.MakeOwn
namespace Go.Proofs.Qxb6609217aFmt
open Go.RowKit

def AnyB (e : Ending) : Prop := ∃ b, e = .returned (.bool b)

/-- What a walk is told of a slice of uint64: its first 'n' cells. -/
def UArg (w : World) (ao : Option Addr) (n : Nat) (zs : List Int) : Prop :=
  zs.length = n ∧ (∀ z ∈ zs, 0 ≤ z ∧ z < 18446744073709551616) ∧ (0 < n → ∃ b off, ao = some ⟨b, off, none⟩ ∧ b < w.heap.size ∧
    ∀ i, i < n → w.cell? ⟨b, off + i, none⟩ = some (.int .u64 (zs.getD i 0)))

theorem UArg.below {w w' : World} {ao : Option Addr} {n : Nat} {zs : List Int} (h : UArg w ao n zs) (hb : Below w.heap.size w w') : UArg w' ao n zs :=
  ⟨h.1, h.2.1, fun h0 => by
    obtain ⟨b, off, e, hlt, hc⟩ := h.2.2 h0
    exact ⟨b, off, e, Nat.lt_of_lt_of_le hlt hb.size, fun i hi => (hb.cell (p := ⟨b, off + i, none⟩) hlt).trans (hc i hi)⟩⟩

theorem UArg.range {w : World} {ao : Option Addr} {n : Nat} {zs : List Int} (h : UArg w ao n zs) (i : Nat) : 0 ≤ zs.getD i 0 ∧ zs.getD i 0 < 18446744073709551616 := by
  rw [List.getD_eq_getElem?_getD]
  cases e : zs[i]? with
  | none => simp
  | some z => exact h.2.1 z (List.mem_of_getElem? e)

theorem zz17_any (ao bo : Option Addr) (n m c1 c2 : Nat) (ids : Bool) (w : World) (hn : n ≤ maxLen) (hm : m ≤ maxLen) :
    Calls Tryf.prog 17 #[.slice ao n c1, .slice bo m c2, .bool ids] w fun e w' => AnyB e ∧ w = w' := by
  unfold maxLen at hn hm
  by_cases h1 : 1048576 < n
  · go_enter Tryf.func17, Tryf.ntmps17
    go_wp2
    go_ret
    exact ⟨⟨_, rfl⟩, rfl⟩
  by_cases h2 : 1048576 < m
  · go_enter Tryf.func17, Tryf.ntmps17
    go_wp2
    go_ret
    exact ⟨⟨_, rfl⟩, rfl⟩
  by_cases h3 : 1048576 < n + m
  · go_enter Tryf.func17, Tryf.ntmps17
    go_wp2
    go_ret
    exact ⟨⟨_, rfl⟩, rfl⟩
  go_enter Tryf.func17, Tryf.ntmps17
  go_wp2
  go_ret
  exact ⟨⟨_, rfl⟩, rfl⟩

theorem zz24_any (ao bo qo : Option Addr) (n m k c1 c2 c3 : Nat) (ids : Bool) (w : World) (hn : n ≤ maxLen) (hm : m ≤ maxLen) (hk : k ≤ maxLen) :
    Calls Tryf.prog 24 #[.slice ao n c1, .slice bo m c2, .bool ids, .slice qo k c3] w fun e w' => AnyB e ∧ w = w' := by
  unfold maxLen at hn hm hk
  by_cases h1 : 1048576 < n
  · go_enter Tryf.func24, Tryf.ntmps24
    go_wp2
    go_ret
    exact ⟨⟨_, rfl⟩, rfl⟩
  by_cases h2 : 1048576 < m
  · go_enter Tryf.func24, Tryf.ntmps24
    go_wp2
    go_ret
    exact ⟨⟨_, rfl⟩, rfl⟩
  by_cases h3 : 1048576 < n + m
  · go_enter Tryf.func24, Tryf.ntmps24
    go_wp2
    go_ret
    exact ⟨⟨_, rfl⟩, rfl⟩
  by_cases h4 : 1048576 < k
  · go_enter Tryf.func24, Tryf.ntmps24
    go_wp2
    go_ret
    exact ⟨⟨_, rfl⟩, rfl⟩
  by_cases h5 : 1048576 < n + m + k
  · go_enter Tryf.func24, Tryf.ntmps24
    go_wp2
    go_ret
    exact ⟨⟨_, rfl⟩, rfl⟩
  go_enter Tryf.func24, Tryf.ntmps24
  go_wp2
  go_ret
  exact ⟨⟨_, rfl⟩, rfl⟩

/-- How many addresses an object covers. -/
def spanN (ids : Bool) (s : Int) : Int := if ids then 1 else s
theorem span30_any (ids : Bool) (s : Int) (w : World) : Calls Tryf.prog 30 #[.bool ids, .int .u64 s] w fun e w' => e = .returned (.int .u64 (spanN ids s)) ∧ w' = w := by
  cases ids
  · go_enter Tryf.func30, Tryf.ntmps30
    go_wp2
    go_ret
    exact ⟨rfl, rfl⟩
  · go_enter Tryf.func30, Tryf.ntmps30
    go_wp2
    go_ret
    exact ⟨rfl, rfl⟩
theorem span36_any (ids : Bool) (s : Int) (w : World) : Calls Tryf.prog 36 #[.bool ids, .int .u64 s] w fun e w' => e = .returned (.int .u64 (spanN ids s)) ∧ w' = w := by
  cases ids
  · go_enter Tryf.func36, Tryf.ntmps36
    go_wp2
    go_ret
    exact ⟨rfl, rfl⟩
  · go_enter Tryf.func36, Tryf.ntmps36
    go_wp2
    go_ret
    exact ⟨rfl, rfl⟩

/-- Object i overlaps object j: one start, or j starts inside i. -/
def Ov (zs ss : List Int) (ids : Bool) (i j : Nat) : Prop :=
  i ≠ j ∧ (zs.getD i 0 = zs.getD j 0 ∨ (zs.getD i 0 < zs.getD j 0 ∧ zs.getD j 0 - zs.getD i 0 < spanN ids (ss.getD i 0)))
def AnyOv (zs ss : List Int) (ids : Bool) : Prop := ∃ i j, i < zs.length ∧ j < zs.length ∧ Ov zs ss ids i j

theorem wrap_u64_small {x : Int} (h0 : 0 ≤ x) (h1 : x < 18446744073709551616) : IntKind.u64.wrap x = x := by
  simp [IntKind.wrap, IntKind.bits, IntKind.signed]; omega

theorem drews (w : World) (q n : Nat) : ∃ r, (w.drewN q).drewN n = w.drewN r := ⟨q + n, by simp⟩

theorem drews3 (w : World) (q n m : Nat) : ∃ r, ((w.drewN q).drewN n).drewN m = w.drewN r := ⟨q + n + m, by simp⟩

/-- What 'anyOverlap' answers: whether some two overlap. -/
def Tells (p : Prop) (e : Ending) : Prop := ∃ b : Bool, e = .returned (.bool b) ∧ (b = true ↔ p)

set_option maxRecDepth 100000 in
set_option maxHeartbeats 1600000 in
theorem anyOv_any (ao bo : Option Addr) (n c1 c2 : Nat) (zs ss : List Int) (ids : Bool) (w : World) (hn : n ≤ 1048576) (ha : UArg w ao n zs) (hb : UArg w bo n ss) :
    Calls Tryf.prog 23 #[.slice ao n c1, .slice bo n c2, .bool ids] w fun e w' => Tells (AnyOv zs ss ids) e ∧ ∃ q, w' = w.drewN q := by
  have hzl := ha.1
  go_enter Tryf.func23, Tryf.ntmps23
  go_wp2
  go_loopw [7] (fun i' wr => ∃ i : Nat, i ≤ n ∧ i' = .int .i64 i ∧ Hid (∀ a, a < i → ∀ b, b < n → ¬ Ov zs ss ids a b) ∧ ∃ q, wr = w.drewN q) (fun i' _ => n - (intOf i').toNat)
  case atStart => exact ⟨0, Nat.zero_le _, rfl, fun a h => by omega, 0, rfl⟩
  case round =>
    obtain ⟨i, hi, rfl, Hno, q, rfl⟩ := hrel
    by_cases hlt : i < n
    · obtain ⟨b, off, rfl, hb1, hc⟩ := ha.2.2 (by omega)
      obtain ⟨b', off', rfl, hb2, hc'⟩ := hb.2.2 (by omega)
      have ci := hc i hlt
      have si := hc' i hlt
      have ri := ha.range i
      have HC := hid hc
      clear hc hc'
      go_wp2
      go_loopw [8] (fun j' wr => ∃ j : Nat, j ≤ n ∧ j' = .int .i64 j ∧ Hid (∀ b, b < j → ¬ Ov zs ss ids i b) ∧ ∃ q, wr = w.drewN q) (fun j' _ => n - (intOf j').toNat)
      case atStart => exact ⟨0, Nat.zero_le _, rfl, fun a h => by omega, q, rfl⟩
      case round =>
        obtain ⟨j, hj, rfl, Hno2, q2, rfl⟩ := hrel
        by_cases hltj : j < n
        · have cj := HC.out j hltj
          have rj := ha.range j
          by_cases hij : i = j
          · have hb0 : ((i : Int) == (j : Int)) = true := by simp [hij]
            have Hij := hid hij
            clear hij
            go_wp2
            go_roundw
            case rel => exact ⟨j + 1, by omega, by go_num, fun b hb' => by
              by_cases e : b = j
              · intro h; exact h.1 (by rw [Hij.out, e])
              · exact Hno2.out b (by omega), _, rfl⟩
            case measure => simp [intOf]; omega
          have hb0 : ((i : Int) == (j : Int)) = false := by simp; omega
          obtain ⟨zi, hzi⟩ : ∃ x, x = zs.getD i 0 := ⟨_, rfl⟩
          obtain ⟨zj, hzj⟩ : ∃ x, x = zs.getD j 0 := ⟨_, rfl⟩
          obtain ⟨sz, hsz⟩ : ∃ x, x = ss.getD i 0 := ⟨_, rfl⟩
          rw [← hzi] at ci ri
          rw [← hzj] at cj rj
          rw [← hsz] at si
          have HOv : Hid (Ov zs ss ids i j ↔ (zi = zj ∨ (zi < zj ∧ zj - zi < spanN ids sz))) := by
            show _ ↔ _
            rw [hzi, hzj, hsz]
            exact ⟨fun h => h.2, fun h => ⟨hij, h⟩⟩
          clear hzi hzj hsz
          by_cases he : zi = zj
          · have hb1 : (zi == zj) = true := by simp [he]
            have HT : Hid (AnyOv zs ss ids) := ⟨i, j, by omega, by omega, HOv.out.2 (.inl he)⟩
            clear he
            go_wp2_with fail
            go_quiet (fail)
            go_wp2
            go_ret
            exact ⟨⟨true, rfl, fun _ => HT.out, fun _ => rfl⟩, drews _ _ _⟩
          have hb1 : (zi == zj) = false := by simp [he]
          by_cases hl : zi < zj
          · have hb2 : decide (zi < zj) = true := by simp [hl]
            have hw := wrap_u64_small (x := zj - zi) (by omega) (by omega)
            by_cases hs : zj - zi < spanN ids sz
            · have hb3 : decide (zj - zi < spanN ids sz) = true := by simp [hs]
              have HT : Hid (AnyOv zs ss ids) := ⟨i, j, by omega, by omega, HOv.out.2 (.inr ⟨hl, hs⟩)⟩
              clear he
              have HS : Hid (∀ W, Calls Tryf.prog 30 #[.bool ids, .int .u64 sz] W fun e w' => e = .returned (.int .u64 (spanN ids sz)) ∧ w' = W) := span30_any ids sz
              generalize spanN ids sz = sp at hs hb3 HS
              clear HOv
              go_wp2_with fail
              go_quiet (fail)
              go_wp2_with fail
              go_quiet ((go_at_call 30; refine (HS.out _).mono ?_; rintro e w' ⟨rfl, rfl⟩; exact ⟨rfl, _, rfl⟩))
              go_wp2
              go_ret
              exact ⟨⟨true, rfl, fun _ => HT.out, fun _ => rfl⟩, by first | exact ⟨_, rfl⟩ | exact drews _ _ _ | exact drews3 _ _ _ _⟩
            · have hb3 : decide (zj - zi < spanN ids sz) = false := by simp; omega
              have HN : Hid (¬ Ov zs ss ids i j) := fun h => by
                rcases HOv.out.1 h with h | ⟨_, h⟩
                · exact he h
                · exact hs h
              clear he
              have HS : Hid (∀ W, Calls Tryf.prog 30 #[.bool ids, .int .u64 sz] W fun e w' => e = .returned (.int .u64 (spanN ids sz)) ∧ w' = W) := span30_any ids sz
              generalize spanN ids sz = sp at hs hb3 HS
              clear HOv
              go_wp2_with fail
              go_quiet (fail)
              go_wp2_with fail
              go_quiet ((go_at_call 30; refine (HS.out _).mono ?_; rintro e w' ⟨rfl, rfl⟩; exact ⟨rfl, _, rfl⟩))
              go_wp2
              go_roundw
              case rel => exact ⟨j + 1, by omega, by go_num, fun b hb' => by
                by_cases e : b = j
                · rw [e]; exact HN.out
                · exact Hno2.out b (by omega), by first | exact ⟨_, rfl⟩ | exact drews _ _ _ | exact drews3 _ _ _ _⟩
              case measure => simp [intOf]; omega
          · have hb2 : decide (zi < zj) = false := by simp [hl]
            have HN : Hid (¬ Ov zs ss ids i j) := fun h => by
              rcases HOv.out.1 h with h | ⟨h, _⟩
              · exact he h
              · exact hl h
            clear he HOv
            go_wp2_with fail
            go_quiet (fail)
            go_wp2_with fail
            go_quiet (fail)
            go_wp2
            go_roundw
            case rel => exact ⟨j + 1, by omega, by go_num, fun b hb' => by
              by_cases e : b = j
              · rw [e]; exact HN.out
              · exact Hno2.out b (by omega), _, rfl⟩
            case measure => simp [intOf]; omega
        · go_wp2
          go_roundw
          case rel => exact ⟨i + 1, by omega, by go_num, fun a ha' b hb' => by
            by_cases e : a = i
            · rw [e]; exact Hno2.out b (by omega)
            · exact Hno.out a (by omega) b hb', _, rfl⟩
          case measure => simp [intOf]; omega
    · go_wp2
      go_ret
      refine ⟨⟨false, rfl, (fun h => by cases h), (fun h => by obtain ⟨a, b, h1, h2, h3⟩ := h; exact absurd h3 (Hno.out a (by omega) b (by omega)))⟩, _, rfl⟩
end Go.Proofs.Qxb6609217aFmt
