import Derived.Test.Qxb6609217aFmtIxG
import Derived.Test.Qxb6609217aFmtOpen
import Derived.Test.Qxb6609217aFmtCommon
import Derived.ShutString
import Derived.ChangeOld
import Derived.Carry
import Derived.JoinedOf
import Derived.Stop.JoinedAt
import Derived.Stop.JoinedTold
import Derived.SevenToldRow
namespace Go.Proofs.Qxb6609217aFmt
open Go.ChangeShapes Go.WideShapes Go.ChangeAt Go.RowKit Go.Kit
open Go.Extern.Stop Go.Stop Go.Extern
set_option linter.unusedVariables false

theorem u64_range {z : Int} (h : (Lit.int .u64 z).wf = true) : 0 ≤ z ∧ z < 18446744073709551616 := by
  have e1 : IntKind.u64.min = 0 := by decide
  have e2 : IntKind.u64.max = 18446744073709551615 := by decide
  simp [Lit.wf] at h
  omega

theorem uArg_open {H : Type} {enc : TypeId × Value → H} {W : World} {base : Nat} {sp : Nat → Bool} {held : Bool} {ao : Option Addr} {len cap : Nat} {d : DataW H} {p : List MemPlace}
    (h : DataW.Trod enc Tryf.prog W base sp held 32 (.slice ao len cap) d p) : ∃ zs, len ≤ maxLen ∧ UArg W ao len zs := by
  obtain ⟨fuel, hf⟩ := h
  rcases open_ints Tryf.underlying32 Tryf.underlying27 (by kernel_rfl) hf with ⟨hcs, _⟩ | ⟨a, l, c, zs, hcs, _, hl, hm, hz, _, hcell, hws⟩
  · simp [Value.cells] at hcs
    obtain ⟨rfl, rfl, rfl⟩ := hcs
    exact ⟨[], Nat.zero_le _, rfl, (fun z hz => by simp at hz), fun h => by omega⟩
  · simp [Value.cells] at hcs
    obtain ⟨rfl, rfl, rfl⟩ := hcs
    have hlz : len ≤ zs.length := by rw [hz]; split <;> omega
    refine ⟨zs.take len, by omega, by simp; omega, fun z h => u64_range (hws z (List.mem_of_mem_take h)), fun h0 => ?_⟩
    obtain ⟨b, off, spot⟩ := a
    have h := hcell 0 (by omega)
    have hs : spot = none := by simpa [Addr.add] using World.cell?_spot h
    subst hs
    refine ⟨b, off, rfl, World.block_lt_of_cell? W _ h, fun i hi => ?_⟩
    have := hcell i (by omega)
    rw [show (⟨b, off, none⟩ : Addr).add i = ⟨b, off + i, none⟩ by simp [Addr.add]] at this
    rw [this]
    simp [List.getD, hi]

set_option maxRecDepth 100000 in
theorem lifted5 (os : Os) (started : os.Started) (H : Type) (enc : TypeId × Value → H) :
    ReturnsInTold none {} Tryf.checked os 5 .any Input.okWide ((OpenSpec.ofChange Rows.fnNewAddrIndexSortsAndTellsOverlapSpec).preRow enc Tryf.prog Tryf.f5 [] false []) (fun F => ((OpenSpec.ofChange Rows.fnNewAddrIndexSortsAndTellsOverlapSpec).at F).post enc Tryf.prog Tryf.f5 false true false false) (aloneAtReturn Tryf.prog) nothingAlways := by
  refine returnsInTold_of_row (C := Tryf.checked) (s := OpenSpec.ofChange Rows.fnNewAddrIndexSortsAndTellsOverlapSpec) (by kernel_rfl) fOwn started (by kernel_rfl) Tryf.func5
    (OpenSpec.witness_stopped (enc := enc) (C := Tryf.checked) false ⟨#[], #[.slice none 0 0, .slice none 0 0, .bool false], []⟩ 8 (by kernel_rfl) (by kernel_rfl) (by kernel_rfl) (by kernel_rfl)) ?_
  intro F W base args ds gs before _ hF hval0 hW _ _ hsz _ _
  have hval : ∀ (j : Nat) t v, Tryf.f5.params[j]? = some t → args[j]? = some v → Value.okWide Tryf.prog W .any base t v := hval0
  have hW' := hW
  obtain ⟨p, q, hA0, hV, rfl, _, _⟩ := hW
  have hA : DataW.TrodAll enc Tryf.prog W 0 (fun _ => true) true Tryf.f5.params.toList args.toList ds p := hA0
  rw [Tryf.params5] at hA hval
  obtain ⟨v0, vs0, d0, ds0, p0, q0, hargs, rfl, rfl, h0, r0⟩ := trodAll_cons hA
  obtain ⟨v1, vs1, d1, ds1, p1, q1, rfl, rfl, rfl, h1, r1⟩ := trodAll_cons r0
  obtain ⟨v2, vs2, d2, ds2, p2, q2, rfl, rfl, rfl, h2, r2⟩ := trodAll_cons r1
  obtain ⟨rfl, rfl, rfl⟩ := trodAll_nil r2
  obtain rfl : args = #[v0, v1, v2] := by cases args; simp_all
  obtain ⟨rfl, rfl⟩ := trodVars_none hV
  obtain ⟨ao, len, cap, rfl⟩ := okWide_slice Tryf.underlying32 (hval 0 32 v0 rfl rfl)
  obtain ⟨bo, len1, cap1, rfl⟩ := okWide_slice Tryf.underlying32 (hval 1 32 v1 rfl rfl)
  obtain ⟨ids, rfl, rfl, rfl⟩ := open_bool Tryf.underlying4 (hval 2 4 v2 rfl rfl) h2
  have lt0 : ∀ x ∈ p0, x.block < W.heap.size := by obtain ⟨m, hm⟩ := h0; exact DataW.trod_lt m _ _ _ hm
  have lt1 : ∀ x ∈ p1, x.block < W.heap.size := by obtain ⟨m, hm⟩ := h1; exact DataW.trod_lt m _ _ _ hm
  obtain ⟨zs, hlen, w1⟩ := uArg_open h0
  obtain ⟨ss, hlen1, w2⟩ := uArg_open h1
  clear hA0 hval0
  refine (law5_any ao bo len len1 cap cap1 zs ss ids W hlen hlen1 w1 w2).mono fun e W' ⟨he, hk⟩ => ?_
  have bel : Below W.heap.size W W' := hk.below (Nat.le_refl _) (fun _ h => h.elim)
  obtain rfl : e = .returned (.bool true) := he
  exact ⟨_, rfl, _, _, _, [], _, [], hW', trodAll_mk1 (shut_bool Tryf.underlying4 _), (trodAll_cons_mk (Below.trod fLaidOut (by kernel_rfl) (of_decide_eq_true (by kernel_rfl)) h0 bel lt0) (trodAll_cons_mk (Below.trod fLaidOut (by kernel_rfl) (of_decide_eq_true (by kernel_rfl)) h1 bel lt1) (trodAll_cons_mk (shut_bool Tryf.underlying4 _) trodAll_mk0))), rfl, bel.frame _, fun h => by cases h⟩

theorem provedSorts : Rows.FnNewAddrIndexSortsAndTellsOverlapToldSaid :=
  Claim7.holds_of_told_any 5 Tryf.f5 "fmt.Sprintf" ["fmt.errorf"] [] _ _ _ (by kernel_rfl) rfl rfl rfl fLaidOut (by kernel_rfl) rfl ⟨rfl, rfl, rfl, rfl, rfl, rfl, rfl⟩ rfl rfl (by kernel_rfl) (by kernel_rfl) Tryf.func5 (by kernel_rfl)
    (of_decide_eq_true (by kernel_rfl)) (by unfold Func.isWrapper; first | (rw [if_pos (by decide +kernel)]; kernel_rfl) | (rw [if_neg (by decide +kernel)]; exact ⟨rfl, rfl⟩)) fStops.symm rfl fStopKnobs.symm (by kernel_rfl)
    (by kernel_rfl) (by kernel_rfl) (by kernel_rfl) (by kernel_rfl) (by kernel_rfl) (by kernel_rfl) (by kernel_rfl) (by kernel_rfl) (by kernel_rfl) rfl (by kernel_rfl) rfl rfl
    rfl rfl
    rfl (by kernel_rfl) (by kernel_rfl) (by kernel_rfl) (by decide) (by kernel_rfl)
    (OpenClaim.moreEntering_of (by kernel_rfl) (by kernel_rfl) (by kernel_rfl) (by kernel_rfl) (by kernel_rfl) (by kernel_rfl) (by kernel_rfl) (by kernel_rfl) (by kernel_rfl) (by kernel_rfl))
    ⟨_, WideRow.started_initial, fQuiet _⟩
    (fun os started _ H enc _ => lifted5 os started H enc)
end Go.Proofs.Qxb6609217aFmt
