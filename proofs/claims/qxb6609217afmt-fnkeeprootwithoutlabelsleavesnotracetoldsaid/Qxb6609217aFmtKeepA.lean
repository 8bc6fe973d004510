import Derived.Test.Qxb6609217aFmtWalkB
import Derived.Maps.OwnSet
namespace Go.Proofs.Qxb6609217aFmt
open Go.RowKit
open Go.Maps (Keyed IsMap)

/-- A text's bytes. -/
def by' (s : ByteArray) : List UInt8 := s.data.toList
theorem by_inj {a b : ByteArray} (h : by' a = by' b) : a = b := by
  cases a; cases b; simp only [by'] at h; congr; exact Array.ext' h

/-- The map D numbers the texts ks, each by its place. -/
def MapIs (D : DataW Unit) (ks : List (List UInt8)) : Prop :=
  ∀ s : List UInt8, Maps.has D (.string s) = decide (s ∈ ks) ∧ (s ∈ ks → D.atKey (.string s) (.lit (.int .u32 0)) = .lit (.int .u32 (ks.idxOf s : Nat)))

theorem mapIs_empty : MapIs (.map []) [] := fun s => ⟨by simp [Maps.has], fun h => by simp at h⟩

theorem MapIs.put {D : DataW Unit} {ks : List (List UInt8)} (h : MapIs D ks) (hD : IsMap D) {s : List UInt8} (hs : s ∉ ks) : MapIs (D.put (.string s) (.lit (.int .u32 (ks.length : Nat)))) (ks ++ [s]) := by
  intro t
  by_cases ht : t = s
  · subst ht
    refine ⟨by rw [Maps.has_put_same (k := .string t) hD trivial]; simp, fun _ => ?_⟩
    rw [Maps.atKey_put_same (k := .string t) hD trivial, List.idxOf_append, if_neg hs]
    simp
  · have hne : Lit.string t ≠ Lit.string s := fun e => ht (by injection e)
    refine ⟨?_, fun hm => ?_⟩
    · rw [Maps.has_put_other hne, (h t).1]
      simp [ht]
    · have hm' : t ∈ ks := by simpa [ht] using hm
      rw [Maps.atKey_put_other hne, (h t).2 hm', List.idxOf_append, if_pos hm']

theorem wf_u32 {n : Int} (h0 : 0 ≤ n) (h : n < 4294967296) : (Lit.int .u32 n).wf = true := by
  have e1 : IntKind.u32.min = 0 := by decide
  have e2 : IntKind.u32.max = 4294967295 := by decide
  simp only [Lit.wf, e1, e2, Bool.and_eq_true, decide_eq_true_eq]
  omega

theorem wrap_u32 (x : Int) : IntKind.u32.wrap x = x % 4294967296 := by
  simp [IntKind.wrap, IntKind.bits, IntKind.signed]

/-- What a kept root holds. -/
structure KR where
  addr : Int
  n0 : Int
  n1 : Int
  text : Nat
  kind : Int
def KR.cells (r : KR) : List Value := [.int .u64 r.addr, .int .u64 r.n0, .int .u64 r.n1, .int .u32 r.text, .int .u32 r.kind]

/-- The map of texts in field 'texts': nil and nothing kept, or a map that numbers them. -/
def IsTM (w : World) (B : Nat) (v : Value) (ks : List (List UInt8)) : Prop :=
  (v = .map none ∧ ks = []) ∨ ∃ m n D, v = .map (some m) ∧ B < m ∧ n ≤ ks.length ∧ w.ownsMap (H := Unit) Tryf.prog 9 (plainElem Tryf.prog 57) m n D ∧ MapIs D ks

theorem IsTM.alloc {w : World} {B : Nat} {v : Value} {ks : List (List UInt8)} (h : IsTM w B v ks) (o : Obj) : IsTM (w.alloc o) B v ks := by
  rcases h with h | ⟨m, n, D, h1, h2, h3, h4, h5⟩
  · exact .inl h
  · exact .inr ⟨m, n, D, h1, h2, h3, h4.alloc o, h5⟩

/-- The Builder in block B: nk kinds, the texts ts, the roots rs kept. -/
def KB (w : World) (B : Nat) (o i l : Bool) (nk : Nat) (ts : List ByteArray) (rs : List KR) : Prop :=
  ∃ v5 v7 a12 c12 v13 v14 v26, IsSl v5 ∧ Blk w B 47 (bcs o i l v5 v7 (.slice a12 nk c12) v13 v14 v26) ∧
    w.ownsRow (B + 1) 78 5 v13 rs.length (rs.flatMap KR.cells) ∧ w.ownsRow (B + 1) 9 1 v14 ts.length (ts.map Value.string) ∧
    (v13.ownBlock = none ∨ v13.ownBlock ≠ v14.ownBlock) ∧ IsTM w B v26 (ts.map by')

/-- The texts behind a root with text s, and the number that s then has. -/
def addT (ts : List ByteArray) (s : ByteArray) : List ByteArray := if by' s ∈ ts.map by' then ts else ts ++ [s]
def numT (ts : List ByteArray) (s : ByteArray) : Nat := (ts.map by').idxOf (by' s)

def hasT (ts : List ByteArray) (s : ByteArray) : Bool := decide (by' s ∈ ts.map by')

theorem numT_lt (ts : List ByteArray) (s : ByteArray) : numT ts s < (addT ts s).length := by
  unfold numT addT
  split
  · rename_i h
    have := List.idxOf_lt_length_of_mem h
    simpa using this
  · rename_i h
    have := List.idxOf_eq_length h
    rw [this]; simp
theorem numT_le (ts : List ByteArray) (s : ByteArray) : numT ts s ≤ ts.length := by
  have := List.idxOf_le_length (l := ts.map by') (a := by' s)
  simpa [numT] using this

theorem law9 : Keyed Tryf.prog 9 := Maps.string_keyed Tryf.underlying9
theorem zero57 (w : World) : (zeroValue 57).run Tryf.prog w = .ok (.int .u32 0) w := by kernel_rfl
theorem Tryf.info78 : (Tryf.prog.info? 78).map (fun i => (i.zero, i.size, i.bytes)) = some (some (.agg #[.int .u64 0, .int .u64 0, .int .u64 0, .int .u32 0, .int .u32 0]), 5, 32) := by kernel_rfl
theorem Tryf.info9 : (Tryf.prog.info? 9).map (fun i => (i.zero, i.size, i.bytes)) = some (some (.string ByteArray.empty), 1, 16) := by kernel_rfl

theorem lit32_inj {a b : Int} (h : (DataW.lit (.int .u32 a) : DataW Unit) = .lit (.int .u32 b)) : a = b := by simpa using h

/-- The look-up of a text that is numbered. -/
theorem look_any {w : World} {B : Nat} {v : Value} {ks : List (List UInt8)} (h : IsTM w B v ks) (s : ByteArray) (hs : s.size ≤ maxLen) :
    ∃ c : Int, (∀ w' : World, w'.heap = w.heap → (Instr.lookup 45 v (.string s) true).run Tryf.prog w' = .ok (.tuple #[.int .u32 c, .bool (decide (by' s ∈ ks))]) w') ∧ (by' s ∈ ks → c = (ks.idxOf (by' s) : Nat)) := by
  have hkey := WideMaps.keyOf_string_mk (P := Tryf.prog) Tryf.underlying9 hs
  rcases h with ⟨rfl, rfl⟩ | ⟨m, n, D, rfl, _, _, hown, hM⟩
  · refine ⟨0, fun w' _ => ?_, fun h => by simp at h⟩
    have := Maps.look_nil (w := w') (t := 45) (e := 57) true law9 Tryf.underlying45 (zero57 w') hkey
    simpa using this
  · have hM' := hM (by' s)
    have key : ∀ w' : World, w'.heap = w.heap → ∃ c : Int, (Instr.lookup 45 (.map (some m)) (.string s) true).run Tryf.prog w' = .ok (.tuple #[.int .u32 c, .bool (decide (by' s ∈ ks))]) w' ∧ D.atKey (.string (by' s)) (.lit (.int .u32 0)) = .lit (.int .u32 c) := by
      intro w' hw'
      have hown' : w'.ownsMap (H := Unit) Tryf.prog 9 (plainElem Tryf.prog 57) m n D := by
        obtain ⟨es, cl, hb, r⟩ := hown
        exact ⟨es, cl, by rw [hw']; exact hb, r⟩
      obtain ⟨v, ps, hrun, hv⟩ := hown'.look_ok law9 Tryf.underlying45 (zero57 w') (plainElem_int Tryf.underlying57 (by decide)) hkey
      obtain ⟨c, rfl, hc, _⟩ := plainElem_int_inv Tryf.underlying57 hv
      refine ⟨c, ?_, (congrArg Prod.fst hc)⟩
      rw [hrun]
      have := hM'.1
      simp only [by'] at this ⊢
      rw [this]
    obtain ⟨c, _, hc⟩ := key w rfl
    refine ⟨c, fun w' hw' => ?_, fun hm => ?_⟩
    · obtain ⟨c', h1, h2⟩ := key w' hw'
      rw [hc] at h2
      have : c' = c := (lit32_inj h2).symm
      rw [← this]; exact h1
    · rw [hM'.2 hm] at hc
      exact (lit32_inj hc).symm
end Go.Proofs.Qxb6609217aFmt
