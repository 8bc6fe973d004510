import Derived.Test.Qxb6609217aFmtKeepA
namespace Go.Proofs.Qxb6609217aFmt

/-- The texts of the roots l, each once, by first appearance. -/
def tsOf (l : List RIn) : List ByteArray := l.foldl (fun ts r => addT ts r.text) []
theorem tsOf_snoc (l : List RIn) (r : RIn) : tsOf (l ++ [r]) = addT (tsOf l) r.text := by simp [tsOf]

theorem addT_prefix (ts : List ByteArray) (s : ByteArray) : ∃ q, addT ts s = ts ++ q := by
  unfold addT
  split
  · exact ⟨[], by simp⟩
  · exact ⟨[s], rfl⟩
theorem fold_prefix (m : List RIn) : ∀ ts : List ByteArray, ∃ q, m.foldl (fun ts r => addT ts r.text) ts = ts ++ q := by
  induction m with
  | nil => intro ts; exact ⟨[], by simp⟩
  | cons r m ih =>
    intro ts
    obtain ⟨q1, h1⟩ := addT_prefix ts r.text
    obtain ⟨q2, h2⟩ := ih (addT ts r.text)
    exact ⟨q1 ++ q2, by simp only [List.foldl_cons]; rw [h2, h1, List.append_assoc]⟩
theorem tsOf_prefix (l m : List RIn) : ∃ q, tsOf (l ++ m) = tsOf l ++ q := by
  obtain ⟨q, h⟩ := fold_prefix m (tsOf l)
  exact ⟨q, by rw [← h]; simp [tsOf]⟩

theorem mem_addT (ts : List ByteArray) (s t : ByteArray) : by' t ∈ (addT ts s).map by' ↔ by' t ∈ ts.map by' ∨ by' t = by' s := by
  unfold addT
  split
  · rename_i h
    exact ⟨.inl, fun h' => h'.elim id (fun e => e ▸ h)⟩
  · simp

theorem mem_fold (m : List RIn) (t : ByteArray) : ∀ ts : List ByteArray, by' t ∈ (m.foldl (fun ts r => addT ts r.text) ts).map by' ↔ by' t ∈ ts.map by' ∨ ∃ r ∈ m, by' r.text = by' t := by
  induction m with
  | nil => intro ts; simp
  | cons r m ih =>
    intro ts
    simp only [List.foldl_cons]
    rw [ih, mem_addT, or_assoc]
    refine or_congr Iff.rfl ⟨?_, ?_⟩
    · rintro (h | ⟨r', h1, h2⟩)
      · exact ⟨r, by simp, h.symm⟩
      · exact ⟨r', by simp [h1], h2⟩
    · rintro ⟨r', h1, h2⟩
      rcases List.mem_cons.1 h1 with rfl | h1
      · exact .inl h2.symm
      · exact .inr ⟨r', h1, h2⟩
theorem mem_tsOf (l : List RIn) (t : ByteArray) : by' t ∈ (tsOf l).map by' ↔ ∃ r ∈ l, by' r.text = by' t := by
  have := mem_fold l t []
  simpa [tsOf] using this

theorem numT_append {ts q : List ByteArray} {s : ByteArray} (h : by' s ∈ ts.map by') : numT (ts ++ q) s = numT ts s := by
  unfold numT
  rw [List.map_append, List.idxOf_append, if_pos h]
theorem numT_new {ts : List ByteArray} {s : ByteArray} (h : by' s ∉ ts.map by') : numT ts s = ts.length := by
  unfold numT; rw [List.idxOf_eq_length h]; simp
theorem addT_new {ts : List ByteArray} {s : ByteArray} (h : by' s ∉ ts.map by') : addT ts s = ts ++ [s] := by unfold addT; rw [if_neg h]
theorem addT_old {ts : List ByteArray} {s : ByteArray} (h : by' s ∈ ts.map by') : addT ts s = ts := by unfold addT; rw [if_pos h]
theorem numT_addT (ts : List ByteArray) (s : ByteArray) : numT (addT ts s) s = numT ts s := by
  by_cases h : by' s ∈ ts.map by'
  · rw [addT_old h]
  · rw [addT_new h, numT_new h]
    unfold numT
    rw [List.map_append, List.idxOf_append, if_neg h]
    simp
theorem get_numT {ts : List ByteArray} {s : ByteArray} (h : by' s ∈ ts.map by') : ts[numT ts s]? = some s := by
  have hlt : numT ts s < ts.length := by
    have := List.idxOf_lt_length_of_mem h
    simpa [numT] using this
  have : (ts.map by')[numT ts s]? = some (by' s) := by
    have h' := List.getElem_idxOf (xs := ts.map by') (x := by' s) (List.idxOf_lt_length_of_mem h)
    rw [List.getElem?_eq_getElem (by simpa using hlt)]
    exact congrArg some h'
  rw [List.getElem?_map, List.getElem?_eq_getElem hlt] at this
  rw [List.getElem?_eq_getElem hlt]
  simp only [Option.map_some, Option.some.injEq] at this
  rw [by_inj this]

/-- What is kept of root i of rs: its text by its number among those so far. -/
def krAt (rs : List RIn) (i : Nat) : KR :=
  let r := rs.getD i RIn.zero
  ⟨r.addr, r.n0, r.n1, numT (tsOf (rs.take i)) r.text, r.kind⟩
def krTo (rs : List RIn) (k : Nat) : List KR := (List.range k).map (krAt rs)
theorem krTo_length (rs : List RIn) (k : Nat) : (krTo rs k).length = k := by simp [krTo]
theorem krTo_succ (rs : List RIn) (k : Nat) : krTo rs (k + 1) = krTo rs k ++ [krAt rs k] := by simp [krTo, List.range_succ]
theorem take_succ_getD (rs : List RIn) (k : Nat) (h : k < rs.length) : rs.take (k + 1) = rs.take k ++ [rs.getD k RIn.zero] := by
  rw [List.take_succ_eq_append_getElem h]; simp [List.getD, h]
theorem tsOf_take (rs : List RIn) (k : Nat) (h : k < rs.length) : tsOf (rs.take (k + 1)) = addT (tsOf (rs.take k)) (rs.getD k RIn.zero).text := by
  rw [take_succ_getD rs k h, tsOf_snoc]
theorem length_addT_le (ts : List ByteArray) (s : ByteArray) : (addT ts s).length ≤ ts.length + 1 := by
  unfold addT; split <;> simp
theorem tsOf_le (l : List RIn) : (tsOf l).length ≤ l.length := by
  have : ∀ (m : List RIn) (ts : List ByteArray), (m.foldl (fun ts r => addT ts r.text) ts).length ≤ ts.length + m.length := by
    intro m
    induction m with
    | nil => intro ts; simp
    | cons r m ih =>
      intro ts
      have h1 := ih (addT ts r.text)
      have h2 := length_addT_le ts r.text
      simp only [List.foldl_cons, List.length_cons]
      omega
  simpa [tsOf] using this l []

/-- The number that the law wants of root i. -/
def wantAt (rs : List RIn) (i : Nat) : Nat := (krAt rs i).text

theorem take_add (rs : List RIn) {i k : Nat} (h : i ≤ k) : ∃ m, rs.take k = rs.take i ++ m := ⟨(rs.take k).drop i, by rw [show rs.take i = (rs.take k).take i by rw [List.take_take, Nat.min_eq_left h], List.take_append_drop]⟩

theorem mem_at (rs : List RIn) {i k : Nat} (h : i < k) (hk : k ≤ rs.length) : by' (rs.getD i RIn.zero).text ∈ (tsOf (rs.take k)).map by' := by
  rw [mem_tsOf]
  refine ⟨rs.getD i RIn.zero, ?_, rfl⟩
  have : (rs.take k)[i]? = some (rs.getD i RIn.zero) := by
    rw [List.getElem?_take_of_lt h, List.getElem?_eq_getElem (by omega)]
    simp [List.getD, show i < rs.length by omega]
  exact List.mem_of_getElem? this

/-- A later state of the texts numbers root i's text as it was numbered. -/
theorem numT_later (rs : List RIn) {i k : Nat} (h : i < k) (hk : k ≤ rs.length) : numT (tsOf (rs.take k)) (rs.getD i RIn.zero).text = wantAt rs i := by
  obtain ⟨m, hm⟩ := take_add rs (show i + 1 ≤ k by omega)
  obtain ⟨q, hq⟩ := tsOf_prefix (rs.take (i + 1)) m
  rw [hm, hq, numT_append (mem_at rs (Nat.lt_succ_self i) (by omega)), tsOf_take rs i (by omega), numT_addT]
  rfl

theorem want_same (rs : List RIn) {i j : Nat} (h : j < i) (hi : i < rs.length) (e : (rs.getD j RIn.zero).text = (rs.getD i RIn.zero).text) : wantAt rs i = wantAt rs j := by
  have := numT_later rs h (Nat.le_of_lt hi)
  rw [e] at this
  exact this

theorem want_new (rs : List RIn) {i : Nat} (hi : i < rs.length) (h : ∀ j, j < i → (rs.getD j RIn.zero).text ≠ (rs.getD i RIn.zero).text) :
    wantAt rs i = (tsOf (rs.take i)).length ∧ tsOf (rs.take (i + 1)) = tsOf (rs.take i) ++ [(rs.getD i RIn.zero).text] := by
  have hn : by' (rs.getD i RIn.zero).text ∉ (tsOf (rs.take i)).map by' := by
    rw [mem_tsOf]
    rintro ⟨r, hr, he⟩
    obtain ⟨j, hj⟩ := List.mem_iff_getElem?.1 hr
    have hlt : j < i := by
      have := (List.getElem?_eq_some_iff.1 hj).1
      simp at this; omega
    rw [List.getElem?_take_of_lt hlt] at hj
    refine h j hlt ?_
    have : rs.getD j RIn.zero = r := by simp [List.getD, hj]
    rw [this]; exact by_inj he
  exact ⟨numT_new hn, by rw [tsOf_take rs i hi, addT_new hn]⟩

theorem want_old (rs : List RIn) {i j : Nat} (h : j < i) (hi : i < rs.length) (e : (rs.getD j RIn.zero).text = (rs.getD i RIn.zero).text) : tsOf (rs.take (i + 1)) = tsOf (rs.take i) := by
  rw [tsOf_take rs i hi, addT_old]
  rw [← e]
  exact mem_at rs h (Nat.le_of_lt hi)

theorem want_lt (rs : List RIn) {i : Nat} (hi : i < rs.length) : wantAt rs i < (tsOf rs).length := by
  have h1 := numT_later rs hi (Nat.le_refl _)
  rw [List.take_length] at h1
  rw [← h1]
  have := List.idxOf_lt_length_of_mem (mem_at rs hi (Nat.le_refl _))
  rw [List.take_length] at this
  simpa [numT] using this
theorem want_text (rs : List RIn) {i : Nat} (hi : i < rs.length) : (tsOf rs)[wantAt rs i]? = some (rs.getD i RIn.zero).text := by
  have h1 := numT_later rs hi (Nat.le_refl _)
  have h2 := mem_at rs hi (Nat.le_refl _)
  rw [List.take_length] at h1 h2
  rw [← h1]
  exact get_numT h2
end Go.Proofs.Qxb6609217aFmt
