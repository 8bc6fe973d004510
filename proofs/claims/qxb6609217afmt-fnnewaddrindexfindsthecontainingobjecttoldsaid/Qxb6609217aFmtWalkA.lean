import Derived.Test.Qxb6609217aFmtRows
import Derived.Test.Qxb6609217aFmtKit
import Derived.WalkSpells
import Derived.WalkLawsBesides
namespace Go.Proofs.Qxb6609217aFmt
open Go.RowKit

/-- What a walk is told of a slice of strings that came in: its first 'len' cells. -/
def StrArg (w : World) (ao : Option Addr) (len : Nat) (ss : List ByteArray) : Prop :=
  ss.length = len ∧ (0 < len → ∃ b off, ao = some ⟨b, off, none⟩ ∧ b < w.heap.size ∧
    ∀ i, i < len → w.cell? ⟨b, off + i, none⟩ = some (.string (ss.getD i ByteArray.empty)))

/-- A root that came in. -/
structure RIn where
  kind : Int
  addr : Int
  text : ByteArray
  n0 : Int
  n1 : Int
def RIn.zero : RIn := ⟨0, 0, ByteArray.empty, 0, 0⟩
/-- It fits its kinds. -/
def RIn.ok (r : RIn) : Prop := (Lit.int .i64 r.kind).wf = true ∧ (Lit.int .u64 r.addr).wf = true ∧ r.text.size ≤ maxLen ∧ (Lit.int .u64 r.n0).wf = true ∧ (Lit.int .u64 r.n1).wf = true

/-- Five cells of a root lie from offset o on. -/
def RootAt (w : World) (b o : Nat) (r : RIn) : Prop :=
  w.cell? ⟨b, o, none⟩ = some (.int .i64 r.kind) ∧ w.cell? ⟨b, o + 1, none⟩ = some (.int .u64 r.addr) ∧ w.cell? ⟨b, o + 2, none⟩ = some (.string r.text) ∧
  w.cell? ⟨b, o + 3, none⟩ = some (.int .u64 r.n0) ∧ w.cell? ⟨b, o + 4, none⟩ = some (.int .u64 r.n1)

/-- What a walk is told of a slice of roots that came in. -/
def RootArg (w : World) (ao : Option Addr) (len : Nat) (rs : List RIn) : Prop :=
  rs.length = len ∧ (∀ r ∈ rs, r.ok) ∧ (0 < len → ∃ b off, ao = some ⟨b, off, none⟩ ∧ b < w.heap.size ∧
    ∀ i, i < len → RootAt w b (off + i * 5) (rs.getD i RIn.zero))

theorem RootAt.later {w w' : World} {b o : Nat} {r : RIn} {B : Nat} (h : RootAt w b o r) (hb : Below B w w') (hlt : b < B) : RootAt w' b o r :=
  ⟨(hb.cell (p := ⟨b, o, none⟩) hlt).trans h.1, (hb.cell (p := ⟨b, o + 1, none⟩) hlt).trans h.2.1, (hb.cell (p := ⟨b, o + 2, none⟩) hlt).trans h.2.2.1,
    (hb.cell (p := ⟨b, o + 3, none⟩) hlt).trans h.2.2.2.1, (hb.cell (p := ⟨b, o + 4, none⟩) hlt).trans h.2.2.2.2⟩

theorem RootArg.getOk {w : World} {ao : Option Addr} {len : Nat} {rs : List RIn} (h : RootArg w ao len rs) {i : Nat} (hi : i < len) : (rs.getD i RIn.zero).ok := by
  have hl := h.1
  rw [List.getD_eq_getElem?_getD, List.getElem?_eq_getElem (by omega)]
  exact h.2.1 _ (List.getElem_mem _)

def AnyBool (e : Ending) : Prop := ∃ b, e = .returned (.bool b)
def AnyInt (e : Ending) : Prop := ∃ n, e = .returned (.int .i64 n)

set_option maxHeartbeats 400000 in
theorem sb_any (ao : Option Addr) (len cap : Nat) (ss : List ByteArray) (w : World) (hlen : len ≤ maxLen) (h : StrArg w ao len ss) :
    Calls Tryf.prog 8 #[.slice ao len cap] w fun e w' => AnyInt e ∧ w = w' := by
  unfold maxLen at hlen
  go_enter Tryf.func8, Tryf.ntmps8
  go_wp2
  go_loop [3, 4] (fun z i => ∃ k : Nat, k ≤ len ∧ i = .int .i64 k ∧ ∃ n : Int, z = .int .i64 n) (fun _ i => len - (intOf i).toNat)
  case atStart => exact ⟨0, by omega, rfl, 0, rfl⟩
  case round =>
    obtain ⟨k, hk, rfl, n, rfl⟩ := hrel
    by_cases hlt : k < len
    · obtain ⟨b, off, rfl, hb, hc⟩ := h.2 (by omega)
      have hck := hc k hlt
      clear hc
      generalize ss.getD k ByteArray.empty = s at hck
      go_wp2
      · go_ret
        exact ⟨⟨_, rfl⟩, rfl⟩
      · go_round
        case rel => exact ⟨k + 1, by omega, by go_num, _, rfl⟩
        case measure => simp [intOf]; omega
    · go_wp2
      go_ret
      exact ⟨⟨_, rfl⟩, rfl⟩

set_option maxHeartbeats 400000 in
theorem rb_any (ao : Option Addr) (len cap : Nat) (rs : List RIn) (w : World) (hlen : len ≤ maxLen) (h : RootArg w ao len rs) :
    Calls Tryf.prog 9 #[.slice ao len cap] w fun e w' => AnyInt e ∧ w = w' := by
  unfold maxLen at hlen
  go_enter Tryf.func9, Tryf.ntmps9
  go_wp2
  go_loop [3, 4] (fun z i => ∃ k : Nat, k ≤ len ∧ i = .int .i64 k ∧ ∃ n : Int, z = .int .i64 n) (fun _ i => len - (intOf i).toNat)
  case atStart => exact ⟨0, by omega, rfl, 0, rfl⟩
  case round =>
    obtain ⟨k, hk, rfl, n, rfl⟩ := hrel
    by_cases hlt : k < len
    · obtain ⟨b, off, rfl, hb, hc⟩ := h.2.2 (by omega)
      have hck := (hc k hlt).2.2.1
      clear hc
      generalize (rs.getD k RIn.zero).text = s at hck
      go_wp2
      · go_ret
        exact ⟨⟨_, rfl⟩, rfl⟩
      · go_round
        case rel => exact ⟨k + 1, by omega, by go_num, _, rfl⟩
        case measure => simp [intOf]; omega
    · go_wp2
      go_ret
      exact ⟨⟨_, rfl⟩, rfl⟩

set_option maxHeartbeats 800000 in
theorem zz7_any (l : Bool) (ao : Option Addr) (len cap : Nat) (ss : List ByteArray) (ro : Option Addr) (rlen rcap : Nat) (rs : List RIn) (w : World) (hlen : len ≤ maxLen) (h : StrArg w ao len ss) (hrlen : rlen ≤ maxLen) (hr : RootArg w ro rlen rs) :
    Calls Tryf.prog 7 #[.bool l, .slice ao len cap, .slice ro rlen rcap] w fun e w' => AnyBool e ∧ w = w' := by
  unfold maxLen at hlen hrlen
  by_cases h1 : 1048576 < len
  · go_enter Tryf.func7, Tryf.ntmps7
    go_wp2
    go_ret
    exact ⟨⟨_, rfl⟩, rfl⟩
  · go_enter Tryf.func7, Tryf.ntmps7
    go_wp2
    go_loop [7, 8] (fun z i => ∃ k : Nat, k ≤ len ∧ i = .int .i64 k ∧ ∃ n : Int, z = .int .i64 n ∧ 0 ≤ n ∧ n ≤ 1048576) (fun _ i => len - (intOf i).toNat)
    case atStart => exact ⟨0, by omega, rfl, len, rfl, by omega, by omega⟩
    case round =>
      obtain ⟨k, hk, rfl, n, rfl, h0, hn⟩ := hrel
      by_cases hlt : k < len
      · obtain ⟨b, off, rfl, hb, hc⟩ := h.2 (by omega)
        have hck := hc k hlt
        clear hc
        generalize ss.getD k ByteArray.empty = s at hck
        by_cases h2 : 1048576 < s.size
        · go_wp2
          go_ret
          exact ⟨⟨_, rfl⟩, rfl⟩
        · by_cases h3 : 1048576 < n + s.size
          · go_wp2
            go_ret
            exact ⟨⟨_, rfl⟩, rfl⟩
          · go_wp2
            go_round
            case rel => exact ⟨k + 1, by omega, by go_num, n + s.size, rfl, by omega, by omega⟩
            case measure => simp [intOf]; omega
      · by_cases h4 : 1048576 < rlen
        · go_wp2
          go_ret
          exact ⟨⟨_, rfl⟩, rfl⟩
        · by_cases h5 : 1048576 < n + rlen
          · go_wp2
            go_ret
            exact ⟨⟨_, rfl⟩, rfl⟩
          · go_wp2
            go_loop [7, 9] (fun z i => ∃ k : Nat, k ≤ rlen ∧ i = .int .i64 k ∧ ∃ n : Int, z = .int .i64 n ∧ 0 ≤ n ∧ n ≤ 1048576) (fun _ i => rlen - (intOf i).toNat)
            case atStart => exact ⟨0, by omega, rfl, n + rlen, rfl, by omega, by omega⟩
            case round =>
              obtain ⟨j, hj, rfl, n', rfl, h0', hn'⟩ := hrel
              by_cases hjt : j < rlen
              · obtain ⟨b, off, rfl, hb, hc⟩ := hr.2.2 (by omega)
                have hck := (hc j hjt).2.2.1
                clear hc
                generalize (rs.getD j RIn.zero).text = s at hck
                by_cases h2 : 1048576 < s.size
                · go_wp2
                  go_ret
                  exact ⟨⟨_, rfl⟩, rfl⟩
                · by_cases h3 : 1048576 < n' + s.size
                  · go_wp2
                    go_ret
                    exact ⟨⟨_, rfl⟩, rfl⟩
                  · go_wp2
                    go_round
                    case rel => exact ⟨j + 1, by omega, by go_num, n' + s.size, rfl, by omega, by omega⟩
                    case measure => simp [intOf]; omega
              · go_wp2
                go_ret
                exact ⟨⟨_, rfl⟩, rfl⟩

set_option maxHeartbeats 800000 in
theorem zz16_any (ao : Option Addr) (len cap : Nat) (ss : List ByteArray) (ro : Option Addr) (rlen rcap : Nat) (rs : List RIn) (w : World) (hlen : len ≤ maxLen) (h : StrArg w ao len ss) (hrlen : rlen ≤ maxLen) (hr : RootArg w ro rlen rs) :
    Calls Tryf.prog 16 #[.slice ao len cap, .slice ro rlen rcap] w fun e w' => AnyBool e ∧ w = w' := by
  unfold maxLen at hlen hrlen
  by_cases h1 : 1048576 < len
  · go_enter Tryf.func16, Tryf.ntmps16
    go_wp2
    go_ret
    exact ⟨⟨_, rfl⟩, rfl⟩
  · go_enter Tryf.func16, Tryf.ntmps16
    go_wp2
    go_loop [5, 6] (fun z i => ∃ k : Nat, k ≤ len ∧ i = .int .i64 k ∧ ∃ n : Int, z = .int .i64 n ∧ 0 ≤ n ∧ n ≤ 1048576) (fun _ i => len - (intOf i).toNat)
    case atStart => exact ⟨0, by omega, rfl, len, rfl, by omega, by omega⟩
    case round =>
      obtain ⟨k, hk, rfl, n, rfl, h0, hn⟩ := hrel
      by_cases hlt : k < len
      · obtain ⟨b, off, rfl, hb, hc⟩ := h.2 (by omega)
        have hck := hc k hlt
        clear hc
        generalize ss.getD k ByteArray.empty = s at hck
        by_cases h2 : 1048576 < s.size
        · go_wp2
          go_ret
          exact ⟨⟨_, rfl⟩, rfl⟩
        · by_cases h3 : 1048576 < n + s.size
          · go_wp2
            go_ret
            exact ⟨⟨_, rfl⟩, rfl⟩
          · go_wp2
            go_round
            case rel => exact ⟨k + 1, by omega, by go_num, n + s.size, rfl, by omega, by omega⟩
            case measure => simp [intOf]; omega
      · by_cases h4 : 1048576 < rlen
        · go_wp2
          go_ret
          exact ⟨⟨_, rfl⟩, rfl⟩
        · by_cases h5 : 1048576 < n + rlen
          · go_wp2
            go_ret
            exact ⟨⟨_, rfl⟩, rfl⟩
          · go_wp2
            go_loop [5, 7] (fun z i => ∃ k : Nat, k ≤ rlen ∧ i = .int .i64 k ∧ ∃ n : Int, z = .int .i64 n ∧ 0 ≤ n ∧ n ≤ 1048576) (fun _ i => rlen - (intOf i).toNat)
            case atStart => exact ⟨0, by omega, rfl, n + rlen, rfl, by omega, by omega⟩
            case round =>
              obtain ⟨j, hj, rfl, n', rfl, h0', hn'⟩ := hrel
              by_cases hjt : j < rlen
              · obtain ⟨b, off, rfl, hb, hc⟩ := hr.2.2 (by omega)
                have hck := (hc j hjt).2.2.1
                clear hc
                generalize (rs.getD j RIn.zero).text = s at hck
                by_cases h2 : 1048576 < s.size
                · go_wp2
                  go_ret
                  exact ⟨⟨_, rfl⟩, rfl⟩
                · by_cases h3 : 1048576 < n' + s.size
                  · go_wp2
                    go_ret
                    exact ⟨⟨_, rfl⟩, rfl⟩
                  · go_wp2
                    go_round
                    case rel => exact ⟨j + 1, by omega, by go_num, n' + s.size, rfl, by omega, by omega⟩
                    case measure => simp [intOf]; omega
              · go_wp2
                go_ret
                exact ⟨⟨_, rfl⟩, rfl⟩

end Go.Proofs.Qxb6609217aFmt
