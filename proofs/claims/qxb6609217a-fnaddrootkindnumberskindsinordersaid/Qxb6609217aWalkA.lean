import Derived.Test.Qxb6609217aRows
import Derived.WalkKit
import Derived.WalkSpells
import Derived.WalkLawsBesides
namespace Go.Proofs.Qxb6609217a
open Go.RowKit

/-- What a walk is told of a slice of strings that came in: its first 'len' cells. -/
def StrArg (w : World) (ao : Option Addr) (len : Nat) (ss : List ByteArray) : Prop :=
  ss.length = len ∧ (0 < len → ∃ b off, ao = some ⟨b, off, none⟩ ∧ b < w.heap.size ∧
    ∀ i, i < len → w.cell? ⟨b, off + i, none⟩ = some (.string (ss.getD i ByteArray.empty)))

def AnyBool (e : Ending) : Prop := ∃ b, e = .returned (.bool b)
def AnyInt (e : Ending) : Prop := ∃ n, e = .returned (.int .i64 n)

set_option maxHeartbeats 400000 in
theorem zz_any (o i l : Bool) (ao : Option Addr) (len cap : Nat) (ss : List ByteArray) (w : World) (hlen : len ≤ maxLen) (h : StrArg w ao len ss) :
    Calls Try.prog 4 #[.bool o, .bool i, .bool l, .slice ao len cap] w fun e w' => AnyBool e ∧ w = w' := by
  unfold maxLen at hlen
  by_cases h1 : 1048576 < len
  · go_enter Try.func4, Try.ntmps4
    go_wp2
    go_ret
    exact ⟨⟨_, rfl⟩, rfl⟩
  · go_enter Try.func4, Try.ntmps4
    go_wp2
    go_loop [9, 10] (fun z i => ∃ k : Nat, k ≤ len ∧ i = .int .i64 k ∧ ∃ n : Int, z = .int .i64 n ∧ 0 ≤ n ∧ n ≤ 1048576) (fun _ i => len - (intOf i).toNat)
    case atStart => exact ⟨0, by omega, rfl, len, rfl, by omega, by omega⟩
    case round =>
      obtain ⟨k, hk, rfl, n, rfl, h0, hn⟩ := hrel
      by_cases hlt : k < len
      · obtain ⟨b, off, rfl, hb, hc⟩ := h.2 (by omega)
        have hck := hc k hlt
        clear hc
        generalize ss.getD k ByteArray.empty = s at hck
        by_cases h2 : 1048576 < s.size
        · go_wp2
          go_ret
          exact ⟨⟨_, rfl⟩, rfl⟩
        · by_cases h3 : 1048576 < n + s.size
          · go_wp2
            go_ret
            exact ⟨⟨_, rfl⟩, rfl⟩
          · go_wp2
            go_round
            case rel => exact ⟨k + 1, by omega, by go_num, n + s.size, rfl, by omega, by omega⟩
            case measure => simp [intOf]; omega
      · go_wp2
        go_ret
        exact ⟨⟨_, rfl⟩, rfl⟩

set_option maxHeartbeats 400000 in
theorem sb_any (ao : Option Addr) (len cap : Nat) (ss : List ByteArray) (w : World) (hlen : len ≤ maxLen) (h : StrArg w ao len ss) :
    Calls Try.prog 5 #[.slice ao len cap] w fun e w' => AnyInt e ∧ w = w' := by
  unfold maxLen at hlen
  go_enter Try.func5, Try.ntmps5
  go_wp2
  go_loop [3, 4] (fun z i => ∃ k : Nat, k ≤ len ∧ i = .int .i64 k ∧ ∃ n : Int, z = .int .i64 n) (fun _ i => len - (intOf i).toNat)
  case atStart => exact ⟨0, by omega, rfl, 0, rfl⟩
  case round =>
    obtain ⟨k, hk, rfl, n, rfl⟩ := hrel
    by_cases hlt : k < len
    · obtain ⟨b, off, rfl, hb, hc⟩ := h.2 (by omega)
      have hck := hc k hlt
      clear hc
      generalize ss.getD k ByteArray.empty = s at hck
      go_wp2
      · go_ret
        exact ⟨⟨_, rfl⟩, rfl⟩
      · go_round
        case rel => exact ⟨k + 1, by omega, by go_num, _, rfl⟩
        case measure => simp [intOf]; omega
    · go_wp2
      go_ret
      exact ⟨⟨_, rfl⟩, rfl⟩
end Go.Proofs.Qxb6609217a
