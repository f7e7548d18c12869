import Derived.Test.Qxb6603811aRows
import Derived.WalkKit
import Derived.WalkSpells
import Derived.WalkLawsBesides
import Derived.Deep.QuietTactic
import Derived.BigQuiet
import Derived.Deep.OwnRows
namespace Go.Proofs.Qxb6603811a
open Go.RowKit

def RetBool (e : Ending) : Prop := ∃ r, e = .returned (.bool r)
def RetInt (e : Ending) : Prop := ∃ r, e = .returned (.int .i64 r)
def Drawn (w w' : World) : Prop := ∃ n, w' = w.drewN n

/-- what the walks are told of the slice of pairs that came in -/
def Pairs (w : World) (a : Option Addr) (len : Nat) (N C : Nat → ByteArray) : Prop :=
  len = 0 ∨ ∃ b off : Nat, a = some ⟨b, off, none⟩ ∧ b < w.heap.size ∧
    (∀ i, i < len → w.cell? ⟨b, off + i * 2, none⟩ = some (.string (N i))) ∧ (∀ i, i < len → w.cell? ⟨b, off + i * 2 + 1, none⟩ = some (.string (C i)))

theorem Pairs.at {w : World} {a : Option Addr} {len : Nat} {N C : Nat → ByteArray} (h : Pairs w a len N C) {i : Nat} (hi : i < len) :
    ∃ b off : Nat, a = some ⟨b, off, none⟩ ∧ b < w.heap.size ∧ w.cell? ⟨b, off + i * 2, none⟩ = some (.string (N i)) ∧ w.cell? ⟨b, off + i * 2 + 1, none⟩ = some (.string (C i)) := by
  rcases h with h | ⟨b, off, h1, h2, h3, h4⟩
  · omega
  · exact ⟨b, off, h1, h2, h3 i hi, h4 i hi⟩

set_option maxHeartbeats 400000 in
theorem bytes_any (a : Option Addr) (len cap : Nat) (N C : Nat → ByteArray) (name : ByteArray) (w : World)
    (hl : len ≤ 9223372036854775807) (hN : ∀ i, i < len → (N i).size ≤ 9223372036854775807) (hC : ∀ i, i < len → (C i).size ≤ 9223372036854775807) (hn : name.size ≤ 9223372036854775807)
    (hp : Pairs w a len N C) :
    Calls Try.prog 4 #[.slice a len cap, .string name] w fun e w' => RetBool e ∧ w' = w := by
  by_cases hlen : 1048576 < len
  · go_enter Try.func4, Try.ntmps4
    go_wp2
    go_ret
    exact ⟨⟨_, rfl⟩, rfl⟩
  · go_enter Try.func4, Try.ntmps4
    go_wp2
    go_loop [5, 6] (fun z i => ∃ k n : Nat, k ≤ len ∧ i = .int .i64 k ∧ n ≤ 1048576 ∧ z = .int .i64 n) (fun _ i => len - (intOf i).toNat)
    case atStart => exact ⟨0, len, Nat.zero_le _, rfl, by omega, rfl⟩
    case round =>
      obtain ⟨k, n, hk, rfl, hn1, rfl⟩ := hrel
      by_cases hlt : k < len
      · obtain ⟨b, off, rfl, _, g0, g1⟩ := hp.at hlt
        have s0 := hN k hlt
        have s1 := hC k hlt
        clear hp hN hC
        go_wp2
        case roundEnd =>
          go_round
          case rel => exact ⟨k + 1, n + (N k).size + (C k).size, by omega, by go_num, by omega, by go_num⟩
          case measure => simp [intOf]; omega
        all_goals
          go_ret
          exact ⟨⟨_, rfl⟩, rfl⟩
      · go_wp2
        all_goals
          go_ret
          exact ⟨⟨_, rfl⟩, rfl⟩

set_option maxHeartbeats 400000 in
theorem shapeBytes_any (a : Option Addr) (len cap : Nat) (N C : Nat → ByteArray) (w : World)
    (hl : len ≤ 9223372036854775807) (hN : ∀ i, i < len → (N i).size ≤ 9223372036854775807) (hC : ∀ i, i < len → (C i).size ≤ 9223372036854775807)
    (hp : Pairs w a len N C) :
    Calls Try.prog 5 #[.slice a len cap] w fun e w' => RetInt e ∧ Drawn w w' := by
  go_enter Try.func5, Try.ntmps5
  go_wp2
  go_loopw [3, 4] (fun z i wr => ∃ k n q : Nat, k ≤ len ∧ i = .int .i64 k ∧ n ≤ 1048576 ∧ z = .int .i64 n ∧ wr = w.drewN q) (fun _ i _ => len - (intOf i).toNat)
  case atStart => exact ⟨0, 0, 0, Nat.zero_le _, rfl, by omega, rfl, rfl⟩
  case round =>
    obtain ⟨k, n, q, hk, rfl, hn1, rfl, rfl⟩ := hrel
    by_cases hlt : k < len
    · obtain ⟨b, off, rfl, _, g0, g1⟩ := hp.at hlt
      have s0 := hN k hlt
      have s1 := hC k hlt
      have i0 : (k : Int) < (len : Int) := by omega
      clear hp hN hC
      by_cases c0 : (1048576 : Int) < ((N k).size : Int)
      · go_wp2
        go_ret
        exact ⟨⟨_, rfl⟩, _, rfl⟩
      · have c0' : decide ((1048576 : Int) < ((N k).size : Int)) = false := decide_eq_false c0
        by_cases c1 : (1048576 : Int) < ((C k).size : Int)
        · go_wp2
          go_ret
          exact ⟨⟨_, rfl⟩, _, rfl⟩
        · have c1' : decide ((1048576 : Int) < ((C k).size : Int)) = false := decide_eq_false c1
          go_wp2
          go_quiet (fail)
          go_wp2
          case roundEnd =>
            go_roundw
            case rel => exact ⟨k + 1, n + (32 + (N k).size + (C k).size), q + nq, by omega, by go_num, by omega, by go_num, rfl⟩
            case measure => simp [intOf]; omega
          all_goals
            go_ret
            exact ⟨⟨_, rfl⟩, _, rfl⟩
    · go_wp2
      go_ret
      exact ⟨⟨_, rfl⟩, _, rfl⟩

end Go.Proofs.Qxb6603811a
