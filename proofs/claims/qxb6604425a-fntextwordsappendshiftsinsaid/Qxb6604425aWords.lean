import Derived.Test.Qxb6604425aRows
import Derived.Test.Qxb6604425aPlain
import Derived.WalkKit
import Derived.WalkSpells
import Derived.WalkLawsBesides
import Derived.Deep.QuietTactic
import Derived.BigQuiet
namespace Go.Proofs.Qxb6604425a
open Go.RowKit

theorem ret_int {k : IntKind} {a b : Int} (h : a = b) : Ending.returned (.int k a) = .returned (.int k b) := by rw [h]
theorem ret_int2 {k : IntKind} {a b c d : Int} (h : a = b) (h2 : c = d) : Ending.returned (.tuple #[.int k a, .int k c]) = .returned (.tuple #[.int k b, .int k d]) := by rw [h, h2]
def Drawn (w w' : World) : Prop := ∃ n, w' = w.drewN n

theorem or8_64 (b0 b1 b2 b3 b4 b5 b6 b7 : Nat) (h0 : b0 < 256) (h1 : b1 < 256) (h2 : b2 < 256) (h3 : b3 < 256) (h4 : b4 < 256) (h5 : b5 < 256) (h6 : b6 < 256) (h7 : b7 < 256) :
    (bits BinOp.or IntKind.u64 (bits BinOp.or IntKind.u64 (bits BinOp.or IntKind.u64 (bits BinOp.or IntKind.u64 (bits BinOp.or IntKind.u64 (bits BinOp.or IntKind.u64 (bits BinOp.or IntKind.u64 (IntKind.u64.wrap (b0 : Int))
      (IntKind.u64.wrap (IntKind.u64.wrap (b1 : Int) * 256))) (IntKind.u64.wrap (IntKind.u64.wrap (b2 : Int) * 65536))) (IntKind.u64.wrap (IntKind.u64.wrap (b3 : Int) * 16777216)))
      (IntKind.u64.wrap (IntKind.u64.wrap (b4 : Int) * 4294967296))) (IntKind.u64.wrap (IntKind.u64.wrap (b5 : Int) * 1099511627776))) (IntKind.u64.wrap (IntKind.u64.wrap (b6 : Int) * 281474976710656)))
      (IntKind.u64.wrap (IntKind.u64.wrap (b7 : Int) * 72057594037927936))) = ((b0 + 256 * (b1 + 256 * (b2 + 256 * (b3 + 256 * (b4 + 256 * (b5 + 256 * (b6 + 256 * (b7 + 256 * 0))))))) : Nat) : Int) := by
  simp (disch := omega) only [u64_wrap_id, u64_or8, u64_or16, u64_or24, u64_or32, u64_or40, u64_or48, u64_or56]
  omega
theorem or4_32 (b0 b1 b2 b3 : Nat) (h0 : b0 < 256) (h1 : b1 < 256) (h2 : b2 < 256) (h3 : b3 < 256) :
    (bits BinOp.or IntKind.u32 (bits BinOp.or IntKind.u32 (bits BinOp.or IntKind.u32 (IntKind.u32.wrap (b0 : Int))
      (IntKind.u32.wrap (IntKind.u32.wrap (b1 : Int) * 256))) (IntKind.u32.wrap (IntKind.u32.wrap (b2 : Int) * 65536))) (IntKind.u32.wrap (IntKind.u32.wrap (b3 : Int) * 16777216)))
      = ((b0 + 256 * (b1 + 256 * (b2 + 256 * (b3 + 256 * 0))) : Nat) : Int) := by
  simp (disch := omega) only [u32_wrap_id, u32_or8, u32_or16, u32_or24]
  omega

set_option maxHeartbeats 1000000 in
theorem word_any (s : ByteArray) (w : World) (hs : 8 ≤ s.size) (hm : s.size ≤ 9223372036854775807) :
    Calls Try.prog 30 #[.string s] w fun e w' => e = .returned (.int .u64 (leN s 0 8)) ∧ Drawn w w' := by
  have q1 : (1 : Int) < (s.size : Int) := by omega
  have q2 : (2 : Int) < (s.size : Int) := by omega
  have q3 : (3 : Int) < (s.size : Int) := by omega
  have q4 : (4 : Int) < (s.size : Int) := by omega
  have q5 : (5 : Int) < (s.size : Int) := by omega
  have q6 : (6 : Int) < (s.size : Int) := by omega
  have q7 : (7 : Int) < (s.size : Int) := by omega
  have q0 : 0 < s.size := by omega
  go_enter Try.func30, Try.ntmps30
  go_wp2
  go_quiet (fail)
  go_wp2
  go_ret
  refine ⟨ret_int ?_, _, rfl⟩
  rw [by8_at s 0 q0, by8_at s 1 (by omega), by8_at s 2 (by omega), by8_at s 3 (by omega), by8_at s 4 (by omega), by8_at s 5 (by omega), by8_at s 6 (by omega), by8_at s 7 (by omega)]
  exact or8_64 _ _ _ _ _ _ _ _ (by8_lt _ _) (by8_lt _ _) (by8_lt _ _) (by8_lt _ _) (by8_lt _ _) (by8_lt _ _) (by8_lt _ _) (by8_lt _ _)

set_option maxHeartbeats 1000000 in
theorem half_any (s : ByteArray) (w : World) (hs : 4 ≤ s.size) (hm : s.size ≤ 9223372036854775807) :
    Calls Try.prog 31 #[.string s] w fun e w' => e = .returned (.int .u32 (leN s 0 4)) ∧ Drawn w w' := by
  have q1 : (1 : Int) < (s.size : Int) := by omega
  have q2 : (2 : Int) < (s.size : Int) := by omega
  have q3 : (3 : Int) < (s.size : Int) := by omega
  have q0 : 0 < s.size := by omega
  go_enter Try.func31, Try.ntmps31
  go_wp2
  go_quiet (fail)
  go_wp2
  go_ret
  refine ⟨ret_int ?_, _, rfl⟩
  rw [by8_at s 0 q0, by8_at s 1 (by omega), by8_at s 2 (by omega), by8_at s 3 (by omega)]
  exact or4_32 _ _ _ _ (by8_lt _ _) (by8_lt _ _) (by8_lt _ _) (by8_lt _ _)
end Go.Proofs.Qxb6604425a
