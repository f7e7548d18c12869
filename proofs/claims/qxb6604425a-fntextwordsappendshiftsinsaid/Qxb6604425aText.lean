import Derived.Test.Qxb6604425aWords
import Derived.Lib.Strings
import Derived.Deep.RegionWith
namespace Go.Proofs.Qxb6604425a
open Go.RowKit

theorem by8_extract (s : ByteArray) (a m : Nat) (_h : a + m < s.size) : by8 (s.extract a s.size) m = by8 s (a + m) := by
  unfold by8
  have e : (s.extract a s.size).data.toList = s.data.toList.drop a := by
    rw [Lib.extract_data]
    rw [List.take_of_length_le]
    rw [List.length_drop]
    have : s.data.toList.length = s.size := by simp
    omega
  rw [e, List.getD_eq_getElem?_getD, List.getElem?_drop, ← List.getD_eq_getElem?_getD]

theorem or_mid (x y d : Nat) (hx : x < 4294967296) (hy : y < 4294967296) (hd : d ≤ 4) :
    bits BinOp.or IntKind.u64 (IntKind.u64.wrap (x : Int)) (IntKind.u64.wrap (IntKind.u64.wrap (y : Int) * 2 ^ (8 * d))) = ((x ||| y * 2 ^ (8 * d) : Nat) : Int) := by
  have h1 : (2 : Nat) ^ (8 * d) ≤ 2 ^ 32 := Nat.pow_le_pow_right (by decide) (by omega)
  have h2 : y * 2 ^ (8 * d) < 18446744073709551616 := by
    calc y * 2 ^ (8 * d) ≤ y * 2 ^ 32 := Nat.mul_le_mul_left _ h1
      _ < 18446744073709551616 := by omega
  have e : (IntKind.u64.wrap (y : Int)) * 2 ^ (8 * d) = ((y * 2 ^ (8 * d) : Nat) : Int) := by
    rw [u64_wrap_id _ (by omega) (by omega)]
    push_cast
    rfl
  rw [e, u64_wrap_id _ (by omega) (by omega), u64_wrap_id _ (by omega) (by omega)]
  exact u64_or_nat x (y * 2 ^ (8 * d)) (by omega) h2

theorem or1_64 (b : Nat) (h : b < 256) : bits BinOp.or IntKind.u64 (bits BinOp.or IntKind.u64 (IntKind.u64.wrap (b : Int)) (IntKind.u64.wrap (IntKind.u64.wrap (b : Int)))) (IntKind.u64.wrap (IntKind.u64.wrap (b : Int))) = ((b + 256 * 0 : Nat) : Int) := by
  simp (disch := omega) only [u64_wrap_id]
  rw [u64_or_nat b b (by omega) (by omega), Nat.or_self, u64_or_nat b b (by omega) (by omega), Nat.or_self]
  omega
theorem or2_64 (a b : Nat) (ha : a < 256) (h : b < 256) : bits BinOp.or IntKind.u64 (bits BinOp.or IntKind.u64 (IntKind.u64.wrap (a : Int)) (IntKind.u64.wrap (IntKind.u64.wrap (b : Int) * 256))) (IntKind.u64.wrap (IntKind.u64.wrap (b : Int) * 256)) = ((a + 256 * (b + 256 * 0) : Nat) : Int) := by
  simp (disch := omega) only [u64_wrap_id]
  have e : (b : Int) * 256 = ((b * 2 ^ 8 : Nat) : Int) := by omega
  rw [e, u64_or_nat a (b * 2 ^ 8) (by omega) (by omega), u64_or_nat _ (b * 2 ^ 8) (by rw [or_low 8 b a (by omega)]; omega) (by omega), Nat.or_assoc, Nat.or_self, or_low 8 b a (by omega)]
  omega
theorem or3_64 (a b c : Nat) (ha : a < 256) (hb : b < 256) (hc : c < 256) : bits BinOp.or IntKind.u64 (bits BinOp.or IntKind.u64 (IntKind.u64.wrap (a : Int)) (IntKind.u64.wrap (IntKind.u64.wrap (b : Int) * 256))) (IntKind.u64.wrap (IntKind.u64.wrap (c : Int) * 65536)) = ((a + 256 * (b + 256 * (c + 256 * 0)) : Nat) : Int) := by
  simp (disch := omega) only [u64_wrap_id, u64_or8, u64_or16]
  omega

set_option maxHeartbeats 1000000 in
theorem text_any (s : ByteArray) (w : World) (hm : s.size ≤ 9223372036854775807) :
    Calls Try.prog 25 #[.string s] w fun e w' => e = .returned (.tuple #[.int .u64 (headN s), .int .u64 (tailN s)]) ∧ Drawn w w' := by
  by_cases h8 : 8 < s.size
  · have hi : (8 : Int) < (s.size : Int) := by omega
    have hx : ((s.size : Int) - 8).toNat = s.size - 8 := by omega
    have hy : (s.extract (s.size - 8) s.size).size = 8 := by simp; omega
    have hxi : (0 : Int) ≤ (s.size : Int) - 8 := by omega
    have hxj : (s.size : Int) - 8 ≤ (s.size : Int) := by omega
    go_enter Try.func25, Try.ntmps25
    go_wp2
    go_quiet (first | (go_at_call_of 30 (Value.string s); exact Calls.quiet_of (word_any s _ (by omega) hm)) | (go_at_call 30; exact Calls.quiet_of (word_any (s.extract (s.size - 8) s.size) _ (by omega) (by omega))))
    go_wp2
    go_ret2
    refine ⟨ret_int2 ?_ ?_, _, rfl⟩
    · unfold headN; rw [show min 8 s.size = 8 by omega]
    · unfold tailN
      rw [if_pos h8, leN_congr (s.extract (s.size - 8) s.size) s 8 0 (s.size - 8) (fun m hm' => by rw [Nat.zero_add]; exact by8_extract s _ _ (by omega))]
  by_cases e8 : s.size = 8
  · have hi : ((s.size : Int) == 8) = true := by rw [beq_iff_eq]; omega
    have hj : ¬ (8 : Int) < (s.size : Int) := by omega
    go_enter Try.func25, Try.ntmps25
    go_wp2_with fail
    refine (word_any s _ (by omega) hm).mono ?_
    rintro e w1 ⟨rfl, q, rfl⟩
    go_wp2
    go_ret2
    refine ⟨ret_int2 ?_ ?_, _, rfl⟩
    · unfold headN; rw [e8]; rfl
    · unfold tailN; rw [if_neg h8]; rfl
  by_cases h4 : 4 ≤ s.size
  · have hi : ((s.size : Int) == 8) = false := by rw [beq_eq_false_iff_ne]; omega
    have hj : ¬ (8 : Int) < (s.size : Int) := by omega
    have hk : (4 : Int) ≤ (s.size : Int) := by omega
    have hx : ((s.size : Int) - 4).toNat = s.size - 4 := by omega
    have hy : (s.extract (s.size - 4) s.size).size = 4 := by simp; omega
    have hxi : (0 : Int) ≤ (s.size : Int) - 4 := by omega
    have hxj : (s.size : Int) - 4 ≤ (s.size : Int) := by omega
    go_enter Try.func25, Try.ntmps25
    go_wp2
    go_quiet (first | (go_at_call_of 31 (Value.string s); exact Calls.quiet_of (half_any s _ (by omega) hm)) | (go_at_call 31; exact Calls.quiet_of (half_any (s.extract (s.size - 4) s.size) _ (by omega) (by omega))))
    go_wp2
    go_ret2
    refine ⟨ret_int2 ?_ ?_, _, rfl⟩
    · rw [leN_congr (s.extract (s.size - 4) s.size) s 4 0 (s.size - 4) (fun m hm' => by rw [Nat.zero_add]; exact by8_extract s _ _ (by omega))]
      unfold headN
      rw [show min 8 s.size = (s.size - 4) + 4 by omega, ← head_mid s (s.size - 4) (by omega)]
      exact or_mid (leN s 0 4) (leN s (s.size - 4) 4) (s.size - 4) (by have := leN_lt s 4 0; omega) (by have := leN_lt s 4 (s.size - 4); omega) (by omega)
    · unfold tailN; rw [if_neg h8]; rfl
  by_cases h0 : s.size = 0
  · have hi : ((s.size : Int) == 8) = false := by rw [beq_eq_false_iff_ne]; omega
    go_enter Try.func25, Try.ntmps25
    go_wp2
    go_ret2
    refine ⟨ret_int2 ?_ ?_, 0, rfl⟩
    · unfold headN; rw [h0]; rfl
    · unfold tailN; rw [if_neg h8]; rfl
  have h123 : s.size = 1 ∨ s.size = 2 ∨ s.size = 3 := by omega
  rcases h123 with h | h | h
  · have HS : Hid (s.size = 1) := h
    go_enter Try.func25, Try.ntmps25
    go_wp2
    go_quiet (fail)
    go_wp2
    go_ret2
    refine ⟨ret_int2 ?_ ?_, _, rfl⟩
    · rw [by8_at s 0 (by omega)]
      unfold headN
      rw [h]
      exact or1_64 _ (by8_lt _ _)
    · unfold tailN; rw [if_neg h8]; rfl
  · have HS : Hid (s.size = 2) := h
    go_enter Try.func25, Try.ntmps25
    go_wp2
    go_quiet (fail)
    go_wp2
    go_ret2
    refine ⟨ret_int2 ?_ ?_, _, rfl⟩
    · rw [by8_at s 0 (by omega), by8_at s 1 (by omega)]
      unfold headN
      rw [h]
      exact or2_64 _ _ (by8_lt _ _) (by8_lt _ _)
    · unfold tailN; rw [if_neg h8]; rfl
  · have HS : Hid (s.size = 3) := h
    go_enter Try.func25, Try.ntmps25
    go_wp2
    go_quiet (fail)
    go_wp2
    go_ret2
    refine ⟨ret_int2 ?_ ?_, _, rfl⟩
    · rw [by8_at s 0 (by omega), by8_at s 1 (by omega), by8_at s 2 (by omega)]
      unfold headN
      rw [h]
      exact or3_64 _ _ _ (by8_lt _ _) (by8_lt _ _) (by8_lt _ _)
    · unfold tailN; rw [if_neg h8]; rfl

set_option maxHeartbeats 400000 in
theorem zztext_any (s : ByteArray) (w : World) (hm : s.size ≤ 9223372036854775807) :
    Calls Try.prog 9 #[.string s] w fun e w' => e = .returned (.tuple #[.int .u64 (headN s), .int .u64 (tailN s)]) ∧ Drawn w w' := by
  go_enter Try.func9, Try.ntmps9
  go_wp2_with fail
  refine (text_any s _ hm).mono ?_
  rintro e w1 ⟨rfl, q, rfl⟩
  go_wp2
  go_ret2
  exact ⟨rfl, q, rfl⟩
end Go.Proofs.Qxb6604425a
