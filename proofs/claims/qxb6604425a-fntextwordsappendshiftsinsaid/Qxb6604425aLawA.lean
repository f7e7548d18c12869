import Derived.Test.Qxb6604425aText
namespace Go.Proofs.Qxb6604425a
open Go.RowKit

theorem ret_bool {a b : Bool} (h : a = b) : Ending.returned (.bool a) = .returned (.bool b) := by rw [h]

theorem horner (h b : Nat) (hh : h < 72057594037927936) (hb : b < 256) :
    bits BinOp.or IntKind.u64 (IntKind.u64.wrap ((h : Int) * 256)) (IntKind.u64.wrap (b : Int)) = ((b + 256 * h : Nat) : Int) := by
  simp (disch := omega) only [u64_wrap_id]
  have e : (h : Int) * 256 = ((h * 2 ^ 8 : Nat) : Int) := by omega
  rw [e, u64_or_nat (h * 2 ^ 8) b (by omega) (by omega), or_high 8 h b (by omega)]
  omega

set_option maxHeartbeats 400000 in
theorem bytesA_any (s : ByteArray) (w : World) (hm : s.size ≤ 9223372036854775807) :
    Calls Try.prog 8 #[.string s] w fun e w' => e = .returned (.bool (decide (s.size ≤ 1048576))) ∧ w' = w := by
  by_cases h : s.size ≤ 1048576
  · go_enter Try.func8, Try.ntmps8
    go_wp2
    go_ret
    exact ⟨ret_bool (decide_eq_true h).symm, rfl⟩
  · go_enter Try.func8, Try.ntmps8
    go_wp2
    go_ret
    exact ⟨ret_bool (decide_eq_false h).symm, rfl⟩

theorem pow_le (k : Nat) (h : k ≤ 7) : 256 ^ k ≤ 72057594037927936 := Nat.le_trans (Nat.pow_le_pow_right (by decide) h) (by decide)

theorem step8 (s : ByteArray) (j k : Nat) (hj : j < s.size) (hk : k ≤ 7) :
    Value.int IntKind.u64 (bits BinOp.or IntKind.u64 (IntKind.u64.wrap ((leN s (j + 1) k : Int) * 256)) (IntKind.u64.wrap ((s[j]).toNat : Int))) = .int .u64 (leN s j (k + 1)) := by
  have h1 := leN_lt s k (j + 1)
  have h2 := pow_le k hk
  rw [by8_at s j hj, horner _ _ (by omega) (by8_lt s j)]
  rfl

set_option maxHeartbeats 1000000 in
theorem lawA_any (s : ByteArray) (w : World) (hm : s.size ≤ 9223372036854775807) :
    Calls Try.prog 3 #[.string s] w fun e w' => e = .returned (.bool true) ∧ Drawn w w' := by
  by_cases hl : s.size ≤ 1048576
  · have hb0 : decide (s.size ≤ 1048576) = true := decide_eq_true hl
    by_cases h8 : 8 < s.size
    · have e1 : headN s = leN s 0 8 := by unfold headN; rw [show min 8 s.size = 8 by omega]
      have e2 : tailN s = leN s (s.size - 8) 8 := by unfold tailN; rw [if_pos h8]
      have HE : Hid (headN s = leN s 0 8 ∧ tailN s = leN s (s.size - 8) 8) := ⟨e1, e2⟩
      clear e1 e2
      go_enter Try.func3, Try.ntmps3
      go_wp2_with fail
      refine (bytesA_any s _ hm).mono ?_
      rintro e w1 ⟨rfl, rfl⟩
      rw [hb0]
      go_wp2
      go_loop [5, 6] (fun h i => ∃ j : Nat, j ≤ 8 ∧ i = .int .i64 ((j : Int) - 1) ∧ h = .int .u64 (leN s j (8 - j))) (fun _ i => (intOf i + 1).toNat)
      case atStart => exact ⟨8, Nat.le_refl _, by first | rfl | go_num, by simp [leN]⟩
      case round =>
        obtain ⟨j, hj, rfl, rfl⟩ := hrel
        match j, hj with
        | j + 1, hj =>
          have ej : (((j + 1 : Nat) : Int) - 1) = (j : Int) := by omega
          rw [ej]
          clear ej
          have hjs : (j : Int) < (s.size : Int) := by omega
          have hjn : j < s.size := by omega
          obtain ⟨k, hk, hk7⟩ : ∃ k, k = 8 - (j + 1) ∧ k ≤ 7 := ⟨_, rfl, by omega⟩
          have hkk : 8 - j = k + 1 := by omega
          have HK : Hid (8 - j = k + 1) := hkk
          rw [← hk]
          clear hk hkk
          go_wp2
          go_round
          case rel => exact ⟨j, by omega, rfl, by rw [HK.out]; exact step8 s j k hjn hk7⟩
          case measure => simp [intOf]
        | 0, _ =>
          have hz : ¬ (0 : Int) ≤ ((0 : Nat) : Int) - 1 := by omega
          rw [Nat.sub_zero]
          go_wp2
          go_loop [7, 8] (fun h i => ∃ m : Nat, s.size - 8 ≤ m ∧ m ≤ s.size ∧ i = .int .i64 ((m : Int) - 1) ∧ h = .int .u64 (leN s m (s.size - m))) (fun _ i => (intOf i - (s.size - 8) + 1).toNat)
          case atStart => exact ⟨s.size, by omega, Nat.le_refl _, rfl, by simp [leN]⟩
          case round =>
            obtain ⟨m, hm1, hm2, rfl, rfl⟩ := hrel
            by_cases hmm : s.size - 8 < m
            · obtain ⟨j, rfl⟩ : ∃ j, m = j + 1 := ⟨m - 1, by omega⟩
              have ej : (((j + 1 : Nat) : Int) - 1) = (j : Int) := by omega
              rw [ej]
              clear ej
              have hjs : (j : Int) < (s.size : Int) := by omega
              have hjt : (s.size : Int) - 8 ≤ (j : Int) := by omega
              have hjn : j < s.size := by omega
              obtain ⟨k, hk, hk7⟩ : ∃ k, k = s.size - (j + 1) ∧ k ≤ 7 := ⟨_, rfl, by omega⟩
              have hkk : s.size - j = k + 1 := by omega
              have HK : Hid (s.size - j = k + 1) := hkk
              rw [← hk]
              clear hk hkk
              go_wp2
              go_round
              case rel => exact ⟨j, by omega, by omega, rfl, by rw [HK.out]; exact step8 s j k hjn hk7⟩
              case measure => simp [intOf]; omega
            · obtain rfl : m = s.size - 8 := by omega
              have hx : ¬ (s.size : Int) - 8 ≤ ((s.size - 8 : Nat) : Int) - 1 := by omega
              have hs8 : s.size - (s.size - 8) = 8 := by omega
              rw [hs8]
              have ht := zztext_any s w1 hm
              rw [HE.out.1, HE.out.2] at ht
              have HT : Hid (Calls Try.prog 9 #[.string s] w1 fun e w' => e = .returned (.tuple #[.int .u64 (leN s 0 8), .int .u64 (leN s (s.size - 8) 8)]) ∧ Drawn w1 w') := ht
              clear ht hs8
              go_wp2_with fail
              refine HT.out.mono ?_
              rintro e w2 ⟨rfl, q, rfl⟩
              go_wp2
              go_ret
              exact ⟨ret_bool (by simp), q, rfl⟩
    · have e1 : headN s = leN s 0 s.size := by unfold headN; rw [show min 8 s.size = s.size by omega]
      have e2 : tailN s = 0 := by unfold tailN; rw [if_neg h8]
      have HE : Hid (headN s = leN s 0 s.size ∧ tailN s = 0) := ⟨e1, e2⟩
      clear e1 e2
      go_enter Try.func3, Try.ntmps3
      go_wp2_with fail
      refine (bytesA_any s _ hm).mono ?_
      rintro e w1 ⟨rfl, rfl⟩
      rw [hb0]
      go_wp2
      go_loop [5, 6] (fun h i => ∃ j : Nat, j ≤ s.size ∧ i = .int .i64 ((j : Int) - 1) ∧ h = .int .u64 (leN s j (s.size - j))) (fun _ i => (intOf i + 1).toNat)
      case atStart => exact ⟨s.size, Nat.le_refl _, by first | rfl | go_num, by simp [leN]⟩
      case round =>
        obtain ⟨j, hj, rfl, rfl⟩ := hrel
        match j, hj with
        | j + 1, hj =>
          have ej : (((j + 1 : Nat) : Int) - 1) = (j : Int) := by omega
          rw [ej]
          clear ej
          have hjs : (j : Int) < (s.size : Int) := by omega
          have hjn : j < s.size := by omega
          obtain ⟨k, hk, hk7⟩ : ∃ k, k = s.size - (j + 1) ∧ k ≤ 7 := ⟨_, rfl, by omega⟩
          have hkk : s.size - j = k + 1 := by omega
          have HK : Hid (s.size - j = k + 1) := hkk
          rw [← hk]
          clear hk hkk
          go_wp2
          go_round
          case rel => exact ⟨j, by omega, rfl, by rw [HK.out]; exact step8 s j k hjn hk7⟩
          case measure => simp [intOf]
        | 0, _ =>
          have hz : ¬ (0 : Int) ≤ ((0 : Nat) : Int) - 1 := by omega
          rw [Nat.sub_zero]
          have ht := zztext_any s w1 hm
          rw [HE.out.1, HE.out.2] at ht
          have HT : Hid (Calls Try.prog 9 #[.string s] w1 fun e w' => e = .returned (.tuple #[.int .u64 (leN s 0 s.size), .int .u64 ((0 : Nat) : Int)]) ∧ Drawn w1 w') := ht
          clear ht
          go_wp2_with fail
          refine HT.out.mono ?_
          rintro e w2 ⟨rfl, q, rfl⟩
          go_wp2
          go_ret
          exact ⟨ret_bool (by simp), q, rfl⟩
  · have hb0 : decide (s.size ≤ 1048576) = false := decide_eq_false hl
    go_enter Try.func3, Try.ntmps3
    go_wp2_with fail
    refine (bytesA_any s _ hm).mono ?_
    rintro e w1 ⟨rfl, rfl⟩
    rw [hb0]
    go_wp2
    go_ret
    exact ⟨rfl, 0, rfl⟩
end Go.Proofs.Qxb6604425a
