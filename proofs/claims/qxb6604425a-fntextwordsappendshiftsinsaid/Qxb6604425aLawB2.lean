import Derived.Test.Qxb6604425aLawB
namespace Go.Proofs.Qxb6604425a
open Go.RowKit

theorem make_bytes (n : Nat) (hn : n ≤ 1073741824) (w : World) :
    (Instr.makeSlice 28 (.int .i64 ((n : Int) + 1)) (.int .i64 ((n : Int) + 1))).run Try.prog w = .ok (.slice (some ⟨w.heap.size, 0, none⟩) (n + 1) (n + 1)) (w.alloc (.cells (madeCells #[.int .u8 0] (n + 1)) 5)) :=
  run_make_row' (P := Try.prog) 28 5 (.int .u8 0) 1 Try.underlying28 Try.info5 rfl .i64 .i64 (n + 1) (by omega) (by omega) w

set_option maxHeartbeats 400000 in
theorem bytesB_any (s : ByteArray) (x : Value) (w : World) (hm : s.size ≤ 9223372036854775807) :
    Calls Try.prog 10 #[.string s, x] w fun e w' => e = .returned (.bool (decide (s.size ≤ 1048576))) ∧ w' = w := by
  by_cases h : s.size ≤ 1048576
  · go_enter Try.func10, Try.ntmps10
    go_wp2
    go_ret
    exact ⟨ret_bool (decide_eq_true h).symm, rfl⟩
  · go_enter Try.func10, Try.ntmps10
    go_wp2
    go_ret
    exact ⟨ret_bool (decide_eq_false h).symm, rfl⟩

theorem shift_low (h c n : Nat) (hn : n < 8) (hh : h < 256 ^ n) (hc : c < 256) :
    bits BinOp.or IntKind.u64 (h : Int) (IntKind.u64.wrap ((c : Int) * 2 ^ (8 * n))) = ((h + c * 256 ^ n : Nat) : Int) := by
  have e : (256 : Nat) ^ n = 2 ^ (8 * n) := by rw [show (256 : Nat) = 2 ^ 8 from rfl, ← Nat.pow_mul]
  have hp : (2 : Nat) ^ (8 * n) ≤ 2 ^ 56 := Nat.pow_le_pow_right (by decide) (by omega)
  have h2 : c * 2 ^ (8 * n) < 18446744073709551616 := by
    have : c * 2 ^ (8 * n) ≤ 255 * 2 ^ 56 := Nat.mul_le_mul (by omega) hp
    omega
  rw [e] at hh ⊢
  have e2 : (c : Int) * 2 ^ (8 * n) = ((c * 2 ^ (8 * n) : Nat) : Int) := by push_cast; rfl
  rw [e2, u64_wrap_id _ (by omega) (by omega), u64_or_nat h _ (by omega) h2, or_low (8 * n) c h hh]
theorem shift_top (x c : Nat) (hx : x < 72057594037927936) (hc : c < 256) :
    bits BinOp.or IntKind.u64 (x : Int) ((c : Int) * 72057594037927936) = ((x + c * 256 ^ 7 : Nat) : Int) := by
  have e2 : (c : Int) * 72057594037927936 = ((c * 2 ^ 56 : Nat) : Int) := by omega
  rw [e2, u64_or_nat x _ (by omega) (by omega), or_low 56 c x (by omega)]
theorem head_lt (s : ByteArray) (h : s.size < 8) : headN s < 256 ^ s.size := by
  unfold headN
  rw [show min 8 s.size = s.size by omega]
  exact leN_lt s _ _

/-- the contract of ZZtextWords at the two words as they are wanted (a plain name, which the walk does not open) -/
def TextC (s : ByteArray) (w : World) (a b : Int) : Prop := Calls Try.prog 9 #[.string s] w fun e w' => e = .returned (.tuple #[.int .u64 a, .int .u64 b]) ∧ Drawn w w'
theorem TextC.run {s : ByteArray} {w : World} {a b : Int} (h : TextC s w a b) : Calls Try.prog 9 #[.string s] w fun e w' => e = .returned (.tuple #[.int .u64 a, .int .u64 b]) ∧ Drawn w w' := h
theorem textC (s : ByteArray) (w : World) (hm : s.size ≤ 9223372036854775807) {a b : Int} (ha : (headN s : Int) = a) (hb : (tailN s : Int) = b) : TextC s w a b := by
  subst ha
  subst hb
  exact zztext_any s w hm

set_option maxHeartbeats 1000000 in
theorem lawB_any (s : ByteArray) (c : Nat) (w : World) (hm : s.size ≤ 9223372036854775807) (hc : c < 256) :
    Calls Try.prog 4 #[.string s, .int .u8 c] w fun e w' => e = .returned (.bool true) ∧ Below w.heap.size w w' := by
  by_cases hl : s.size ≤ 1048576
  · have hb0 : decide (s.size ≤ 1048576) = true := decide_eq_true hl
    obtain ⟨w1, hcp, hrow, hb1⟩ := copied s w
    have hmk := make_bytes s.size (by omega)
    have hcv := snoc_row hc hrow
    have c0 := hrow.cell (i := s.size) (by omega)
    have f0 := hrow.frozen s.size
    have hz := hb1.setCell (p := ⟨w.heap.size, s.size, none⟩) (Nat.le_refl _) (.int .u8 (c : Int))
    have hns : (s.size : Int) < (s.size : Int) + 1 := by omega
    have htm : (snoc s c).size ≤ 9223372036854775807 := by rw [snoc_size]; omega
    by_cases h8 : s.size < 8
    · have e0 : (tailN s : Int) = 0 := by rw [tail_short s (by omega)]; rfl
      have e1 : (tailN (snoc s c) : Int) = 0 := by rw [tail_short (snoc s c) (by rw [snoc_size]; omega)]; rfl
      by_cases hn0 : s.size = 0
      · have e2 : (headN s : Int) = 0 := by unfold headN; rw [hn0]; rfl
        have CA := textC s (w1.setCell ⟨w.heap.size, s.size, none⟩ (.int .u8 (c : Int))) hm e2 e0
        have CB := fun q => textC (snoc s c) ((w1.setCell ⟨w.heap.size, s.size, none⟩ (.int .u8 (c : Int))).drewN q) htm rfl e1
        have HN0 : Hid (s.size = 0) := hn0
        have hnz : ((s.size : Int) != 0) = false := by rw [bne_eq_false_iff_eq]; omega
        clear e0 e1 e2 hn0
        go_enter Try.func4, Try.ntmps4
        go_wp2_with fail
        refine (bytesB_any s _ _ hm).mono ?_
        rintro e w0 ⟨rfl, rfl⟩
        rw [hb0]
        go_wp2_with (refine Lib.wpList_copy_run _ rfl (.tmp 23) (.tmp 24) 28 9 rfl _ _ rfl rfl (hcp _) ?_)
        refine CA.run.mono ?_
        rintro e w2 ⟨rfl, q, rfl⟩
        go_wp2_with fail
        refine (CB q).run.mono ?_
        rintro e w3 ⟨rfl, q2, rfl⟩
        go_wp2
        go_ret
        refine ⟨ret_bool ?_, below_drewN hz _⟩
        have h0 : headN s = 0 := by unfold headN; rw [HN0.out]; rfl
        rw [beq_iff_eq, head_short s c hc h8, h0]
        exact (shift_low 0 c s.size h8 (by rw [HN0.out]; decide) hc).symm
      · have CA := textC s (w1.setCell ⟨w.heap.size, s.size, none⟩ (.int .u8 (c : Int))) hm rfl e0
        have CB := fun q => textC (snoc s c) ((w1.setCell ⟨w.heap.size, s.size, none⟩ (.int .u8 (c : Int))).drewN q) htm rfl e1
        have hnz : ((s.size : Int) != 0) = true := by rw [bne_iff_ne]; omega
        clear e0 e1
        go_enter Try.func4, Try.ntmps4
        go_wp2_with fail
        refine (bytesB_any s _ _ hm).mono ?_
        rintro e w0 ⟨rfl, rfl⟩
        rw [hb0]
        go_wp2_with (refine Lib.wpList_copy_run _ rfl (.tmp 23) (.tmp 24) 28 9 rfl _ _ rfl rfl (hcp _) ?_)
        refine CA.run.mono ?_
        rintro e w2 ⟨rfl, q, rfl⟩
        go_wp2_with fail
        refine (CB q).run.mono ?_
        rintro e w3 ⟨rfl, q2, rfl⟩
        go_wp2
        go_ret
        refine ⟨ret_bool ?_, below_drewN hz _⟩
        rw [beq_iff_eq, head_short s c hc h8]
        exact (shift_low (headN s) c s.size h8 (head_lt s h8) hc).symm
    · have e1 : (headN (snoc s c) : Int) = headN s := by rw [head_long s c (by omega)]
      by_cases hn8 : s.size = 8
      · have e0 : (tailN s : Int) = 0 := by rw [tail_short s (by omega)]; rfl
        have CA := textC s (w1.setCell ⟨w.heap.size, s.size, none⟩ (.int .u8 (c : Int))) hm rfl e0
        have CB := fun q => textC (snoc s c) ((w1.setCell ⟨w.heap.size, s.size, none⟩ (.int .u8 (c : Int))).drewN q) htm e1 rfl
        have HN8 : Hid (s.size = 8) := hn8
        have hnz : ((s.size : Int) == 8) = true := by rw [beq_iff_eq]; omega
        clear e0 e1 hn8
        go_enter Try.func4, Try.ntmps4
        go_wp2_with fail
        refine (bytesB_any s _ _ hm).mono ?_
        rintro e w0 ⟨rfl, rfl⟩
        rw [hb0]
        go_wp2_with (refine Lib.wpList_copy_run _ rfl (.tmp 23) (.tmp 24) 28 9 rfl _ _ rfl rfl (hcp _) ?_)
        refine CA.run.mono ?_
        rintro e w2 ⟨rfl, q, rfl⟩
        go_wp2_with fail
        refine (CB q).run.mono ?_
        rintro e w3 ⟨rfl, q2, rfl⟩
        go_wp2
        go_ret
        refine ⟨ret_bool ?_, below_drewN hz _⟩
        have h1 : headN s / 256 = leN s (s.size - 7) 7 := by
          unfold headN
          rw [HN8.out]
          exact low7 s 0
        have h2 := leN_lt s 7 (s.size - 7)
        rw [beq_iff_eq, tail_snoc s c hc (by omega), ← h1]
        exact (shift_top (headN s / 256) c (by rw [h1]; omega) hc).symm
      · have CA := textC s (w1.setCell ⟨w.heap.size, s.size, none⟩ (.int .u8 (c : Int))) hm rfl rfl
        have CB := fun q => textC (snoc s c) ((w1.setCell ⟨w.heap.size, s.size, none⟩ (.int .u8 (c : Int))).drewN q) htm e1 rfl
        have hnz : ((s.size : Int) == 8) = false := by rw [beq_eq_false_iff_ne]; omega
        clear e1
        go_enter Try.func4, Try.ntmps4
        go_wp2_with fail
        refine (bytesB_any s _ _ hm).mono ?_
        rintro e w0 ⟨rfl, rfl⟩
        rw [hb0]
        go_wp2_with (refine Lib.wpList_copy_run _ rfl (.tmp 23) (.tmp 24) 28 9 rfl _ _ rfl rfl (hcp _) ?_)
        refine CA.run.mono ?_
        rintro e w2 ⟨rfl, q, rfl⟩
        go_wp2_with fail
        refine (CB q).run.mono ?_
        rintro e w3 ⟨rfl, q2, rfl⟩
        go_wp2
        go_ret
        refine ⟨ret_bool ?_, below_drewN hz _⟩
        have h1 : tailN s / 256 = leN s (s.size - 7) 7 := by
          unfold tailN
          rw [if_pos (by omega), low7, show s.size - 8 + 1 = s.size - 7 by omega]
        have h2 := leN_lt s 7 (s.size - 7)
        rw [beq_iff_eq, tail_snoc s c hc (by omega), ← h1]
        exact (shift_top (tailN s / 256) c (by rw [h1]; omega) hc).symm
  · have hb0 : decide (s.size ≤ 1048576) = false := decide_eq_false hl
    go_enter Try.func4, Try.ntmps4
    go_wp2_with fail
    refine (bytesB_any s _ _ hm).mono ?_
    rintro e w1 ⟨rfl, rfl⟩
    rw [hb0]
    go_wp2
    go_ret
    exact ⟨rfl, Below.refl _ _⟩
end Go.Proofs.Qxb6604425a
