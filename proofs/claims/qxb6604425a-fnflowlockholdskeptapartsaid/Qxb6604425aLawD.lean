import Derived.Test.Qxb6604425aLawC
import Derived.Lib.SlBuf
import Derived.Deep.OwnRows
namespace Go.Proofs.Qxb6604425a
open Go.RowKit

theorem Try.info4 : (Try.prog.info? 4).map (fun i => (i.zero, i.size, i.bytes)) = some (some (.bool false), 1, 1) := by kernel_rfl
theorem Try.size4 : (Try.prog.info? 4).map (·.size) = some 1 := by kernel_rfl

/-- what the walk is told of a slice of bools -/
def BoolsAt (w : World) (a : Option Addr) (len : Nat) (B : Nat → Bool) : Prop :=
  len = 0 ∨ ∃ g off : Nat, a = some ⟨g, off, none⟩ ∧ g < w.heap.size ∧ ∀ i, i < len → w.cell? ⟨g, off + i, none⟩ = some (.bool (B i))

theorem BoolsAt.below {w w' : World} {a : Option Addr} {len : Nat} {B : Nat → Bool} (h : BoolsAt w a len B) (hb : Below w.heap.size w w') : BoolsAt w' a len B := by
  rcases h with h | ⟨g, off, h1, h2, h3⟩
  · exact .inl h
  · exact .inr ⟨g, off, h1, Nat.lt_of_lt_of_le h2 hb.size, fun i hi => (hb.cell (p := ⟨g, off + i, none⟩) h2).trans (h3 i hi)⟩

theorem make_bools (n : Nat) (hn : n ≤ 1073741824) (w : World) :
    (Instr.makeSlice 45 (.int .i64 (n : Int)) (.int .i64 (n : Int))).run Try.prog w = .ok (.slice (some ⟨w.heap.size, 0, none⟩) n n) (w.alloc (.cells (madeCells #[.bool false] n) 4)) :=
  run_make_row' (P := Try.prog) 45 4 (.bool false) 1 Try.underlying45 Try.info4 rfl .i64 .i64 n (by omega) (by omega) w

theorem copiedB (x : Addr) (len cap : Nat) (B : Nat → Bool) (w : World) (h : BoolsAt w (some x) len B) :
    ∃ w1, (∀ ty, (Builtin.copy_ #[45, 45] ty #[.slice (some ⟨w.heap.size, 0, none⟩) len len, .slice (some x) len cap]).run Try.prog (w.alloc (.cells (madeCells #[.bool false] len) 4)) = .ok (goInt len) w1) ∧ BoolsAt w1 (some ⟨w.heap.size, 0, none⟩) len B ∧ Below w.heap.size w w1 := by
  have hcl : ((List.range len).map fun i => Value.bool (B i)).length = len := by simp
  have hr := fun ty => run_copy_row (P := Try.prog) (w.alloc (.cells (madeCells #[.bool false] len) 4)) 45 45 ty 4 w.heap.size 0 len len x len cap (madeCells #[.bool false] len) 4 ((List.range len).map fun i => Value.bool (B i)) Try.underlying45 Try.size4 (heap_alloc_new w _)
    (by simp) (fun j v hj => by
      have hjl : j < len := by have := (List.getElem?_eq_some_iff.1 hj).1; simpa using this
      rcases h with h | ⟨g, off, h1, h2, h3⟩
      · omega
      · cases h1
        rw [Addr.add_lit, World.cell?_alloc_past (hn := h2), h3 j hjl, ← hj]
        simp [hjl]) (by rw [size_madeCells]; simp) (fun v hv => by
      simp only [List.mem_map] at hv
      obtain ⟨i, _, rfl⟩ := hv
      rfl)
  rw [hcl] at hr
  refine ⟨_, hr, ?_, ((Below.refl _ w).alloc (Nat.le_refl _) _).trans ⟨rfl, rfl, rfl, by simp, fun k hk => setRow_other _ _ k _ (by omega)⟩⟩
  refine .inr ⟨w.heap.size, 0, rfl, by simp, fun i hi => ?_⟩
  rw [cell_of_row _ _ _ _ _ _ (setRow_heap _ _ _ _ _ _ (heap_alloc_new w _))]
  simp only [List.take_zero, List.nil_append, Nat.zero_add, List.getElem?_toArray]
  rw [List.getElem?_append_left (by simpa using hi)]
  simp [hi]

set_option maxHeartbeats 400000 in
theorem cloneB_any (a : Option Addr) (len cap : Nat) (B : Nat → Bool) (w : World) (h : BoolsAt w a len B) (ha : a = none → len = 0) (hl : len ≤ 65536) :
    Calls Try.prog 24 #[.slice a len cap] w fun e w' => (∃ a' cap', e = .returned (.slice a' len cap') ∧ BoolsAt w' a' len B) ∧ Below w.heap.size w w' := by
  have heq := fun wx => Lib.run_eql_slice_nil (P := Try.prog) wx 45 4 a len cap 0 0 Try.underlying45
  cases a with
  | none =>
    have hz := ha rfl
    subst hz
    clear ha h hl
    go_enter Try.func24, Try.ntmps24
    go_wp2
    go_ret
    exact ⟨⟨_, _, rfl, .inl rfl⟩, Below.refl _ _⟩
  | some x =>
    obtain ⟨w1, hcp, hB, hb⟩ := copiedB x len cap B w h
    have hmk := make_bools len (by omega)
    clear ha h
    go_enter Try.func24, Try.ntmps24
    go_wp2_with (refine Lib.wpList_copy_run _ rfl (.tmp 9) (.tmp 10) 45 45 rfl _ _ rfl rfl (hcp _) ?_)
    go_ret
    exact ⟨⟨_, _, rfl, hB⟩, hb⟩

set_option maxHeartbeats 400000 in
theorem bytesD_any (a : Option Addr) (len cap : Nat) (x y : Value) (w : World) (hl : len ≤ 9223372036854775807) :
    Calls Try.prog 23 #[x, y, .slice a len cap] w fun e w' => e = .returned (.bool (decide (len ≤ 1048576))) ∧ w' = w := by
  by_cases h : len ≤ 1048576
  · go_enter Try.func23, Try.ntmps23
    go_wp2
    go_ret
    exact ⟨ret_boolC (decide_eq_true h).symm, rfl⟩
  · go_enter Try.func23, Try.ntmps23
    go_wp2
    go_ret
    exact ⟨ret_boolC (decide_eq_false h).symm, rfl⟩

/-- how many of the first k say so -/
def cnt (B : Nat → Bool) (c : Bool) : Nat → Nat
  | 0 => 0
  | k + 1 => cnt B c k + (if B k = c then 1 else 0)
theorem cnt_le (B : Nat → Bool) (c : Bool) (k : Nat) : cnt B c k ≤ k := by
  induction k with
  | zero => exact Nat.le_refl _
  | succ k ih => simp only [cnt]; split <;> omega

set_option maxHeartbeats 1000000 in
theorem lawD_any (a0 b0 : Int) (a : Option Addr) (len cap : Nat) (B : Nat → Bool) (w : World) (ha0 : -9223372036854775808 ≤ a0) (ha1 : a0 ≤ 9223372036854775807) (hb0 : -9223372036854775808 ≤ b0) (hb1 : b0 ≤ 9223372036854775807)
    (h : BoolsAt w a len B) (ha : a = none → len = 0) (hl : len ≤ 9223372036854775807) :
    Calls Try.prog 7 #[.int .i64 a0, .int .i64 b0, .slice a len cap] w fun e w' => e = .returned (.bool true) ∧ Below w.heap.size w w' := by
  by_cases hlen : 65536 < len
  · by_cases hlen2 : len ≤ 1048576
    · have hd : decide (len ≤ 1048576) = true := decide_eq_true hlen2
      go_enter Try.func7, Try.ntmps7
      go_wp2_with fail
      refine (bytesD_any a len cap _ _ _ hl).mono ?_
      rintro e w0 ⟨rfl, rfl⟩
      rw [hd]
      go_wp2
      go_ret
      exact ⟨rfl, Below.refl _ _⟩
    · have hd : decide (len ≤ 1048576) = false := decide_eq_false hlen2
      go_enter Try.func7, Try.ntmps7
      go_wp2_with fail
      refine (bytesD_any a len cap _ _ _ hl).mono ?_
      rintro e w0 ⟨rfl, rfl⟩
      rw [hd]
      go_wp2
      go_ret
      exact ⟨rfl, Below.refl _ _⟩
  have hd : decide (len ≤ 1048576) = true := decide_eq_true (by omega)
  go_enter Try.func7, Try.ntmps7
  go_wp2_with fail
  refine (bytesD_any a len cap _ _ _ hl).mono ?_
  rintro e w0 ⟨rfl, rfl⟩
  rw [hd]
  go_wp2_with fail
  refine (cloneB_any a len cap B _ h ha (by omega)).mono ?_
  rintro e w1 ⟨⟨a', cap', rfl, hB⟩, hb1'⟩
  go_wp2_with fail
  refine (new_any 0 a0 _).mono ?_
  rintro e w2 ⟨rfl, rfl⟩
  go_wp2_with fail
  refine (new_any 0 b0 _).mono ?_
  rintro e w2 ⟨rfl, rfl⟩
  have ra := (new_row 0 a0 w1).alloc (.cells #[.int .i32 0, .int .u32 0, .int .i32 0, .int .u32 0, .int .i64 0, .int .i64 b0] 59)
  have rb := new_row 0 b0 (w1.alloc (.cells #[.int .i32 0, .int .u32 0, .int .i32 0, .int .u32 0, .int .i64 0, .int .i64 a0] 59))
  have hbb : Below w1.heap.size w1 ((w1.alloc (.cells #[.int .i32 0, .int .u32 0, .int .i32 0, .int .u32 0, .int .i64 0, .int .i64 a0] 59)).alloc (.cells #[.int .i32 0, .int .u32 0, .int .i32 0, .int .u32 0, .int .i64 0, .int .i64 b0] 59)) := ((Below.refl _ _).alloc (Nat.le_refl _) _).alloc (by simp) _
  rw [show (w1.alloc (.cells #[.int .i32 0, .int .u32 0, .int .i32 0, .int .u32 0, .int .i64 0, .int .i64 a0] 59)).heap.size = w1.heap.size + 1 by simp] at rb
  have hPw : w0.heap.size ≤ w1.heap.size := hb1'.size
  go_wp2
  go_loopw [9, 10, 11] (fun x y i wr => ∃ j : Nat, j ≤ len ∧ i = .int .i64 j ∧ x = .int .i64 (cnt B true j) ∧ y = .int .i64 (cnt B false j) ∧ wr.rowIs w1.heap.size 59 6 (fl 0 (wrap64 (a0 + (cnt B true j : Int)))) ∧ wr.rowIs (w1.heap.size + 1) 59 6 (fl 0 (wrap64 (b0 + (cnt B false j : Int)))) ∧ Below w1.heap.size w1 wr) (fun _ _ i _ => len - (intOf i).toNat)
  case atStart => exact ⟨0, Nat.zero_le _, rfl, rfl, rfl, by show World.rowIs _ _ _ _ (fl 0 (wrap64 (a0 + ((0 : Nat) : Int)))); rw [wrap_zero a0 ha0 ha1]; exact ra, by show World.rowIs _ _ _ _ (fl 0 (wrap64 (b0 + ((0 : Nat) : Int)))); rw [wrap_zero b0 hb0 hb1]; exact rb, hbb⟩
  case round =>
    clear ra rb hbb
    obtain ⟨j, hj, rfl, rfl, rfl, ra, rb, hbw⟩ := hrel
    have ca := cnt_le B true j
    have cb := cnt_le B false j
    by_cases hlt : j < len
    · have hlt' : (j : Int) < (len : Int) := by omega
      obtain ⟨g, off, hx, hg, hc⟩ : ∃ g off : Nat, a' = some ⟨g, off, none⟩ ∧ g < w1.heap.size ∧ ∀ i, i < len → w1.cell? ⟨g, off + i, none⟩ = some (.bool (B i)) := by
        rcases hB with h0 | h0
        · omega
        · exact h0
      subst hx
      have c0 := (hbw.cell (p := ⟨g, off + j, none⟩) hg).trans (hc j hlt)
      obtain ⟨t, ht⟩ : ∃ t, t = B j := ⟨_, rfl⟩
      rw [← ht] at c0
      have HT : Hid (t = B j) := ht
      clear ht hc
      cases t
      · go_wp2_with fail
        refine (zzhold_any (w1.heap.size + 1) 0 _ _ rb).mono ?_
        rintro e w3 ⟨rfl, rb3, hg3⟩
        rw [wrap_step] at rb3
        have ra3 := ra.of_block (hg3.block w1.heap.size ra.lt (by simp))
        have hb3 := hbw.grown hg3 (by have := ra.lt; omega) (fun k hk => by cases hk; omega)
        have e1 : cnt B true (j + 1) = cnt B true j := by simp [cnt, ← HT.out]
        have e2 : cnt B false (j + 1) = cnt B false j + 1 := by simp [cnt, ← HT.out]
        have HE : Hid (cnt B true (j + 1) = cnt B true j ∧ cnt B false (j + 1) = cnt B false j + 1) := ⟨e1, e2⟩
        clear ra rb hg3 hbw c0 e1 e2
        go_wp2
        go_roundw
        case rel => exact ⟨j + 1, by omega, by go_num, by rw [HE.out.1], by rw [HE.out.2]; go_num, by rw [HE.out.1]; exact ra3, by rw [HE.out.2]; exact rb3, hb3⟩
        case measure => simp [intOf]; omega
      · go_wp2_with fail
        refine (zzhold_any w1.heap.size 0 _ _ ra).mono ?_
        rintro e w3 ⟨rfl, ra3, hg3⟩
        rw [wrap_step] at ra3
        have rb3 := rb.of_block (hg3.block (w1.heap.size + 1) rb.lt (by simp))
        have hb3 := hbw.grown hg3 (by have := ra.lt; omega) (fun k hk => by cases hk; omega)
        have e1 : cnt B true (j + 1) = cnt B true j + 1 := by simp [cnt, ← HT.out]
        have e2 : cnt B false (j + 1) = cnt B false j := by simp [cnt, ← HT.out]
        have HE : Hid (cnt B true (j + 1) = cnt B true j + 1 ∧ cnt B false (j + 1) = cnt B false j) := ⟨e1, e2⟩
        clear ra rb hg3 hbw c0 e1 e2
        go_wp2
        go_roundw
        case rel => exact ⟨j + 1, by omega, by go_num, by rw [HE.out.1]; go_num, by rw [HE.out.2], by rw [HE.out.1]; exact ra3, by rw [HE.out.2]; exact rb3, hb3⟩
        case measure => simp [intOf]; omega
    · obtain rfl : j = len := by omega
      go_wp2_with fail
      refine (holds_any w1.heap.size 0 _ _ ra).mono ?_
      rintro e w3 ⟨rfl, rfl⟩
      go_wp2_with (go_at_call 21; refine (holds_any (w1.heap.size + 1) 0 _ _ rb).mono ?_; rintro e w4 ⟨rfl, rfl⟩)
      go_ret
      exact ⟨rfl, hb1'.trans (hbw.mono hPw)⟩
end Go.Proofs.Qxb6604425a
