import Derived.Test.Qxb6604425aFlow
namespace Go.Proofs.Qxb6604425a
open Go.RowKit

theorem ret_boolC {a b : Bool} (h : a = b) : Ending.returned (.bool a) = .returned (.bool b) := by rw [h]
theorem wrap_step (n : Int) (i : Nat) : wrap64 (wrap64 (n + i) + 1) = wrap64 (n + ((i + 1 : Nat) : Int)) := by
  unfold wrap64
  omega
theorem wrap_zero (n : Int) (h0 : -9223372036854775808 ≤ n) (h1 : n ≤ 9223372036854775807) : wrap64 (n + ((0 : Nat) : Int)) = n := by
  unfold wrap64
  omega

theorem grown_below {a b c : World} {g : Nat} (h : Below a.heap.size a b) (hg : b.grownBy c (some g)) (hb : a.heap.size ≤ g) : Below a.heap.size a c :=
  h.grown hg h.size (fun k hk => by cases hk; exact hb)

set_option maxHeartbeats 1000000 in
theorem lawC_any (d h k : Int) (w : World) (h0 : -9223372036854775808 ≤ h) (h1 : h ≤ 9223372036854775807) :
    Calls Try.prog 6 #[.int .i64 d, .int .i64 h, .int .i64 k] w fun e w' => e = .returned (.bool true) ∧ Below w.heap.size w w' := by
  by_cases hk0 : k < 0
  · go_enter Try.func6, Try.ntmps6
    go_wp2
    go_ret
    exact ⟨rfl, Below.refl _ _⟩
  have d0 : decide (k < 0) = false := decide_eq_false hk0
  by_cases hk1 : 65536 < k
  · go_enter Try.func6, Try.ntmps6
    go_wp2
    go_ret
    exact ⟨rfl, Below.refl _ _⟩
  have d1 : decide (65536 < k) = false := decide_eq_false hk1
  obtain ⟨n, rfl⟩ := Int.eq_ofNat_of_zero_le (show 0 ≤ k by omega)
  go_enter Try.func6, Try.ntmps6
  go_wp2_with fail
  refine (new_any d h _).mono ?_
  rintro e w1 ⟨rfl, rfl⟩
  have hr1 := new_row d h w
  have hb1 : Below w.heap.size w (w.alloc (.cells #[.int .i32 0, .int .u32 0, .int .i32 0, .int .u32 0, .int .i64 d, .int .i64 h] 59)) := (Below.refl _ _).alloc (Nat.le_refl _) _
  go_wp2
  go_loopw [8] (fun i wr => ∃ j : Nat, j ≤ n ∧ i = .int .i64 j ∧ wr.rowIs w.heap.size 59 6 (fl d (wrap64 (h + (j : Int)))) ∧ Below w.heap.size w wr) (fun i _ => n - (intOf i).toNat)
  case atStart => exact ⟨0, Nat.zero_le _, rfl, by rw [wrap_zero h h0 h1]; exact hr1, hb1⟩
  case round =>
    clear hr1 hb1
    obtain ⟨j, hj, rfl, hr, hb⟩ := hrel
    by_cases hlt : j < n
    · have hlt' : (j : Int) < (n : Int) := by omega
      go_wp2_with fail
      refine (zzhold_any w.heap.size d _ _ hr).mono ?_
      rintro e w2 ⟨rfl, hr2, hg2⟩
      rw [wrap_step] at hr2
      have hb2 := grown_below hb hg2 (Nat.le_refl _)
      clear hr hg2
      go_wp2
      go_roundw
      case rel => exact ⟨j + 1, by omega, by go_num, hr2, hb2⟩
      case measure => simp [intOf]; omega
    · obtain rfl : j = n := by omega
      go_wp2_with fail
      refine (holds_any w.heap.size d _ _ hr).mono ?_
      rintro e w2 ⟨rfl, rfl⟩
      go_wp2_with fail
      refine (zzhold_any w.heap.size d _ _ hr).mono ?_
      rintro e w3 ⟨rfl, hr3, hg3⟩
      have hb3 := grown_below hb hg3 (Nat.le_refl _)
      clear hr hg3 hb
      go_wp2_with fail
      refine (holds_any w.heap.size d _ _ hr3).mono ?_
      rintro e w4 ⟨rfl, rfl⟩
      go_wp2_with (go_at_call 22; refine (depth_any w.heap.size d _ _ hr3).mono ?_; rintro e w5 ⟨rfl, rfl⟩)
      go_ret
      exact ⟨rfl, hb3⟩
end Go.Proofs.Qxb6604425a
