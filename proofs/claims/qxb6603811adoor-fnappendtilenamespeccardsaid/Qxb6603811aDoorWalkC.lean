import Derived.Test.Qxb6603811aDoorWalkB
namespace Go.Proofs.Qxb6603811aDoor
open Go.RowKit

theorem full_nil (w : World) : fullRow w (.slice none 0 0) [] := ⟨none, rfl, fun _ => rfl, fun x hx => by cases hx⟩

theorem grp_length (f : Nat) : ∀ n, (grp f n).length ≤ f := by
  induction f with
  | zero => intro n; simp [grp]
  | succ f ih =>
    intro n
    simp only [grp, List.length_cons]
    split
    · simp
    · have := ih (n / 1000); omega

theorem tile_length (i : Nat) (wd : Int) (_h : i < 18446744073709551616) (h1 : -9223372036854775808 ≤ wd) (h2 : wd ≤ 9223372036854775807) : (tile i wd).length ≤ 9223372036854775807 := by
  have hl := Lib.itoa_length_le wd h1 h2
  have hg := grp_length 7 i
  have hw := wrt_length (grp 7 i) 0
  unfold wrt at hw
  rw [if_pos rfl] at hw
  unfold tile part
  rw [List.length_append]
  split
  · simp; omega
  · simp; omega

set_option maxHeartbeats 1000000 in
theorem inj_any (i1 i2 : Nat) (w1 w2 : Int) (w : World) (h1 : i1 < 18446744073709551616) (h2 : i2 < 18446744073709551616) (a1 : -9223372036854775808 ≤ w1) (a2 : w1 ≤ 9223372036854775807) (a3 : -9223372036854775808 ≤ w2) (a4 : w2 ≤ 9223372036854775807)
    (htab : Lib.TabIs Tryd.prog w "internal/strconv.uint64pow10" .u64 Lib.pow10Tab) :
    Calls Tryd.prog 4 #[.int .u64 i1, .int .i64 w1, .int .u64 i2, .int .i64 w2] w fun e w' => e = .returned (.bool true) ∧ Below w.heap.size w w' := by
  have key := tile_inj i1 i2 w1 w2 (by omega) (by omega)
  by_cases c1 : i1 = i2
  · subst c1
    by_cases c2 : w1 = w2
    · subst c2
      clear key
      go_enter Tryd.func4, Tryd.ntmps4
      go_wp2_with fail
      refine (zzatn_any i1 w1 (.slice none 0 0) [] _ h1 a1 a2 (full_nil _) (by simp) htab).mono ?_
      rintro e wa ⟨v1, rfl, o1, b1⟩
      go_wp2_with fail
      refine (zzatn_any i1 w1 (.slice none 0 0) [] _ h2 a1 a2 (full_nil _) (by simp) (Lib.tabBelow_of_tabIs htab wa b1)).mono ?_
      rintro e wb ⟨v2, rfl, o2, b2⟩
      have r1 := (Reads.of_owned o1).below b2
      have r2 := Reads.of_owned o2
      have b3 : Below w.heap.size w wb := b1.trans (b2.mono b1.size)
      clear o1 o2
      go_wp2_with fail
      refine (eq_any v1 v2 (tile i1 w1) (tile i1 w1) _ r1 r2 (tile_length _ _ h1 a1 a2) (tile_length _ _ h2 a1 a2)).mono ?_
      rintro e w3 ⟨rfl, q, rfl⟩
      go_wp2
      go_ret
      exact ⟨ret_bool (by simp), below_drewN b3 q⟩
    · have n2 : (w1 == w2) = false := by simp [c2]
      by_cases c3 : 256 ≤ w1
      · by_cases c4 : 256 ≤ w2
        · have hdec : Hid (decide (tile i1 w1 = tile i1 w2) = true) := decide_eq_true (key.2 ⟨rfl, Or.inr ⟨c3, c4⟩⟩)
          clear key
          go_enter Tryd.func4, Tryd.ntmps4
          go_wp2_with fail
          refine (zzatn_any i1 w1 (.slice none 0 0) [] _ h1 a1 a2 (full_nil _) (by simp) htab).mono ?_
          rintro e wa ⟨v1, rfl, o1, b1⟩
          go_wp2_with fail
          refine (zzatn_any i1 w2 (.slice none 0 0) [] _ h2 a3 a4 (full_nil _) (by simp) (Lib.tabBelow_of_tabIs htab wa b1)).mono ?_
          rintro e wb ⟨v2, rfl, o2, b2⟩
          have r1 := (Reads.of_owned o1).below b2
          have r2 := Reads.of_owned o2
          have b3 : Below w.heap.size w wb := b1.trans (b2.mono b1.size)
          clear o1 o2
          go_wp2_with fail
          refine (eq_any v1 v2 (tile i1 w1) (tile i1 w2) _ r1 r2 (tile_length _ _ h1 a1 a2) (tile_length _ _ h2 a3 a4)).mono ?_
          rintro e w3 ⟨rfl, q, rfl⟩
          go_wp2
          go_ret
          exact ⟨ret_bool (by simp [hdec.out]), below_drewN b3 q⟩
        · have hdec : Hid (decide (tile i1 w1 = tile i1 w2) = false) := decide_eq_false fun h => by rcases (key.1 h).2 with h | h; exact c2 h; exact c4 h.2
          have d4 : decide (256 ≤ w2) = false := decide_eq_false c4
          clear key
          go_enter Tryd.func4, Tryd.ntmps4
          go_wp2_with fail
          refine (zzatn_any i1 w1 (.slice none 0 0) [] _ h1 a1 a2 (full_nil _) (by simp) htab).mono ?_
          rintro e wa ⟨v1, rfl, o1, b1⟩
          go_wp2_with fail
          refine (zzatn_any i1 w2 (.slice none 0 0) [] _ h2 a3 a4 (full_nil _) (by simp) (Lib.tabBelow_of_tabIs htab wa b1)).mono ?_
          rintro e wb ⟨v2, rfl, o2, b2⟩
          have r1 := (Reads.of_owned o1).below b2
          have r2 := Reads.of_owned o2
          have b3 : Below w.heap.size w wb := b1.trans (b2.mono b1.size)
          clear o1 o2
          go_wp2_with fail
          refine (eq_any v1 v2 (tile i1 w1) (tile i1 w2) _ r1 r2 (tile_length _ _ h1 a1 a2) (tile_length _ _ h2 a3 a4)).mono ?_
          rintro e w3 ⟨rfl, q, rfl⟩
          go_wp2
          go_ret
          exact ⟨ret_bool (by simp [hdec.out]), below_drewN b3 q⟩
      · have hdec : Hid (decide (tile i1 w1 = tile i1 w2) = false) := decide_eq_false fun h => by rcases (key.1 h).2 with h | h; exact c2 h; exact c3 h.1
        have d3 : decide (256 ≤ w1) = false := decide_eq_false c3
        clear key
        go_enter Tryd.func4, Tryd.ntmps4
        go_wp2_with fail
        refine (zzatn_any i1 w1 (.slice none 0 0) [] _ h1 a1 a2 (full_nil _) (by simp) htab).mono ?_
        rintro e wa ⟨v1, rfl, o1, b1⟩
        go_wp2_with fail
        refine (zzatn_any i1 w2 (.slice none 0 0) [] _ h2 a3 a4 (full_nil _) (by simp) (Lib.tabBelow_of_tabIs htab wa b1)).mono ?_
        rintro e wb ⟨v2, rfl, o2, b2⟩
        have r1 := (Reads.of_owned o1).below b2
        have r2 := Reads.of_owned o2
        have b3 : Below w.heap.size w wb := b1.trans (b2.mono b1.size)
        clear o1 o2
        go_wp2_with fail
        refine (eq_any v1 v2 (tile i1 w1) (tile i1 w2) _ r1 r2 (tile_length _ _ h1 a1 a2) (tile_length _ _ h2 a3 a4)).mono ?_
        rintro e w3 ⟨rfl, q, rfl⟩
        go_wp2
        go_ret
        exact ⟨ret_bool (by simp [hdec.out]), below_drewN b3 q⟩
  · have n1 : ((i1 : Int) == (i2 : Int)) = false := by rw [beq_eq_false_iff_ne]; omega
    have hdec : Hid (decide (tile i1 w1 = tile i2 w2) = false) := decide_eq_false fun h => c1 (key.1 h).1
    clear key
    go_enter Tryd.func4, Tryd.ntmps4
    go_wp2_with fail
    refine (zzatn_any i1 w1 (.slice none 0 0) [] _ h1 a1 a2 (full_nil _) (by simp) htab).mono ?_
    rintro e wa ⟨v1, rfl, o1, b1⟩
    go_wp2_with fail
    refine (zzatn_any i2 w2 (.slice none 0 0) [] _ h2 a3 a4 (full_nil _) (by simp) (Lib.tabBelow_of_tabIs htab wa b1)).mono ?_
    rintro e wb ⟨v2, rfl, o2, b2⟩
    have r1 := (Reads.of_owned o1).below b2
    have r2 := Reads.of_owned o2
    have b3 : Below w.heap.size w wb := b1.trans (b2.mono b1.size)
    clear o1 o2
    go_wp2_with fail
    refine (eq_any v1 v2 (tile i1 w1) (tile i2 w2) _ r1 r2 (tile_length _ _ h1 a1 a2) (tile_length _ _ h2 a3 a4)).mono ?_
    rintro e w3 ⟨rfl, q, rfl⟩
    go_wp2
    go_ret
    exact ⟨ret_bool (by simp [hdec.out]), below_drewN b3 q⟩

end Go.Proofs.Qxb6603811aDoor
