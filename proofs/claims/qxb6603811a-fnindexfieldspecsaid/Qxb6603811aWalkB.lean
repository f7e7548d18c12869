import Derived.Test.Qxb6603811aWalkA
namespace Go.Proofs.Qxb6603811a
open Go.RowKit

theorem Try.info28 : (Try.prog.info? 28).map (fun i => (i.zero, i.size, i.bytes)) = some (some (.agg #[.string ByteArray.empty, .string ByteArray.empty]), 2, 32) := by kernel_rfl

/-- what 'make' lays for a row of pairs -/
theorem make_pairs (n : Nat) (hn : n ≤ 1048576) (w : World) :
    (Instr.makeSlice 25 (.int .i64 (n : Int)) (.int .i64 (n : Int))).run Try.prog w = .ok (.slice (some ⟨w.heap.size, 0, none⟩) n n) (w.alloc (.cells (madeCells #[.string ByteArray.empty, .string ByteArray.empty] (n * 2)) 28)) := by
  obtain ⟨i, hi, hzz⟩ := Option.map_eq_some_iff.1 Try.info28
  simp only [Prod.mk.injEq] at hzz
  obtain ⟨hz, hs, hb⟩ := hzz
  have hr := run_make (P := Try.prog) w 25 28 i _ Try.underlying25 hi hz .i64 .i64 n n (by omega) (Int.le_refl _) (by rw [hb]; omega) (by omega)
  simp only [Int.toNat_natCast, hs] at hr
  exact hr

set_option maxHeartbeats 400000 in
theorem shape_any (n : Nat) (hn : n ≤ 1048576) (w : World) :
    Calls Try.prog 6 #[.int .i64 n] w fun e w' => e = .returned (.slice (some ⟨w.heap.size, 0, none⟩) n n) ∧ w' = w.alloc (.cells (madeCells #[.string ByteArray.empty, .string ByteArray.empty] (n * 2)) 28) := by
  have hmk := make_pairs n hn
  go_enter Try.func6, Try.ntmps6
  go_wp2
  go_ret
  exact ⟨rfl, rfl⟩

set_option maxHeartbeats 400000 in
theorem shapeField_any (a c : ByteArray) (w : World) :
    Calls Try.prog 7 #[.string a, .string c] w fun e w' => e = .returned (.agg #[.string a, .string c]) ∧ w' = w.alloc (.cells #[.string a, .string c] 28) := by
  go_enter Try.func7, Try.ntmps7
  go_wp2
  exact bodyPost_ret (v := .agg #[.string a, .string c]) (by simp [results, Try.results7, go_sem]) rfl ⟨rfl, rfl⟩

/-- the answer of a search from the front: 'r' is the least index from 'j' on that bears the name, or -1 -/
def Least (M : Nat → Bool) (len j : Nat) (r : Int) : Prop :=
  (r = -1 ∧ ∀ i, j ≤ i → i < len → M i = false) ∨ ∃ m : Nat, r = m ∧ j ≤ m ∧ m < len ∧ M m = true ∧ ∀ i, j ≤ i → i < m → M i = false

theorem Least.unique {M : Nat → Bool} {len j : Nat} {r s : Int} (hr : Least M len j r) (hs : Least M len j s) : r = s := by
  rcases hr with ⟨rfl, hr⟩ | ⟨m, rfl, h1, h2, h3, h4⟩
  · rcases hs with ⟨rfl, _⟩ | ⟨k, rfl, k1, k2, k3, _⟩
    · rfl
    · rw [hr k k1 k2] at k3; cases k3
  · rcases hs with ⟨rfl, hs⟩ | ⟨k, rfl, k1, k2, k3, k4⟩
    · rw [hs m h1 h2] at h3; cases h3
    · rcases Nat.lt_trichotomy m k with h | h | h
      · rw [k4 m h1 h] at h3; cases h3
      · rw [h]
      · rw [h4 k k1 h] at k3; cases k3

theorem Least.hit {M : Nat → Bool} {len j : Nat} (hj : j < len) (hm : M j = true) : Least M len j (j : Int) :=
  Or.inr ⟨j, rfl, Nat.le_refl _, hj, hm, fun i h1 h2 => by omega⟩

theorem Least.miss {M : Nat → Bool} {len j : Nat} {r : Int} (h : Least M len (j + 1) r) (hm : M j = false) : Least M len j r := by
  rcases h with ⟨rfl, h⟩ | ⟨m, rfl, h1, h2, h3, h4⟩
  · refine Or.inl ⟨rfl, fun i hi hl => ?_⟩
    rcases Nat.eq_or_lt_of_le hi with rfl | h'
    · exact hm
    · exact h i h' hl
  · refine Or.inr ⟨m, rfl, by omega, h2, h3, fun i hi hl => ?_⟩
    rcases Nat.eq_or_lt_of_le hi with rfl | h'
    · exact hm
    · exact h4 i h' hl

theorem Least.none (M : Nat → Bool) (len : Nat) : Least M len len (-1) := Or.inl ⟨rfl, fun i h1 h2 => by omega⟩

theorem Least.bounds {M : Nat → Bool} {len j : Nat} {r : Int} (h : Least M len j r) : -1 ≤ r ∧ r ≤ len := by
  rcases h with ⟨rfl, _⟩ | ⟨m, rfl, h1, h2, _⟩ <;> omega

set_option maxHeartbeats 400000 in
theorem indexField_any (g len : Nat) (N C : Nat → ByteArray) (name : ByteArray) (w : World)
    (hl : len ≤ 9223372036854775807) (hg : g < w.heap.size)
    (h0 : ∀ i, i < len → w.cell? ⟨g, i * 2, none⟩ = some (.string (N i)))
    (h1 : ∀ i, i < len → w.cell? ⟨g, i * 2 + 1, none⟩ = some (.string (C i))) :
    Calls Try.prog 9 #[.slice (some ⟨g, 0, none⟩) len len, .string name] w fun e w' => (∃ r, e = .returned (.int .i64 r) ∧ Least (fun i => (N i).toList == name.toList) len 0 r) ∧ Below w.heap.size w w' := by
  go_enter Try.func9, Try.ntmps9
  go_wp2
  go_loopw [9] (fun i wr => ∃ k : Nat, k ≤ len ∧ i = .int .i64 k ∧ Hid (∀ j, j < k → ((N j).toList == name.toList) = false) ∧ Below w.heap.size w wr) (fun i _ => len - (intOf i).toNat)
  case atStart => exact ⟨0, Nat.zero_le _, rfl, fun j h => by omega, Below.refl _ _⟩
  case round =>
    obtain ⟨k, hk, rfl, hno, hb⟩ := hrel
    by_cases hlt : k < len
    · have g0 := (hb.cell (p := ⟨g, k * 2, none⟩) hg).trans (h0 k hlt)
      have g1 := (hb.cell (p := ⟨g, k * 2 + 1, none⟩) hg).trans (h1 k hlt)
      clear h0 h1
      go_wp2
      case roundEnd =>
        have hm : ((N k).toList == name.toList) = false := by assumption
        go_roundw
        case rel =>
          refine ⟨k + 1, by omega, by go_num, fun j hj => ?_, hb.alloc hb.size _⟩
          rcases Nat.eq_or_lt_of_le (Nat.le_of_lt_succ hj) with rfl | h'
          · exact hm
          · exact hno.out j h'
        case measure => simp [intOf]; omega
      · have hm : ((N k).toList == name.toList) = true := by assumption
        go_ret
        exact ⟨⟨_, rfl, Or.inr ⟨k, rfl, Nat.zero_le _, hlt, hm, fun i _ hi => hno.out i hi⟩⟩, hb.alloc hb.size _⟩
    · go_wp2
      go_ret
      exact ⟨⟨_, rfl, Or.inl ⟨rfl, fun i _ hi => hno.out i (by omega)⟩⟩, hb⟩

set_option maxHeartbeats 400000 in
theorem ZZindexField_any (g len : Nat) (N C : Nat → ByteArray) (name : ByteArray) (w : World)
    (hl : len ≤ 9223372036854775807) (hg : g < w.heap.size)
    (h0 : ∀ i, i < len → w.cell? ⟨g, i * 2, none⟩ = some (.string (N i)))
    (h1 : ∀ i, i < len → w.cell? ⟨g, i * 2 + 1, none⟩ = some (.string (C i))) :
    Calls Try.prog 8 #[.slice (some ⟨g, 0, none⟩) len len, .string name] w fun e w' => (∃ r, e = .returned (.int .i64 r) ∧ Least (fun i => (N i).toList == name.toList) len 0 r) ∧ Below w.heap.size w w' := by
  go_enter Try.func8, Try.ntmps8
  go_wp2_with fail
  refine (indexField_any g len N C name _ hl hg h0 h1).mono ?_
  rintro e w' ⟨⟨r, rfl, hr⟩, hb⟩
  go_wp2
  go_ret
  exact ⟨⟨_, rfl, hr⟩, hb⟩

end Go.Proofs.Qxb6603811a
