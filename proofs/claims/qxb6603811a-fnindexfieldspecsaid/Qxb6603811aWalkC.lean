import Derived.Test.Qxb6603811aWalkB
import Derived.Deep.RegionHeld3
import Derived.Deep.DrawnRows
namespace Go.Proofs.Qxb6603811a
open Go.RowKit

/-- what the new row holds when 'k' elements are laid -/
def conv (N C : Nat → ByteArray) (k : Nat) (j : Nat) : Value :=
  if j / 2 < k then (if j % 2 = 0 then .string (N (j / 2)) else .string (C (j / 2))) else .string ByteArray.empty

theorem conv_even (N C : Nat → ByteArray) (len i : Nat) (h : i < len) : conv N C len (i * 2) = .string (N i) := by
  have h1 : i * 2 / 2 = i := by omega
  have h2 : i * 2 % 2 = 0 := by omega
  simp [conv, h1, h2, h]
theorem conv_odd (N C : Nat → ByteArray) (len i : Nat) (h : i < len) : conv N C len (i * 2 + 1) = .string (C i) := by
  have h1 : (i * 2 + 1) / 2 = i := by omega
  have h2 : (i * 2 + 1) % 2 = 1 := by omega
  simp [conv, h1, h2, h]

theorem conv_step {N C : Nat → ByteArray} {wr : World} {g len k : Nat} (h : wr.rowIs g 28 (len * 2) (conv N C k)) (_hk : k < len) :
    ((wr.setCell ⟨g, k * 2, none⟩ (.string (N k))).setCell ⟨g, k * 2 + 1, none⟩ (.string (C k))).rowIs g 28 (len * 2) (conv N C (k + 1)) := by
  refine ((h.set (k * 2) (.string (N k))).set (k * 2 + 1) (.string (C k))).congr fun j _ => ?_
  by_cases e1 : j = k * 2 + 1
  · subst e1; simp [conv_odd N C (k + 1) k (by omega)]
  by_cases e0 : j = k * 2
  · subst e0; simp [conv_even N C (k + 1) k (by omega)]
  simp only [e1, e0, if_false]
  unfold conv
  have : (j / 2 < k + 1) ↔ (j / 2 < k) := by omega
  simp only [this]

theorem conv_made (N C : Nat → ByteArray) (w : World) (len : Nat) :
    (w.alloc (.cells (madeCells #[.string ByteArray.empty, .string ByteArray.empty] (len * 2)) 28)).rowIs w.heap.size 28 (len * 2) (conv N C 0) := by
  refine ⟨_, Go.Deep.blk_alloc_new _ _, size_madeCells _ _, fun i hi => ?_⟩
  have h2 : i % 2 = 0 ∨ i % 2 = 1 := by omega
  rcases h2 with h2 | h2 <;> simp [madeCells, hi, h2, conv]

set_option maxHeartbeats 400000 in
theorem law_any (a : Option Addr) (len cap : Nat) (N C : Nat → ByteArray) (name : ByteArray) (w : World)
    (hl : len ≤ 9223372036854775807) (hN : ∀ i, i < len → (N i).size ≤ 9223372036854775807) (hC : ∀ i, i < len → (C i).size ≤ 9223372036854775807) (hn : name.size ≤ 9223372036854775807)
    (hp : Pairs w a len N C) :
    Calls Try.prog 3 #[.slice a len cap, .string name] w fun e w' => e = .returned (.bool true) ∧ Below w.heap.size w w' := by
  by_cases hlen : (65536 : Int) < (len : Int)
  · go_enter Try.func3, Try.ntmps3
    go_wp2_with fail
    refine (bytes_any a len cap N C name _ hl hN hC hn hp).mono ?_
    rintro e w' ⟨⟨r, rfl⟩, rfl⟩
    cases r
    · go_wp2
      go_ret
      exact ⟨rfl, Below.refl _ _⟩
    · go_wp2
      go_ret
      exact ⟨rfl, Below.refl _ _⟩
  by_cases hnm : (1048576 : Int) < (name.size : Int)
  · go_enter Try.func3, Try.ntmps3
    go_wp2_with fail
    refine (bytes_any a len cap N C name _ hl hN hC hn hp).mono ?_
    rintro e w' ⟨⟨r, rfl⟩, rfl⟩
    cases r
    · go_wp2
      go_ret
      exact ⟨rfl, Below.refl _ _⟩
    · go_wp2
      go_ret
      exact ⟨rfl, Below.refl _ _⟩
  have d1 : decide ((65536 : Int) < (len : Int)) = false := decide_eq_false hlen
  have d2 : decide ((1048576 : Int) < (name.size : Int)) = false := decide_eq_false hnm
  go_enter Try.func3, Try.ntmps3
  go_wp2_with fail
  refine (bytes_any a len cap N C name _ hl hN hC hn hp).mono ?_
  rintro e w' ⟨⟨r, rfl⟩, rfl⟩
  cases r
  · go_wp2
    go_ret
    exact ⟨rfl, Below.refl _ _⟩
  go_wp2_with fail
  refine (shapeBytes_any a len cap N C _ hl hN hC hp).mono ?_
  rintro e w1 ⟨⟨n, rfl⟩, q, rfl⟩
  go_wp2_with fail
  · go_ret
    exact ⟨rfl, below_drewN (Below.refl _ _) _⟩
  refine (shape_any len (by omega) _).mono ?_
  rintro e w1 ⟨rfl, rfl⟩
  go_wp2_with fail
  go_loopw [6] (fun i wr => ∃ k : Nat, k ≤ len ∧ i = .int .i64 k ∧ wr.rowIs w'.heap.size 28 (len * 2) (conv N C k) ∧ Below w'.heap.size w' wr) (fun i _ => len - (intOf i).toNat)
  case atStart => exact ⟨0, Nat.zero_le _, rfl, conv_made N C (w'.drewN q) len, (below_drewN (Below.refl _ _) _).alloc (Nat.le_refl _) _⟩
  case round =>
    obtain ⟨k, hk, rfl, hrow, hb⟩ := hrel
    by_cases hlt : k < len
    · obtain ⟨b, off, rfl, hbl, g0, g1⟩ := hp.at hlt
      have c0 := (hb.cell (p := ⟨b, off + k * 2, none⟩) hbl).trans g0
      have c1 := (hb.cell (p := ⟨b, off + k * 2 + 1, none⟩) hbl).trans g1
      have r0 := hrow.cell (i := k * 2) (by omega)
      have r1 := hrow.cell (i := k * 2 + 1) (by omega)
      have f0 := hrow.frozen (k * 2)
      have f1 := hrow.frozen (k * 2 + 1)
      have i0 : (k : Int) < (len : Int) := by omega
      have hbl2 : b < wr.heap.size := Nat.lt_of_lt_of_le hbl hb.size
      have hg2 : w'.heap.size < wr.heap.size := hrow.lt
      clear hp hN hC g0 g1
      go_wp2
      go_region_held3 (fun w' => w'.cell? ⟨b, off + k * 2, none⟩ = some (.string (N k)) ∧ w'.cell? ⟨b, off + k * 2 + 1, none⟩ = some (.string (C k))) (simp [go_sem, *])
        (first | (go_at_call 7; refine (shapeField_any _ _ _).mono ?_; rintro e w' ⟨rfl, rfl⟩))
      all_goals go_wp2
      go_roundw
      case rel =>
        refine ⟨k + 1, by omega, by go_num, ((conv_step hrow hlt).alloc _).drew, ?_⟩
        exact (((hb.setCell (Nat.le_refl _) _).setCell (Nat.le_refl _) _).alloc (by simp; omega) _).drew
      case measure => simp [intOf]; omega
    · obtain rfl : k = len := by omega
      have hsz := hb.size
      go_wp2_with fail
      refine (ZZindexField_any w'.heap.size k N C name _ hl hrow.lt (fun i hi => (hrow.cell (by omega)).trans (by rw [conv_even N C k i hi])) (fun i hi => (hrow.cell (by omega)).trans (by rw [conv_odd N C k i hi]))).mono ?_
      rintro e w2 ⟨⟨r, rfl, hr⟩, hb2⟩
      have hb3 : Below w'.heap.size w' w2 := hb.trans (hb2.mono hsz)
      have hrb := hr.bounds
      have HR : Hid (Least (fun i => (N i).toList == name.toList) k 0 r) := hr
      clear hr hb2 hb hrow
      go_wp2
      go_loop [8, 9] (fun v i => ∃ (j : Nat) (s : Int), j ≤ k ∧ i = .int .i64 ((j : Int) - 1) ∧ v = .int .i64 s ∧ Least (fun i => (N i).toList == name.toList) k j s) (fun _ i => (intOf i + 1).toNat)
      case atStart => exact ⟨k, -1, Nat.le_refl _, rfl, rfl, Least.none _ _⟩
      case round =>
        obtain ⟨j, s, hj, rfl, rfl, hs⟩ := hrel
        have hsb := hs.bounds
        match j, hj, hs with
        | 0, _, hs =>
          have hz : ¬ (0 : Int) ≤ ((0 : Nat) : Int) - 1 := by omega
          go_wp2
          go_ret
          refine ⟨?_, hb3⟩
          rw [HR.out.unique hs]
          simp
        | j + 1, hj, hs =>
          obtain ⟨b, off, rfl, hbl, g0, g1⟩ := hp.at (i := j) (by omega)
          have c0 := (hb3.cell (p := ⟨b, off + j * 2, none⟩) hbl).trans g0
          have ej : (((j + 1 : Nat) : Int) - 1) = (j : Int) := by omega
          rw [ej]
          clear ej
          go_wp2
          · have hm : ((N j).toList == name.toList) = true := by assumption
            go_round
            case rel => exact ⟨j, j, by omega, rfl, rfl, Least.hit (by omega) hm⟩
            case measure => simp [intOf]
          · have hm : ((N j).toList == name.toList) = false := by assumption
            go_round
            case rel => exact ⟨j, s, by omega, rfl, rfl, Least.miss hs hm⟩
            case measure => simp [intOf]

end Go.Proofs.Qxb6603811a
