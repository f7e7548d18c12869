import Derived.Test.Qxb6603811aDoorWalkA
namespace Go.Proofs.Qxb6603811aDoor
open Go.RowKit

set_option maxHeartbeats 400000 in
theorem zzatn_any (idx : Nat) (width : Int) (v : Value) (xs : List Value) (w : World) (hidx : idx < 18446744073709551616) (hw0 : -9223372036854775808 ≤ width) (hw1 : width ≤ 9223372036854775807)
    (hfull : fullRow w v xs) (hlen : xs.length ≤ 1073741824) (htab : Lib.TabIs Tryd.prog w "internal/strconv.uint64pow10" .u64 Lib.pow10Tab) :
    Calls Tryd.prog 8 #[v, .int .u64 idx, .int .i64 width] w fun e w' => ∃ v', e = .returned v' ∧ w'.ownsRow w.heap.size 5 1 v' (xs.length + (tile idx width).length) (xs ++ Lib.byteCells (tile idx width)) ∧ Below w.heap.size w w' := by
  go_enter Tryd.func8, Tryd.ntmps8
  go_wp2_with fail
  refine (atn_any idx width v xs _ hidx hw0 hw1 hfull hlen htab).mono ?_
  rintro e w' ⟨v', rfl, h1, h2⟩
  go_wp2
  go_ret
  exact ⟨v', rfl, h1, h2⟩

/-- the bytes that a slice reads as -/
def Reads (w : World) (v : Value) (l : List UInt8) : Prop :=
  ∃ (a : Option Addr) (cap : Nat), v = .slice a l.length cap ∧ (l = [] ∨ ∃ g off : Nat, a = some ⟨g, off, none⟩ ∧ g < w.heap.size ∧ ∀ j, j < l.length → w.cell? ⟨g, off + j, none⟩ = some (.int .u8 ((l.getD j 0).toNat : Int)))

theorem Reads.of_owned {w : World} {B : Nat} {v : Value} {n : Nat} {l : List UInt8} (h : w.ownsRow B 5 1 v n (Lib.byteCells l)) : Reads w v l := by
  have hn : n = l.length := by have := h.1; rw [bc_length] at this; omega
  subst hn
  by_cases h0 : l.length = 0
  · have hl : l = [] := List.eq_nil_of_length_eq_zero h0
    subst hl
    rcases h.2 with ⟨rfl, _⟩ | ⟨g, cap, cur, rfl, _⟩
    · exact ⟨none, 0, rfl, Or.inl rfl⟩
    · exact ⟨_, cap, rfl, Or.inl rfl⟩
  · obtain ⟨g, cap, rfl, _, hlt, _, _, hc, _⟩ := owned_cell h (by omega)
    refine ⟨_, cap, rfl, Or.inr ⟨g, 0, rfl, hlt, fun j hj => ?_⟩⟩
    rw [Nat.zero_add, hc j hj]
    simp [Lib.byteCells, hj, List.getD]

theorem Reads.below {w w' : World} {v : Value} {l : List UInt8} (h : Reads w v l) (hb : Below w.heap.size w w') : Reads w' v l := by
  obtain ⟨a, cap, hv, h0⟩ := h
  refine ⟨a, cap, hv, ?_⟩
  rcases h0 with h0 | ⟨g, off, ha, hg, hc⟩
  · exact Or.inl h0
  · exact Or.inr ⟨g, off, ha, Nat.lt_of_lt_of_le hg hb.size, fun j hj => (hb.cell (p := ⟨g, off + j, none⟩) hg).trans (hc j hj)⟩

theorem Reads.at {w : World} {v : Value} {l : List UInt8} (h : Reads w v l) (hl : 0 < l.length) : ∃ g off cap : Nat, v = .slice (some ⟨g, off, none⟩) l.length cap ∧ ∀ j, j < l.length → w.cell? ⟨g, off + j, none⟩ = some (.int .u8 ((l.getD j 0).toNat : Int)) := by
  obtain ⟨a, cap, hv, h0⟩ := h
  rcases h0 with h0 | ⟨g, off, rfl, _, hc⟩
  · subst h0; simp at hl
  · exact ⟨g, off, cap, hv, hc⟩

def Drawn (w w' : World) : Prop := ∃ n, w' = w.drewN n
theorem ret_bool {a b : Bool} (h : a = b) : Ending.returned (.bool a) = .returned (.bool b) := by rw [h]

theorem eq_of_getD {l1 l2 : List UInt8} (hl : l1.length = l2.length) (h : ∀ j, j < l1.length → l1.getD j 0 = l2.getD j 0) : l1 = l2 := by
  apply List.ext_getElem hl
  intro i h1 h2
  have := h i h1
  simpa [List.getD, h1, h2] using this

set_option maxHeartbeats 400000 in
theorem eq_any (v1 v2 : Value) (l1 l2 : List UInt8) (w : World) (h1 : Reads w v1 l1) (h2 : Reads w v2 l2) (b1 : l1.length ≤ 9223372036854775807) (b2 : l2.length ≤ 9223372036854775807) :
    Calls Tryd.prog 9 #[v1, v2] w fun e w' => e = .returned (.bool (decide (l1 = l2))) ∧ Drawn w w' := by
  by_cases hne : l1.length = l2.length
  · by_cases h0 : l1.length = 0
    · have e1 : l1 = [] := List.eq_nil_of_length_eq_zero h0
      have e2 : l2 = [] := List.eq_nil_of_length_eq_zero (by omega)
      subst e1; subst e2
      obtain ⟨a1, c1, rfl, _⟩ := h1
      obtain ⟨a2, c2, rfl, _⟩ := h2
      go_enter Tryd.func9, Tryd.ntmps9
      go_wp2
      go_loop [5] (fun i => i = .int .i64 0) (fun _ => 0)
      case atStart => rfl
      case round =>
        subst hrel
        go_wp2
        go_ret
        exact ⟨by simp, 0, rfl⟩
    · obtain ⟨g1, o1, c1, rfl, k1⟩ := h1.at (by omega)
      obtain ⟨g2, o2, c2, rfl, k2⟩ := h2.at (by omega)
      obtain ⟨n, hn⟩ : ∃ n, n = l1.length := ⟨_, rfl⟩
      rw [← hne, ← hn]
      have k2' : ∀ j, j < n → w.cell? ⟨g2, o2 + j, none⟩ = some (.int .u8 ((l2.getD j 0).toNat : Int)) := fun j hj => k2 j (by omega)
      have k1' : ∀ j, j < n → w.cell? ⟨g1, o1 + j, none⟩ = some (.int .u8 ((l1.getD j 0).toNat : Int)) := fun j hj => k1 j (by omega)
      have HN : Hid (n = l1.length ∧ l1.length = l2.length) := ⟨hn, hne⟩
      have bn : n ≤ 9223372036854775807 := by omega
      clear k1 k2 h1 h2 hn hne b1 b2 h0
      go_enter Tryd.func9, Tryd.ntmps9
      go_wp2
      go_loopw [5] (fun i wr => ∃ k q : Nat, k ≤ n ∧ i = .int .i64 k ∧ Hid (∀ j, j < k → l1.getD j 0 = l2.getD j 0) ∧ wr = w.drewN q) (fun i _ => n - (intOf i).toNat)
      case atStart => exact ⟨0, 0, Nat.zero_le _, rfl, fun j h => by omega, rfl⟩
      case round =>
        obtain ⟨k, q, hk, rfl, hno, rfl⟩ := hrel
        by_cases hlt : k < n
        · have c1' := k1' k hlt
          have c2' := k2' k hlt
          have i0 : (k : Int) < (n : Int) := by omega
          obtain ⟨x, hx⟩ : ∃ x, x = l1.getD k 0 := ⟨_, rfl⟩
          obtain ⟨y, hy⟩ : ∃ y, y = l2.getD k 0 := ⟨_, rfl⟩
          rw [← hx] at c1'
          rw [← hy] at c2'
          have HX : Hid (x = l1.getD k 0 ∧ y = l2.getD k 0) := ⟨hx, hy⟩
          clear k1' k2' hx hy
          by_cases hxy : x = y
          · have hb : (((x.toNat : Int)) != (y.toNat : Int)) = false := by rw [hxy]; simp
            go_wp2
            go_quiet (fail)
            go_wp2
            go_roundw
            case rel =>
              refine ⟨k + 1, q + nq, by omega, by go_num, fun j hj => ?_, rfl⟩
              rcases Nat.eq_or_lt_of_le (Nat.le_of_lt_succ hj) with rfl | h'
              · rw [← HX.out.1, ← HX.out.2, hxy]
              · exact hno.out j h'
            case measure => simp [intOf]; omega
          · have hb : (((x.toNat : Int)) != (y.toNat : Int)) = true := by
              rw [bne_iff_ne]
              intro h
              exact hxy (UInt8.toNat_inj.1 (by omega))
            go_wp2
            go_quiet (fail)
            go_wp2
            go_ret
            refine ⟨ret_bool (decide_eq_false fun h => hxy ?_).symm, q + nq, by simp⟩
            rw [HX.out.1, HX.out.2, h]
        · go_wp2
          go_ret
          exact ⟨ret_bool (decide_eq_true (eq_of_getD HN.out.2 fun j hj => hno.out j (by have := HN.out.1; omega))).symm, q, rfl⟩
  · obtain ⟨a1, c1, rfl, _⟩ := h1
    obtain ⟨a2, c2, rfl, _⟩ := h2
    have hb : ((l1.length : Int) != (l2.length : Int)) = true := by rw [bne_iff_ne]; omega
    go_enter Tryd.func9, Tryd.ntmps9
    go_wp2
    go_ret
    exact ⟨ret_bool (decide_eq_false fun h => hne (by rw [h])).symm, 0, rfl⟩

end Go.Proofs.Qxb6603811aDoor
