import Derived.Test.Qxb6003450aFind
import Derived.Test.Qxb6003450aExpect
import Derived.Test.Qxb6003450aBuild
namespace Go.Proofs.Qxb6003450a
open Go.RowKit

/-! ### folding a name -/
theorem low_small {n : Nat} (h : n ≤ 20) : low (UInt8.ofNat n) = UInt8.ofNat n := by
  unfold low
  rw [if_neg]
  have : (UInt8.ofNat n).toNat = n := by simp; omega
  rw [this]
  omega
theorem fold_append (a b : List UInt8) : fold (a ++ b) = fold a ++ fold b := by simp [fold]
theorem fold_lab {l : List UInt8} (h : l.length ≤ 20) : fold (lab l) = lab (fold l) := by
  unfold lab
  rw [fold_length]
  show low _ :: fold l = _
  rw [low_small h]
theorem fold_wire {l : List UInt8} (h : l.length ≤ 20) : fold (wire l) = wire (fold l) := by
  unfold wire
  by_cases e : l = []
  · subst e
    rfl
  · have e2 : fold l ≠ [] := by
      intro h
      apply e
      have := congrArg List.length h
      rw [fold_length] at this
      exact List.eq_nil_of_length_eq_zero this
    rw [if_neg e, if_neg e2, fold_append, fold_lab h]
    rfl
theorem wire_le {l : List UInt8} (h : l.length ≤ 20) : (wire l).length ≤ 22 := by
  unfold wire
  split
  · simp
  · simp [lab]; omega

/-! ### where the names stand in the zone that is built -/
section
variable (C G : Nat → List UInt8) (ns : Nat → Bool) (star : Bool) (n : Nat)
def lkF : List (List UInt8) → Option Nat
  | [] => some 0
  | [l] => match lastIx C l n with
    | some i => some (i + 1)
    | none => if star = true ∧ l = [42] then some (n + 1) else none
  | [g, c] => match lastIx C c n with
    | some i => if G i ≠ [] ∧ G i = g then some (L2 C G ns star n i).length else none
    | none => none
  | _ => none
def tsF (i : Nat) : List Nat := match (L2 C G ns star n n)[i]? with
  | some p => p.2
  | none => []
end

section
variable {C G : Nat → List UInt8} {ns : Nat → Bool} {star : Bool} {n : Nat}
theorem lk_one_some {l : List UInt8} {i : Nat} (h : lastIx C l n = some i) : lkF C G ns star n [l] = some (i + 1) := by simp [lkF, h]
theorem lk_one_none {l : List UInt8} (h : lastIx C l n = none) : lkF C G ns star n [l] = if star = true ∧ l = [42] then some (n + 1) else none := by simp only [lkF, h]
theorem lk_two_some {g l : List UInt8} {i : Nat} (h : lastIx C l n = some i) : lkF C G ns star n [g, l] = if G i ≠ [] ∧ G i = g then some (L2 C G ns star n i).length else none := by simp only [lkF, h]
theorem lk_two_none {g l : List UInt8} (h : lastIx C l n = none) : lkF C G ns star n [g, l] = none := by simp only [lkF, h]
theorem tsF_at {i : Nat} {p : Ln} (h : (L2 C G ns star n n)[i]? = some p) : tsF C G ns star n i = p.2 := by unfold tsF; rw [h]
theorem lkF_hit {x : List (List UInt8)} {i : Nat} (h : lkF C G ns star n x = some i) : ∃ t, (L2 C G ns star n n)[i]? = some (x, t) ∧ (t = [2, 43] ∨ ∃ k, t = [k] ∧ k ≠ 2) := by
  match x, h with
  | [], h =>
    cases h
    exact ⟨[6], L2_origin n n, .inr ⟨6, rfl, by decide⟩⟩
  | [l], h =>
    cases hj : lastIx C l n with
    | some j =>
      rw [lk_one_some hj] at h
      cases h
      obtain ⟨hlt, hc⟩ := lastIx_lt hj
      refine ⟨tsC ns j, by rw [L2_child n n j hlt, hc], ?_⟩
      unfold tsC
      split
      · exact .inl rfl
      · exact .inr ⟨1, rfl, by decide⟩
    | none =>
      rw [lk_one_none hj] at h
      split at h
      · rename_i hs
        cases h
        obtain ⟨rfl, rfl⟩ := hs
        exact ⟨[1], L2_star n n, .inr ⟨1, rfl, by decide⟩⟩
      · cases h
  | [g, c], h =>
    cases hj : lastIx C c n with
    | some j =>
      rw [lk_two_some hj] at h
      split at h
      · rename_i hs
        cases h
        obtain ⟨hlt, hc⟩ := lastIx_lt hj
        exact ⟨[1], by rw [L2_grand n n j hlt hs.1, hs.2, hc], .inr ⟨1, rfl, by decide⟩⟩
      · cases h
    | none =>
      rw [lk_two_none hj] at h
      cases h
  | _ :: _ :: _ :: _, h => cases h

theorem lastIx_some (hap : ∀ i j, i < j → j < n → C i ≠ C j) : ∀ k, k ≤ n → ∀ i, i < k → lastIx C (C i) k = some i
  | 0, _, i, hi => by omega
  | k + 1, hk, i, hi => by
    unfold lastIx
    rcases Nat.lt_or_ge i k with h | h
    · rw [if_neg (fun e => hap i k h (by omega) e.symm)]
      exact lastIx_some hap k (by omega) i h
    · obtain rfl : i = k := by omega
      rw [if_pos rfl]

theorem lkF_miss (hap : ∀ i j, i < j → j < n → C i ≠ C j) {x : List (List UInt8)} (h : lkF C G ns star n x = none) : ∀ p ∈ L2 C G ns star n n, p.1 ≠ x := by
  rintro p hp rfl
  rcases L2_mem n n p hp with rfl | ⟨i, hi, rfl⟩ | ⟨hs, rfl⟩ | ⟨i, hi, hG, rfl⟩
  · cases h
  · simp [lkF, lastIx_some hap n (Nat.le_refl _) i hi] at h
  · cases hj : lastIx C [42] n with
    | some j =>
      rw [lk_one_some hj] at h
      cases h
    | none =>
      rw [lk_one_none hj] at h
      simp [hs] at h
  · simp [lkF, lastIx_some hap n (Nat.le_refl _) i hi, hG] at h

theorem look_at (W : List UInt8) (hC : ∀ i, i < n → (C i).length < 256) (hG : ∀ i, i < n → (G i).length < 256) (hap : ∀ i j, i < j → j < n → C i ≠ C j) {x : List (List UInt8)} (hx : Small x) :
    Look (toN W (L2 C G ns star n n)) W (lkF C G ns star n) (tsF C G ns star n) x := by
  refine ⟨fun i h => ?_, fun h => not_key (L2_small n n (Nat.le_refl _) hC hG) hx (lkF_miss hap h)⟩
  obtain ⟨t, h1, h2⟩ := lkF_hit h
  rw [tsF_at h1]
  exact ⟨toN_at h1, h2⟩

/-! ### Find's answer against the model's -/
structure Agrees (rb : Nat) (N : List Nd) (m : FM) (e : Exp) : Prop where
  ex : m.ex = e.ex
  wd : m.wd = e.wd
  node : NodeOK rb N m.node e.node
  cut : CutOK rb N m.cutn m.cut e.cut
theorem node_none {rb : Nat} {N : List Nd} : NodeOK rb N (.slice none 0 0) (-1) := .inl ⟨rfl, rfl⟩
theorem cut_none {rb : Nat} {N : List Nd} : CutOK rb N (.slice none 0 0) (.slice none 0 0) (-1) := .inl ⟨rfl, rfl, rfl⟩
theorem node_some {rb : Nat} {W : List UInt8} {L : List Ln} {i : Nat} {p : Ln} {k : Int} (h : L[i]? = some p) (hk : k = (i : Int)) : NodeOK rb (toN W L) (nodeSl rb (toN W L) i) k := .inr ⟨i, _, toN_at h, rfl, hk⟩
theorem cut_some {rb : Nat} {W : List UInt8} {L : List Ln} {i : Nat} {x : List (List UInt8)} {k : Int} (h : L[i]? = some (x, [2, 43])) (hk : k = (i : Int)) : CutOK rb (toN W L) (nodeSl rb (toN W L) i) (cutSl rb (toN W L) i) k := .inr ⟨i, _, toN_at h, rfl, rfl, hk⟩

theorem agree0 (rb : Nat) (W : List UInt8) : Agrees rb (toN W (L2 C G ns star n n)) (ansF rb (toN W (L2 C G ns star n n)) (lkF C G ns star n) (tsF C G ns star n) []) ⟨true, false, 0, -1⟩ :=
  ⟨rfl, rfl, node_some (L2_origin n n) rfl, cut_none⟩

theorem lk_star (hns : ∀ i, i < n → C i ≠ [42]) : lkF C G ns star n [[42]] = if star then some (n + 1) else none := by
  have h : lastIx C [42] n = none := by
    cases e : lastIx C [42] n with
    | none => rfl
    | some i =>
      obtain ⟨h1, h2⟩ := lastIx_lt e
      exact absurd h2 (hns i h1)
  simp [lkF, h]

theorem agree_wild (rb : Nat) (W : List UInt8) (hns : ∀ i, i < n → C i ≠ [42]) : Agrees rb (toN W (L2 C G ns star n n)) (wildF rb (toN W (L2 C G ns star n n)) (lkF C G ns star n [[42]])) (if star then ⟨false, true, if star then (n : Int) + 1 else -1, -1⟩ else ⟨false, false, -1, -1⟩) := by
  rw [lk_star hns]
  cases star with
  | false => exact ⟨rfl, rfl, node_none, cut_none⟩
  | true => exact ⟨rfl, rfl, node_some (L2_star n n) rfl, cut_none⟩

theorem agree1 (rb : Nat) (W : List UInt8) (hns : ∀ i, i < n → C i ≠ [42]) (f1 : List UInt8) :
    Agrees rb (toN W (L2 C G ns star n n)) (ansF rb (toN W (L2 C G ns star n n)) (lkF C G ns star n) (tsF C G ns star n) [f1]) (expect1 star ns (fun i => (i : Int) + 1) (if star then (n : Int) + 1 else -1) f1 (lastIx C f1 n)) := by
  show Agrees rb _ (resF rb _ (lkF C G ns star n) (tsF C G ns star n) [f1] 0) _
  cases e : lastIx C f1 n with
  | some i =>
    obtain ⟨hlt, hc⟩ := lastIx_lt e
    have hch := L2_child (C := C) (G := G) (ns := ns) (star := star) n n i hlt
    have ht := tsF_at hch
    by_cases hN : ns i = true
    · have h1 : tsC ns i = [2, 43] := by simp [tsC, hN]
      rw [h1] at hch ht
      rw [resF_cut0 (i := i + 1) (lk_one_some e) ht]
      simp only [expect1, hN, if_true]
      exact ⟨rfl, rfl, node_some hch rfl, cut_some hch rfl⟩
    · have h1 : tsC ns i = [1] := by simp [tsC, hN]
      rw [h1] at hch ht
      rw [resF_one0 (i := i + 1) (lk_one_some e) ht]
      simp only [expect1, if_neg hN]
      exact ⟨rfl, rfl, node_some hch rfl, cut_none⟩
  | none =>
    have hl := lk_one_none (G := G) (ns := ns) (star := star) e
    by_cases h : star = true ∧ f1 = [42]
    · rw [if_pos h] at hl
      obtain ⟨rfl, rfl⟩ := h
      have hst := L2_star (C := C) (G := G) (ns := ns) n n
      rw [resF_one0 (i := n + 1) hl (tsF_at hst)]
      exact ⟨rfl, rfl, node_some hst rfl, cut_none⟩
    · rw [if_neg h] at hl
      rw [resF_wild (m := 0) hl]
      have hw := agree_wild (C := C) (G := G) (ns := ns) (star := star) rb W hns
      have he : expect1 star ns (fun i => (i : Int) + 1) (if star then (n : Int) + 1 else -1) f1 none = if star then ⟨false, true, if star then (n : Int) + 1 else -1, -1⟩ else ⟨false, false, -1, -1⟩ := by
        cases star with
        | false => rfl
        | true =>
          have : f1 ≠ [42] := fun h' => h ⟨rfl, h'⟩
          simp [expect1, this]
      rw [he]
      exact hw

theorem gn_pos {i : Nat} (h : G i ≠ []) : gnF C G ns star n i = ((L2 C G ns star n i).length : Int) := by unfold gnF; rw [if_neg h]
theorem gn_iff (i : Nat) : (0 : Int) ≤ gnF C G ns star n i ↔ G i ≠ [] := by
  unfold gnF
  split
  · rename_i h
    simp [h]
  · rename_i h
    simp [h]

theorem agree2 (rb : Nat) (W : List UInt8) (hns : ∀ i, i < n → C i ≠ [42]) (f1 f2 : List UInt8) :
    Agrees rb (toN W (L2 C G ns star n n)) (ansF rb (toN W (L2 C G ns star n n)) (lkF C G ns star n) (tsF C G ns star n) [f2, f1]) (expect2 star G ns (fun i => (i : Int) + 1) (gnF C G ns star n) (if star then (n : Int) + 1 else -1) f1 f2 (lastIx C f1 n)) := by
  show Agrees rb _ (resF rb _ (lkF C G ns star n) (tsF C G ns star n) [f2, f1] 1) _
  cases e : lastIx C f1 n with
  | some i =>
    obtain ⟨hlt, hc⟩ := lastIx_lt e
    have hch := L2_child (C := C) (G := G) (ns := ns) (star := star) n n i hlt
    have ht := tsF_at hch
    by_cases hN : ns i = true
    · have h1 : tsC ns i = [2, 43] := by simp [tsC, hN]
      rw [h1] at hch ht
      rw [resF_cut (m := 0) (i := i + 1) (lk_one_some e) ht]
      simp only [expect2, hN, if_true]
      exact ⟨rfl, rfl, node_none, cut_some hch rfl⟩
    · have h1 : tsC ns i = [1] := by simp [tsC, hN]
      rw [h1] at hch ht
      rw [resF_one (m := 0) (i := i + 1) (lk_one_some e) ht]
      have hl := lk_two_some (G := G) (ns := ns) (star := star) (g := f2) e
      simp only [expect2, if_neg hN, gn_iff]
      by_cases h2 : G i ≠ [] ∧ G i = f2
      · rw [if_pos h2] at hl ⊢
        have hgr := L2_grand (C := C) (G := G) (ns := ns) (star := star) n n i hlt h2.1
        rw [resF_one0 hl (tsF_at hgr)]
        exact ⟨rfl, rfl, node_some hgr (gn_pos h2.1), cut_none⟩
      · rw [if_neg h2] at hl ⊢
        rw [resF_wild (m := 0) hl]
        have hl2 := lk_two_some (G := G) (ns := ns) (star := star) (g := [42]) e
        show Agrees rb _ (wildF rb _ (lkF C G ns star n [[42], f1])) _
        rw [hl2]
        by_cases h3 : G i ≠ [] ∧ G i = [42]
        · rw [if_pos h3, if_pos h3]
          have hgr := L2_grand (C := C) (G := G) (ns := ns) (star := star) n n i hlt h3.1
          exact ⟨rfl, rfl, node_some hgr (gn_pos h3.1), cut_none⟩
        · rw [if_neg h3, if_neg h3]
          exact ⟨rfl, rfl, node_none, cut_none⟩
  | none =>
    have hl := lk_one_none (G := G) (ns := ns) (star := star) e
    by_cases h : star = true ∧ f1 = [42]
    · rw [if_pos h] at hl
      obtain ⟨rfl, rfl⟩ := h
      have hst := L2_star (C := C) (G := G) (ns := ns) n n
      rw [resF_one (m := 0) (i := n + 1) hl (tsF_at hst), resF_wild (m := 0) (lk_two_none e)]
      show Agrees rb _ (wildF rb _ (lkF C G ns true n [[42], [42]])) _
      rw [lk_two_none e]
      exact ⟨rfl, rfl, node_none, cut_none⟩
    · rw [if_neg h] at hl
      rw [resF_wild (m := 1) hl]
      have hw := agree_wild (C := C) (G := G) (ns := ns) (star := star) rb W hns
      have he : expect2 star G ns (fun i => (i : Int) + 1) (gnF C G ns star n) (if star then (n : Int) + 1 else -1) f1 f2 none = if star then ⟨false, true, if star then (n : Int) + 1 else -1, -1⟩ else ⟨false, false, -1, -1⟩ := by
        cases star with
        | false => rfl
        | true =>
          have : f1 ≠ [42] := fun h' => h ⟨rfl, h'⟩
          simp [expect2, this]
      rw [he]
      exact hw
end
end Go.Proofs.Qxb6003450a
