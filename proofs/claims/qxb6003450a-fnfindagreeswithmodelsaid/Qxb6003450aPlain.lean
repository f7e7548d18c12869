import Derived.Test.Qxb6003450aZone
namespace Go.Proofs.Qxb6003450a

/-! ### names as lists of labels -/
def nm (ls : List (List UInt8)) (o : List UInt8) : List UInt8 := ls.flatMap lab ++ o
def Small (ls : List (List UInt8)) : Prop := ∀ l ∈ ls, l.length < 256

theorem lab_inj {a b : List UInt8} {r s : List UInt8} (ha : a.length < 256) (hb : b.length < 256) (h : lab a ++ r = lab b ++ s) : a = b ∧ r = s := by
  unfold lab at h
  simp only [List.cons_append, List.cons.injEq] at h
  obtain ⟨h1, h2⟩ := h
  have h3 : a.length = b.length := by
    have := congrArg UInt8.toNat h1
    simp at this
    omega
  exact List.append_inj h2 h3

theorem labs_inj : ∀ {ls ms : List (List UInt8)}, Small ls → Small ms → ls.flatMap lab = ms.flatMap lab → ls = ms
  | [], [], _, _, _ => rfl
  | [], m :: ms, _, _, h => by simp [lab] at h
  | l :: ls, [], _, _, h => by simp [lab] at h
  | l :: ls, m :: ms, hl, hm, h => by
    simp only [List.flatMap_cons] at h
    obtain ⟨h1, h2⟩ := lab_inj (hl l (by simp)) (hm m (by simp)) h
    rw [h1, labs_inj (fun x hx => hl x (by simp [hx])) (fun x hx => hm x (by simp [hx])) h2]

theorem nm_inj {ls ms : List (List UInt8)} {o : List UInt8} (hl : Small ls) (hm : Small ms) (h : nm ls o = nm ms o) : ls = ms :=
  labs_inj hl hm (List.append_cancel_right h)

abbrev Ln := List (List UInt8) × List Nat
def toN (o : List UInt8) (L : List Ln) : List Nd := L.map fun p => (nm p.1 o, p.2)
theorem toN_append (o : List UInt8) (L M : List Ln) : toN o (L ++ M) = toN o L ++ toN o M := by simp [toN]
theorem toN_length (o : List UInt8) (L : List Ln) : (toN o L).length = L.length := by simp [toN]
theorem toN_at {o : List UInt8} {L : List Ln} {i : Nat} {p : Ln} (h : L[i]? = some p) : (toN o L)[i]? = some (nm p.1 o, p.2) := by simp [toN, h]
def AllSmall (L : List Ln) : Prop := ∀ p ∈ L, Small p.1
theorem not_key {o : List UInt8} {L : List Ln} {ls : List (List UInt8)} (hL : AllSmall L) (hs : Small ls) (h : ∀ p ∈ L, p.1 ≠ ls) : nm ls o ∉ keys (toN o L) := by
  intro hm
  simp only [keys, toN, List.map_map, List.mem_map, Function.comp] at hm
  obtain ⟨p, hp, he⟩ := hm
  exact h p hp (nm_inj (hL p hp) hs he)

/-! ### the zone that is built -/
section
variable (C G : Nat → List UInt8) (ns : Nat → Bool) (star : Bool)
def tsC (i : Nat) : List Nat := if ns i then [2, 43] else [1]
def Lc (k : Nat) : List Ln := (List.range k).map fun i => ([C i], tsC ns i)
def Ls : List Ln := if star then [([[42]], [1])] else []
def Lg : Nat → List Ln
  | 0 => []
  | k + 1 => if G k = [] then Lg k else Lg k ++ [([G k, C k], [1])]
def L1 (k : Nat) : List Ln := ([], [6]) :: Lc C ns k
def L2 (n k : Nat) : List Ln := L1 C ns n ++ Ls star ++ Lg C G k
def gnF (n i : Nat) : Int := if G i = [] then -1 else ((L2 C G ns star n i).length : Int)
end

section
variable {C G : Nat → List UInt8} {ns : Nat → Bool} {star : Bool}
theorem L1_length (k : Nat) : (L1 C ns k).length = k + 1 := by simp [L1, Lc]
theorem L1_succ (k : Nat) : L1 C ns (k + 1) = L1 C ns k ++ [([C k], tsC ns k)] := by simp [L1, Lc, List.range_succ]
theorem L1_at (k i : Nat) (h : i < k) : (L1 C ns k)[i + 1]? = some ([C i], tsC ns i) := by simp [L1, Lc, h]
theorem L1_mem (k : Nat) (p : Ln) (h : p ∈ L1 C ns k) : p = ([], [6]) ∨ ∃ i, i < k ∧ p = ([C i], tsC ns i) := by
  simp only [L1, Lc, List.mem_cons, List.mem_map, List.mem_range] at h
  rcases h with h | ⟨i, hi, h⟩
  · exact .inl h
  · exact .inr ⟨i, hi, h.symm⟩
theorem Lg_mem (k : Nat) (p : Ln) (h : p ∈ Lg C G k) : ∃ i, i < k ∧ G i ≠ [] ∧ p = ([G i, C i], [1]) := by
  induction k with
  | zero => cases h
  | succ k ih =>
    unfold Lg at h
    split at h
    · obtain ⟨i, hi, r⟩ := ih h
      exact ⟨i, Nat.lt_succ_of_lt hi, r⟩
    · rw [List.mem_append] at h
      rcases h with h | h
      · obtain ⟨i, hi, r⟩ := ih h
        exact ⟨i, Nat.lt_succ_of_lt hi, r⟩
      · rw [List.mem_singleton] at h
        exact ⟨k, Nat.lt_succ_self _, by assumption, h⟩
theorem Ls_mem (p : Ln) (h : p ∈ Ls star) : star = true ∧ p = ([[42]], [1]) := by
  unfold Ls at h
  split at h
  · exact ⟨by assumption, by simpa using h⟩
  · cases h
theorem Lg_length (k : Nat) : (Lg C G k).length ≤ k := by
  induction k with
  | zero => exact Nat.le_refl _
  | succ k ih =>
    rw [Lg]
    split
    · omega
    · rw [List.length_append, List.length_singleton]; omega
theorem L2_length (n k : Nat) : (L2 C G ns star n k).length ≤ n + k + 2 := by
  have := Lg_length (C := C) (G := G) k
  unfold L2 Ls
  rw [List.length_append, List.length_append, L1_length]
  split <;> simp <;> omega
theorem Lg_pre (i k : Nat) (h : i ≤ k) : ∃ r, Lg C G k = Lg C G i ++ r := by
  induction k with
  | zero =>
    obtain rfl : i = 0 := by omega
    exact ⟨[], by simp⟩
  | succ k ih =>
    rcases Nat.lt_or_ge i (k + 1) with h1 | h1
    · obtain ⟨r, hr⟩ := ih (by omega)
      rw [Lg, hr]
      split
      · exact ⟨r, rfl⟩
      · exact ⟨r ++ [([G k, C k], [1])], by simp⟩
    · obtain rfl : i = k + 1 := by omega
      exact ⟨[], by simp⟩
theorem L2_grand (n k i : Nat) (h : i < k) (hG : G i ≠ []) : (L2 C G ns star n k)[(L2 C G ns star n i).length]? = some ([G i, C i], [1]) := by
  obtain ⟨r, hr⟩ := Lg_pre (C := C) (G := G) (i + 1) k h
  have e : L2 C G ns star n k = L2 C G ns star n i ++ ([G i, C i], [1]) :: r := by
    unfold L2
    rw [hr, Lg, if_neg hG]
    simp
  rw [e, List.getElem?_append_right (Nat.le_refl _)]
  simp
theorem L2_child (n k i : Nat) (h : i < n) : (L2 C G ns star n k)[i + 1]? = some ([C i], tsC ns i) := by
  unfold L2
  rw [List.append_assoc, List.getElem?_append_left (by rw [L1_length]; omega), L1_at n i h]
theorem L2_origin (n k : Nat) : (L2 C G ns star n k)[0]? = some ([], [6]) := by simp [L2, L1]
theorem L2_star (n k : Nat) : (L2 C G ns true n k)[n + 1]? = some ([[42]], [1]) := by
  unfold L2 Ls
  rw [if_pos rfl, List.append_assoc, List.getElem?_append_right (by rw [L1_length]; omega), L1_length]
  simp
theorem L2_mem (n k : Nat) (p : Ln) (h : p ∈ L2 C G ns star n k) : p = ([], [6]) ∨ (∃ i, i < n ∧ p = ([C i], tsC ns i)) ∨ (star = true ∧ p = ([[42]], [1])) ∨ ∃ i, i < k ∧ G i ≠ [] ∧ p = ([G i, C i], [1]) := by
  simp only [L2, List.mem_append] at h
  rcases h with (h | h) | h
  · rcases L1_mem n p h with h | h
    · exact .inl h
    · exact .inr (.inl h)
  · exact .inr (.inr (.inl (Ls_mem p h)))
  · exact .inr (.inr (.inr (Lg_mem k p h)))
theorem L2_small (n k : Nat) (hk : k ≤ n) (hC : ∀ i, i < n → (C i).length < 256) (hG : ∀ i, i < n → (G i).length < 256) : AllSmall (L2 C G ns star n k) := by
  intro p hp l hl
  rcases L2_mem n k p hp with rfl | ⟨i, hi, rfl⟩ | ⟨_, rfl⟩ | ⟨i, hi, _, rfl⟩
  · cases hl
  · simp only [List.mem_singleton] at hl
    subst hl
    exact hC i hi
  · simp only [List.mem_singleton] at hl
    subst hl
    decide
  · simp only [List.mem_cons, List.not_mem_nil, or_false] at hl
    rcases hl with rfl | rfl
    · exact hG i (by omega)
    · exact hC i (by omega)
end
end Go.Proofs.Qxb6003450a
