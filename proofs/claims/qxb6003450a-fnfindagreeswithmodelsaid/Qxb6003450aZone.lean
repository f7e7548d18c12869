import Derived.Test.Qxb6003450aWalkA
import Derived.StringKeys
namespace Go.Proofs.Qxb6003450a
open Go.RowKit

/-! ### the plain zone: nodes, in their order: a key and the types of the records -/
abbrev Nd := List UInt8 × List Nat
def rs (N : List Nd) : List (List UInt8 × Nat) := N.flatMap fun p => p.2.map fun t => (p.1, t)
def keys (N : List Nd) : List (List UInt8) := N.map (·.1)
def st (N : List Nd) (i : Nat) : Nat := (rs (N.take i)).length
def rrc (i : Nat) (r : List UInt8 × Nat) : List Value := [.string ⟨r.1.toArray⟩, .int .u16 (r.2 : Int), .int .u16 0, .int .u32 (i : Int), .slice none 0 0]
def rrC : Nat → List (List UInt8 × Nat) → List Value
  | _, [] => []
  | i, r :: l => rrc i r ++ rrC (i + 1) l
def stC (N : List Nd) : List Value := (List.range (N.length + 1)).map fun i => .int .u32 (st N i : Int)

theorem rs_append (N M : List Nd) : rs (N ++ M) = rs N ++ rs M := by simp [rs]
theorem keys_append (N M : List Nd) : keys (N ++ M) = keys N ++ keys M := by simp [keys]
theorem rrC_append (l r : List (List UInt8 × Nat)) : ∀ i, rrC i (l ++ r) = rrC i l ++ rrC (i + l.length) r := by
  induction l with
  | nil => intro i; simp [rrC]
  | cons x l ih =>
    intro i
    simp only [List.cons_append, rrC, ih, List.append_assoc, List.length_cons]
    rw [show i + 1 + l.length = i + (l.length + 1) by omega]
theorem rrC_length (l : List (List UInt8 × Nat)) : ∀ i, (rrC i l).length = l.length * 5 := by
  induction l with
  | nil => intro i; rfl
  | cons x l ih => intro i; simp only [rrC, List.length_append, ih, List.length_cons, rrc, List.length_nil]; omega
theorem rrC_at (l : List (List UInt8 × Nat)) : ∀ (i m j : Nat), m < l.length → j < 5 → (rrC i l)[m * 5 + j]? = (rrc (i + m) (l.getD m ([], 0)))[j]? := by
  induction l with
  | nil => intro i m j h; simp at h
  | cons x l ih =>
    intro i m j hm hj
    cases m with
    | zero =>
      simp only [rrC, Nat.zero_mul, Nat.zero_add, Nat.add_zero, List.getD_cons_zero]
      rw [List.getElem?_append_left (by simpa [rrc] using hj)]
    | succ m =>
      simp only [rrC]
      rw [List.getElem?_append_right (by simp [rrc]; omega)]
      have e : (m + 1) * 5 + j - (rrc i x).length = m * 5 + j := by simp [rrc]; omega
      rw [e, ih (i + 1) m j (by simpa using hm) hj, List.getD_cons_succ]
      rw [show i + 1 + m = i + (m + 1) by omega]

theorem st_take (N M : List Nd) (i : Nat) (h : i ≤ N.length) : st (N ++ M) i = st N i := by
  unfold st
  rw [List.take_append_of_le_length h]
theorem st_all (N : List Nd) : st N N.length = (rs N).length := by
  unfold st
  rw [List.take_length]
theorem st_succ (N : List Nd) (i : Nat) (p : Nd) (h : N[i]? = some p) : st N (i + 1) = st N i + p.2.length := by
  unfold st
  obtain ⟨hi, rfl⟩ := List.getElem?_eq_some_iff.1 h
  rw [List.take_succ_eq_append_getElem hi, rs_append, List.length_append]
  simp [rs]
theorem st_le (N : List Nd) (i : Nat) : st N i ≤ (rs N).length := by
  have : rs N = rs (N.take i) ++ rs (N.drop i) := by rw [← rs_append, List.take_append_drop]
  rw [this, List.length_append]
  exact Nat.le_add_right _ _
theorem rs_at (N : List Nd) (i : Nat) (p : Nd) (h : N[i]? = some p) (j : Nat) (hj : j < p.2.length) : (rs N).getD (st N i + j) ([], 0) = (p.1, p.2.getD j 0) := by
  obtain ⟨hi, rfl⟩ := List.getElem?_eq_some_iff.1 h
  have e : rs N = rs (N.take i) ++ (rs [N[i]] ++ rs (N.drop (i + 1))) := by
    rw [← rs_append, ← rs_append]
    simp
  rw [e, List.getD_eq_getElem?_getD, List.getElem?_append_right (by unfold st; omega)]
  have e2 : st N i + j - (rs (N.take i)).length = j := by unfold st; omega
  rw [e2, List.getElem?_append_left (by simpa [rs] using hj)]
  simp [rs, hj, List.getD]
theorem stC_snoc (N : List Nd) (p : Nd) : stC (N ++ [p]) = stC N ++ [.int .u32 ((rs (N ++ [p])).length : Int)] := by
  unfold stC
  rw [List.length_append, List.length_singleton, List.range_succ (n := N.length + 1), List.map_append]
  congr 1
  · apply List.map_congr_left
    intro i hi
    rw [st_take N [p] i (by have := List.mem_range.1 hi; omega)]
  · rw [← st_all (N ++ [p])]
    simp

/-! ### the map: which keys, at which numbers -/
structure Agree (D : DataW Unit) (ks : List (List UInt8)) : Prop where
  has : ∀ k, Maps.has D (.string k) = decide (k ∈ ks)
  at_ : ∀ (i : Nat) (k : List UInt8), ks[i]? = some k → D.atKey (.string k) (.lit (.int .i64 0)) = .lit (.int .i64 (i : Int))
theorem agree_nil : Agree (.map []) [] := ⟨fun k => by simp [Maps.has], fun i k h => by simp at h⟩
theorem agree_put {D : DataW Unit} {ks : List (List UInt8)} (h : Agree D ks) (hm : Maps.IsMap D) {k : List UInt8} (hk : k ∉ ks) : Agree (D.put (.string k) (.lit (.int .i64 (ks.length : Int)))) (ks ++ [k]) := by
  have hkl : WideAt.IsKeyLit (.string k) := trivial
  refine ⟨fun x => ?_, fun i x hx => ?_⟩
  · by_cases e : x = k
    · subst e
      rw [Maps.has_put_same hm hkl]
      simp
    · rw [Maps.has_put_other (fun h => e (by cases h; rfl)), h.has]
      simp [e]
  · by_cases hi : i < ks.length
    · rw [List.getElem?_append_left hi] at hx
      have hmem : x ∈ ks := List.mem_of_getElem? hx
      rw [Maps.atKey_put_other (fun h => hk (by cases h; exact hmem)), h.at_ i x hx]
    · rw [List.getElem?_append_right (by omega)] at hx
      have h0 : i - ks.length = 0 := by
        have := (List.getElem?_eq_some_iff.1 hx).1
        simp at this
        omega
      rw [h0] at hx
      obtain rfl : k = x := by simpa using hx
      rw [Maps.atKey_put_same hm hkl]
      have : i = ks.length := by omega
      rw [this]

/-! ### the zone in memory -/
structure ZAt (w : World) (B mb : Nat) (rv sv : Value) (N : List Nd) : Prop where
  map : ∃ D : DataW Unit, w.ownsMap Try.prog 39 (plainElem Try.prog 3) mb N.length D ∧ Agree D (keys N)
  mB : B ≤ mb
  rr : w.ownsRow B 88 5 rv (rs N).length (rrC 0 (rs N))
  ss : w.ownsRow B 81 1 sv (N.length + 1) (stC N)

/-- the struct's nine cells -/
def zf (a b c d e f g h : Value) (s : Int) : Nat → Value
  | 0 => a | 1 => b | 2 => c | 3 => d | 4 => e | 5 => f | 6 => g | 7 => h | 8 => .int .i64 s | _ => undef

theorem Try.info88 : (Try.prog.info? 88).map (fun i => (i.zero, i.size, i.bytes)) = some (some (.agg #[.string ⟨#[]⟩, .int .u16 0, .int .u16 0, .int .u32 0, .slice none 0 0]), 5, 48) := by kernel_rfl
theorem Try.info81 : (Try.prog.info? 81).map (fun i => (i.zero, i.size, i.bytes)) = some (some (.int .u32 0), 1, 4) := by kernel_rfl
theorem Try.info3 : (Try.prog.info? 3).map (fun i => (i.zero, i.size, i.bytes)) = some (some (.int .i64 0), 1, 8) := by kernel_rfl
theorem law39 : Go.Maps.Keyed Try.prog 39 := Go.Maps.string_keyed Try.underlying39
theorem zero3 (w : World) : (zeroValue 3).run Try.prog w = .ok (.int .i64 0) w := by kernel_rfl
end Go.Proofs.Qxb6003450a
