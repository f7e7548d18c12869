import Derived.Test.Qxb6003450aAnswer
import Derived.Test.Qxb6003450aExpect2
import Derived.Test.Qxb6003450aWalkC
import Derived.Test.Qxb6003450aWalkE
namespace Go.Proofs.Qxb6003450a
open Go.RowKit

/-! ### the three depths as one -/
def lsF (d : Nat) (f1 f2 : List UInt8) : List (List UInt8) := if d % 3 = 0 then [] else if d % 3 = 1 then [f1] else [f2, f1]
def expF (star : Bool) (C G : Nat → List UInt8) (ns : Nat → Bool) (n d : Nat) (f1 f2 : List UInt8) : Exp :=
  if d % 3 = 0 then ⟨true, false, 0, -1⟩ else if d % 3 = 1 then expect1 star ns (fun i => (i : Int) + 1) (if star then (n : Int) + 1 else -1) f1 (lastIx C f1 n)
  else expect2 star G ns (fun i => (i : Int) + 1) (gnF C G ns star n) (if star then (n : Int) + 1 else -1) f1 f2 (lastIx C f1 n)

theorem three (d : Nat) : d % 3 = 0 ∨ d % 3 = 1 ∨ d % 3 = 2 := by omega

theorem query_all (o q1 q2 : ByteArray) (d f : Nat) (w : World) (hd : d < 256) (ho : o.size ≤ 20) (h10 : 1 ≤ q1.size) (h11 : q1.size ≤ 20) (h20 : 1 ≤ q2.size) (h21 : q2.size ≤ 20) :
    Calls Try.prog 16 #[.string o, .string q1, .string q2, .int .u8 (d : Int), .int .u64 (f : Int)] w fun e w' => ∃ v' l, e = .returned v' ∧ w'.ownsRow w.heap.size 5 1 v' l.length (bc l) ∧ fold l = nm (lsF d (fold q1.data.toList) (fold q2.data.toList)) (wire (fold o.data.toList)) ∧ Below w.heap.size w w' := by
  have e0 : o.data.toList.length ≤ 20 := by simpa using ho
  have e1 : q1.data.toList.length ≤ 20 := by simpa using h11
  have e2 : q2.data.toList.length ≤ 20 := by simpa using h21
  rcases three d with h | h | h
  · refine (query0 o q1 q2 d f w hd ho h).mono ?_
    rintro e w' ⟨v, l, h1, h2, h3, h4⟩
    refine ⟨v, l, h1, h2, ?_, h4⟩
    rw [h3, fold_wire e0, lsF, if_pos h]
    rfl
  · refine (query1 o q1 q2 d f w hd ho h10 h11 h).mono ?_
    rintro e w' ⟨v, l, h1, h2, h3, h4⟩
    refine ⟨v, l, h1, h2, ?_, h4⟩
    rw [h3, fold_append, fold_wire e0, fold_lab e1, lsF, if_neg (by omega), if_pos h]
    simp [nm]
  · refine (query2 o q1 q2 d f w hd ho h10 h11 h20 h21 h).mono ?_
    rintro e w' ⟨v, l, h1, h2, h3, h4⟩
    refine ⟨v, l, h1, h2, ?_, h4⟩
    rw [h3, fold_append, fold_append, fold_wire e0, fold_lab e1, fold_lab e2, lsF, if_neg (by omega), if_neg (by omega)]
    simp [nm]

theorem expect_all (fb : Nat) (ov mv rv sv : Value) (cb gb nb hb n : Nat) (C G : Nat → List UInt8) (star : Bool) (a : Option Addr) (cap : Nat) (ns : Nat → Bool) (q1 q2 : ByteArray) (d : Nat) (w : World)
    (hR : Rws w fb ov mv rv sv cb gb nb hb n C G (fun i => (i : Int) + 1) (gnF C G ns star n) (if star then (n : Int) + 1 else -1)) (hns : ThingsAt w a n (fun i => .bool (ns i))) (hn : n ≤ 8) (h1 : q1.size ≤ 20) (h2 : q2.size ≤ 20) :
    Calls Try.prog 18 #[.pointer (some ⟨fb, 0, none⟩), .bool star, .slice a n cap, .string q1, .string q2, .int .u8 (d : Int)] w fun r w' => r = .returned (Exp.val (expF star C G ns n d (fold q1.data.toList) (fold q2.data.toList))) ∧ Below w.heap.size w w' := by
  rcases three d with h | h | h
  · rw [expF, if_pos h]
    exact expect_0 fb star _ _ _ d w (by omega)
  · rw [expF, if_neg (by omega), if_pos h]
    exact expect_1 fb ov mv rv sv cb gb nb hb n C G _ _ _ star a cap ns q1 _ d w (by omega) hR hns hn h1
  · rw [expF, if_neg (by omega), if_neg (by omega)]
    exact expect_2 fb ov mv rv sv cb gb nb hb n C G _ _ _ star a cap ns q1 q2 d w (by omega) hR hns hn h1 h2

theorem agree_all {C G : Nat → List UInt8} {ns : Nat → Bool} {star : Bool} {n : Nat} (rb : Nat) (W : List UInt8) (hns : ∀ i, i < n → C i ≠ [42]) (d : Nat) (f1 f2 : List UInt8) :
    Agrees rb (toN W (L2 C G ns star n n)) (ansF rb (toN W (L2 C G ns star n n)) (lkF C G ns star n) (tsF C G ns star n) (lsF d f1 f2)) (expF star C G ns n d f1 f2) := by
  unfold lsF expF
  split
  · exact agree0 rb W
  · split
    · exact agree1 rb W hns f1
    · exact agree2 rb W hns f1 f2

theorem lsF_len (d : Nat) (f1 f2 : List UInt8) : (lsF d f1 f2).length ≤ 2 := by
  unfold lsF
  split
  · exact Nat.zero_le _
  · split
    · exact Nat.le_succ _
    · exact Nat.le_refl _
theorem lsF_mem {d : Nat} {f1 f2 x : List UInt8} (h : x ∈ lsF d f1 f2) : x = f1 ∨ x = f2 := by
  unfold lsF at h
  split at h
  · cases h
  · split at h
    · simp at h; exact .inl h
    · simp at h; exact h.symm

theorem find_all {C G : Nat → List UInt8} {ns : Nat → Bool} {star : Bool} {n : Nat} (zb mb B rb rc sb sc : Nat) (W : List UInt8) (d : Nat) (f1 f2 : List UInt8) (s : ByteArray) (w : World)
    (hC : ∀ i, i < n → (C i).length < 256) (hG : ∀ i, i < n → (G i).length < 256) (hap : ∀ i j, i < j → j < n → C i ≠ C j) (hn : n ≤ 8)
    (h1 : 1 ≤ f1.length ∧ f1.length ≤ 20) (h2 : 1 ≤ f2.length ∧ f2.length ≤ 20) (hW : W.length ≤ 22)
    (hz : ZoneIs w zb mb B rb rc sb sc ⟨W.toArray⟩ (toN W (L2 C G ns star n n))) (hs : fold s.data.toList = nm (lsF d f1 f2) W) :
    Calls Try.prog 15 #[.pointer (some ⟨zb, 0, none⟩), .string s] w fun e w' => e = .returned (FM.val (ansF rb (toN W (L2 C G ns star n n)) (lkF C G ns star n) (tsF C G ns star n) (lsF d f1 f2))) ∧ Below w.heap.size w w' := by
  have hsm : ∀ x ∈ lsF d f1 f2, 1 ≤ x.length ∧ x.length ≤ 20 := fun x hx => by
    rcases lsF_mem hx with rfl | rfl
    · exact h1
    · exact h2
  refine find_any zb mb B rb rc sb sc W _ _ _ _ s w hz ?_ hs (lsF_len _ _ _) (fun m hm => ?_) hW (fun m _ => ⟨look_at W hC hG hap ?_, look_at W hC hG hap ?_⟩)
  · rw [toN_length]
    have := L2_length (C := C) (G := G) (ns := ns) (star := star) n n
    omega
  · have e : (lsF d f1 f2).getD m [] = (lsF d f1 f2)[m] := by simp [List.getD, hm]
    rw [e]
    exact hsm _ (List.getElem_mem hm)
  · intro l hl
    have := (hsm l (List.mem_of_mem_drop hl)).2
    omega
  · intro l hl
    rw [List.mem_cons] at hl
    rcases hl with rfl | hl
    · decide
    · have := (hsm l (List.mem_of_mem_drop hl)).2
      omega

theorem own_at {w : World} {B : Nat} {e : TypeId} {s : Nat} {v : Value} {n : Nat} {xs : List Value} (h : w.ownsRow B e s v n xs) (hn : 0 < n) : ∃ g cap, v = .slice (some ⟨g, 0, none⟩) n cap := by
  rcases h.2 with ⟨rfl, h0⟩ | ⟨g, cap, cur, rfl, _⟩
  · omega
  · exact ⟨g, cap, rfl⟩
theorem rs_pos {C G : Nat → List UInt8} {ns : Nat → Bool} {star : Bool} {n : Nat} (W : List UInt8) : 0 < (rs (toN W (L2 C G ns star n n))).length := by
  have : L2 C G ns star n n = ([], [6]) :: (Lc C ns n ++ Ls star ++ Lg C G n) := by simp [L2, L1]
  rw [this]
  simp [toN, rs]

/-- what stands behind 'build' -/
structure Built (w : World) (fb mb rb rc sb sc : Nat) (ov : Value) (W : List UInt8) (kc kg kn kh n : Nat) (T G : Nat → ByteArray) (ns : Nat → Bool) (star : Bool) : Prop where
  rws : Rws w fb ov (.map (some mb)) (.slice (some ⟨rb, 0, none⟩) (rs (toN W (L2 (fo T) (fo G) ns star n n))).length rc) (.slice (some ⟨sb, 0, none⟩) ((toN W (L2 (fo T) (fo G) ns star n n)).length + 1) sc) kc kg kn kh n (fo T) (fo G) (fun i => (i : Int) + 1) (gnF (fo T) (fo G) ns star n) (if star then (n : Int) + 1 else -1)
  z : ZAt w fb mb (.slice (some ⟨rb, 0, none⟩) (rs (toN W (L2 (fo T) (fo G) ns star n n))).length rc) (.slice (some ⟨sb, 0, none⟩) ((toN W (L2 (fo T) (fo G) ns star n n)).length + 1) sc) (toN W (L2 (fo T) (fo G) ns star n n))
  oo : w.ownsRow fb 5 1 ov W.length (bc W)
theorem BuildPost.built {w w' : World} {fb n : Nat} {W : List UInt8} {T G : Nat → ByteArray} {ns : Nat → Bool} {star : Bool} (h : BuildPost w fb n W T G ns star w') : ∃ mb rb rc sb sc ov kc kg kn kh, Built w' fb mb rb rc sb sc ov W kc kg kn kh n T G ns star ∧ Below fb w w' := by
  obtain ⟨mb, ov, kc, kg, kn, kh, rv, sv, h⟩ := h
  obtain ⟨rb, rc, hr⟩ := own_at h.bs.z.rr (rs_pos W)
  obtain ⟨sb, sc, hs⟩ := own_at h.bs.z.ss (Nat.succ_pos _)
  subst hr hs
  exact ⟨mb, rb, rc, sb, sc, ov, kc, kg, kn, kh, ⟨⟨h.bs.fr, h.c, h.g, h.nn, h.hh.congr (fun i hi => by simp [cpy, hi])⟩, h.bs.z, h.bs.oo⟩, h.bs.bl⟩
theorem Built.below {w w' : World} {fb mb rb rc sb sc : Nat} {ov : Value} {W : List UInt8} {kc kg kn kh n : Nat} {T G : Nat → ByteArray} {ns : Nat → Bool} {star : Bool} (h : Built w fb mb rb rc sb sc ov W kc kg kn kh n T G ns star) (hb : Below w.heap.size w w') : Built w' fb mb rb rc sb sc ov W kc kg kn kh n T G ns star :=
  ⟨h.rws.below hb, h.z.below hb, owned_kept h.oo (fun k _ hk => hb.block k hk)⟩
end Go.Proofs.Qxb6003450a
