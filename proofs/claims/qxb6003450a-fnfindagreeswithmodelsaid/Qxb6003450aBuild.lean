import Derived.Test.Qxb6003450aBuildKit
namespace Go.Proofs.Qxb6003450a
open Go.RowKit

def fo (T : Nat → ByteArray) (i : Nat) : List UInt8 := fold (T i).data.toList
/-- loop 1's state -/
def LP1 (w : World) (fb mb : Nat) (ov : Value) (W : List UInt8) (kc kg kn kh n : Nat) (T G : Nat → ByteArray) (ns : Nat → Bool) (k : Nat) (wx : World) : Prop :=
  ∃ rv sv, LPs w wx fb mb ov rv sv W kc kg kn kh n (cpy (fun i => sv8 (fo T i)) (.string ⟨#[]⟩) k) (cpy (fun i => sv8 (fo G i)) (.string ⟨#[]⟩) k) (cpy (fun i => .int .i64 ((i : Int) + 1)) (.int .i64 0) k) (fun _ => .int .i64 0) 0 (toN W (L1 (fo T) ns k))

theorem made_lp1 {w w3 : World} {fb mb : Nat} {ov rv sv : Value} {W : List UInt8} {n : Nat} (T G : Nat → ByteArray) (ns : Nat → Bool) (h : BS w w3 fb mb ov rv sv W (.slice none 0 0) (.slice none 0 0) (.slice none 0 0) (.slice none 0 0) 0 [(W, [6])]) :
    ∃ kc kg kn kh, (kc ≠ kg ∧ kn ≠ kh ∧ fb < kc ∧ fb < kg ∧ fb < kn ∧ fb < kh) ∧ LP1 w fb mb ov W kc kg kn kh n T G ns 0 ((((((((w3.setCell ⟨fb, 4, none⟩ (.slice (some ⟨w3.heap.size, 0, none⟩) n n)).setCell ⟨fb, 5, none⟩ (.slice (some ⟨w3.heap.size + 1, 0, none⟩) n n)).setCell ⟨fb, 6, none⟩ (.slice (some ⟨w3.heap.size + 1 + 1, 0, none⟩) n n)).setCell ⟨fb, 7, none⟩ (.slice (some ⟨w3.heap.size + 1 + 1 + 1, 0, none⟩) n n)).alloc
      (.cells (madeCells #[.string ⟨#[]⟩] n) 9)).alloc (.cells (madeCells #[.string ⟨#[]⟩] n) 9)).alloc (.cells (madeCells #[.int .i64 0] n) 3)).alloc (.cells (madeCells #[.int .i64 0] n) 3)) := by
  have hfl := h.fr.lt
  refine ⟨w3.heap.size, w3.heap.size + 1, w3.heap.size + 1 + 1, w3.heap.size + 1 + 1 + 1, ⟨by omega, by omega, hfl, by omega, by omega, by omega⟩, rv, sv, ?_⟩
  have e : toN W (L1 (fo T) ns 0) = [(W, [6])] := by simp [toN, L1, Lc, nm]
  rw [e]
  exact (made_lp h).congr (fun i _ => by simp [cpy]) (fun i _ => by simp [cpy]) (fun i _ => by simp [cpy]) (fun i _ => rfl)

theorem rs_le (N : List Nd) (h : ∀ p ∈ N, p.2.length ≤ 2) : (rs N).length ≤ 2 * N.length := by
  induction N with
  | nil => exact Nat.le_refl _
  | cons p N ih =>
    have h1 := h p (by simp)
    have h2 := ih (fun q hq => h q (by simp [hq]))
    have e : rs (p :: N) = (p.2.map fun t => (p.1, t)) ++ rs N := by simp [rs]
    rw [e, List.length_append, List.length_map, List.length_cons]
    omega
theorem tsC_le (ns : Nat → Bool) (i : Nat) : (tsC ns i).length ≤ 2 := by unfold tsC; split <;> simp
theorem L2_two {C G : Nat → List UInt8} {ns : Nat → Bool} {star : Bool} (W : List UInt8) (n k : Nat) : ∀ p ∈ toN W (L2 C G ns star n k), p.2.length ≤ 2 := by
  intro p hp
  simp only [toN, List.mem_map] at hp
  obtain ⟨q, hq, rfl⟩ := hp
  rcases L2_mem n k q hq with rfl | ⟨i, _, rfl⟩ | ⟨_, rfl⟩ | ⟨i, _, _, rfl⟩
  · simp
  · exact tsC_le ns i
  · simp
  · simp
theorem L1_two {C : Nat → List UInt8} {ns : Nat → Bool} (W : List UInt8) (k : Nat) : ∀ p ∈ toN W (L1 C ns k), p.2.length ≤ 2 := by
  intro p hp
  simp only [toN, List.mem_map] at hp
  obtain ⟨q, hq, rfl⟩ := hp
  rcases L1_mem k q hq with rfl | ⟨i, _, rfl⟩
  · simp
  · exact tsC_le ns i
theorem L1_small {C : Nat → List UInt8} {ns : Nat → Bool} (k : Nat) (hC : ∀ i, i < k → (C i).length < 256) : AllSmall (L1 C ns k) := by
  intro p hp l hl
  rcases L1_mem k p hp with rfl | ⟨i, hi, rfl⟩
  · cases hl
  · simp only [List.mem_singleton] at hl
    subst hl
    exact hC i hi
theorem small1 {l : List UInt8} (h : l.length < 256) : Small [l] := by
  intro x hx
  simp only [List.mem_singleton] at hx
  subst hx
  exact h
theorem new_child {C : Nat → List UInt8} {ns : Nat → Bool} {W : List UInt8} {k : Nat} (hC : ∀ i, i ≤ k → (C i).length < 256) (hap : ∀ j, j < k → C j ≠ C k) : nm [C k] W ∉ keys (toN W (L1 C ns k)) := by
  refine not_key (L1_small k (fun i hi => hC i (by omega))) (small1 (hC k (Nat.le_refl _))) (fun p hp => ?_)
  rcases L1_mem k p hp with rfl | ⟨i, hi, rfl⟩
  · simp
  · intro e
    exact hap i hi (by simpa using e)
theorem LP1.step {w wx : World} {fb mb : Nat} {ov rv sv : Value} {W : List UInt8} {kc kg kn kh n : Nat} {T G : Nat → ByteArray} {ns : Nat → Bool} {k : Nat} {Fk Gk : List UInt8} {m : Int} {p : Nd}
    (h : LPs w wx fb mb ov rv sv W kc kg kn kh n (fun j => if j = k then .string ⟨Fk.toArray⟩ else cpy (fun i => sv8 (fo T i)) (.string ⟨#[]⟩) k j) (fun j => if j = k then .string ⟨Gk.toArray⟩ else cpy (fun i => sv8 (fo G i)) (.string ⟨#[]⟩) k j) (fun j => if j = k then .int .i64 m else cpy (fun i => .int .i64 ((i : Int) + 1)) (.int .i64 0) k j) (fun _ => .int .i64 0) 0 (toN W (L1 (fo T) ns k) ++ [p]))
    (hF : Fk = fo T k) (hG : Gk = fo G k) (hm : m = (k : Int) + 1) (hp : p = (nm [fo T k] W, tsC ns k)) : LP1 w fb mb ov W kc kg kn kh n T G ns (k + 1) wx := by
  have st : ∀ (S : Nat → Value) (z v : Value), v = S k → ∀ j, (if j = k then v else cpy S z k j) = cpy S z (k + 1) j := by
    intro S z v hv j
    unfold cpy
    by_cases e : j = k
    · subst e; simp [hv]
    · simp only [if_neg e]
      have : j < k + 1 ↔ j < k := by omega
      simp only [this]
  refine ⟨rv, sv, ?_⟩
  have e : toN W (L1 (fo T) ns (k + 1)) = toN W (L1 (fo T) ns k) ++ [p] := by rw [L1_succ, toN_append, hp]; rfl
  rw [e]
  exact h.congr (fun j _ => st _ _ _ (by rw [hF]; rfl) j) (fun j _ => st _ _ _ (by rw [hG]; rfl) j) (fun j _ => st _ _ _ (by rw [hm]) j) (fun j _ => rfl)

/-- loop 2's state -/
def LP2 (w : World) (fb mb : Nat) (ov : Value) (W : List UInt8) (kc kg kn kh n : Nat) (T G : Nat → ByteArray) (ns : Nat → Bool) (star : Bool) (k : Nat) (wx : World) : Prop :=
  ∃ rv sv, LPs w wx fb mb ov rv sv W kc kg kn kh n (fun i => sv8 (fo T i)) (fun i => sv8 (fo G i)) (fun i => .int .i64 ((i : Int) + 1)) (cpy (fun i => .int .i64 (gnF (fo T) (fo G) ns star n i)) (.int .i64 0) k) (if star then (n : Int) + 1 else -1) (toN W (L2 (fo T) (fo G) ns star n k))
def BuildPost (w : World) (fb n : Nat) (W : List UInt8) (T G : Nat → ByteArray) (ns : Nat → Bool) (star : Bool) (w' : World) : Prop :=
  ∃ mb ov kc kg kn kh, LP2 w fb mb ov W kc kg kn kh n T G ns star n w'

theorem LPs.setS {w wx : World} {fb mb : Nat} {ov rv sv : Value} {o : List UInt8} {cb gb nb hb n : Nat} {Cv Gv Nv Hv : Nat → Value} {sn : Int} {N : List Nd} (h : LPs w wx fb mb ov rv sv o cb gb nb hb n Cv Gv Nv Hv sn N) (s : Int) : LPs w (wx.setCell ⟨fb, 8, none⟩ (.int .i64 s)) fb mb ov rv sv o cb gb nb hb n Cv Gv Nv Hv s N := by
  refine ⟨⟨?_, h.bs.z.set h.bs.fr (by decide) (by decide) _, own_set_other h.bs.oo h.bs.fr (by decide) _, h.bs.bl.setCell (p := ⟨fb, 8, none⟩) (Nat.le_refl _) _⟩, h.c.setOther (a := ⟨fb, 8, none⟩) (row_ne h.c h.bs.fr (by decide)) _, h.g.setOther (a := ⟨fb, 8, none⟩) (row_ne h.g h.bs.fr (by decide)) _, h.nn.setOther (a := ⟨fb, 8, none⟩) (row_ne h.nn h.bs.fr (by decide)) _, h.hh.setOther (a := ⟨fb, 8, none⟩) (row_ne h.hh h.bs.fr (by decide)) _⟩
  have := h.bs.fr.set 8 (.int .i64 s)
  rwa [zf_set8] at this
theorem cpy_full {n : Nat} (S : Nat → Value) (z : Value) : ∀ i, i < n → cpy S z n i = S i := fun i hi => by simp [cpy, hi]
theorem LP2.start0 {w wx : World} {fb mb : Nat} {ov rv sv : Value} {W : List UInt8} {kc kg kn kh n : Nat} {T G : Nat → ByteArray} {ns : Nat → Bool}
    (h : LPs w wx fb mb ov rv sv W kc kg kn kh n (cpy (fun i => sv8 (fo T i)) (.string ⟨#[]⟩) n) (cpy (fun i => sv8 (fo G i)) (.string ⟨#[]⟩) n) (cpy (fun i => .int .i64 ((i : Int) + 1)) (.int .i64 0) n) (fun _ => .int .i64 0) (-1) (toN W (L1 (fo T) ns n))) : LP2 w fb mb ov W kc kg kn kh n T G ns false 0 wx := by
  refine ⟨rv, sv, ?_⟩
  have e : L2 (fo T) (fo G) ns false n 0 = L1 (fo T) ns n := by simp [L2, Ls, Lg]
  rw [e]
  exact h.congr (cpy_full _ _) (cpy_full _ _) (cpy_full _ _) (fun i _ => by simp [cpy])
theorem LP2.start1 {w wx : World} {fb mb : Nat} {ov rv sv : Value} {W : List UInt8} {kc kg kn kh n : Nat} {T G : Nat → ByteArray} {ns : Nat → Bool} {m : Int} {p : Nd}
    (h : LPs w wx fb mb ov rv sv W kc kg kn kh n (cpy (fun i => sv8 (fo T i)) (.string ⟨#[]⟩) n) (cpy (fun i => sv8 (fo G i)) (.string ⟨#[]⟩) n) (cpy (fun i => .int .i64 ((i : Int) + 1)) (.int .i64 0) n) (fun _ => .int .i64 0) m (toN W (L1 (fo T) ns n) ++ [p])) (hm : m = (n : Int) + 1) (hp : p = (nm [[42]] W, [1])) : LP2 w fb mb ov W kc kg kn kh n T G ns true 0 wx := by
  refine ⟨rv, sv, ?_⟩
  have e : toN W (L2 (fo T) (fo G) ns true n 0) = toN W (L1 (fo T) ns n) ++ [p] := by
    rw [hp]
    simp [L2, Ls, Lg, toN]
  rw [e, if_pos rfl, ← hm]
  exact h.congr (cpy_full _ _) (cpy_full _ _) (cpy_full _ _) (fun i _ => by simp [cpy])
theorem LP2.none {w wx : World} {fb mb : Nat} {ov rv sv : Value} {W : List UInt8} {kc kg kn kh n : Nat} {T G : Nat → ByteArray} {ns : Nat → Bool} {star : Bool} {k : Nat}
    (h : LPs w wx fb mb ov rv sv W kc kg kn kh n (fun i => sv8 (fo T i)) (fun i => sv8 (fo G i)) (fun i => .int .i64 ((i : Int) + 1)) (fun j => if j = k then .int .i64 (-1) else cpy (fun i => .int .i64 (gnF (fo T) (fo G) ns star n i)) (.int .i64 0) k j) (if star then (n : Int) + 1 else -1) (toN W (L2 (fo T) (fo G) ns star n k)))
    (hG : fo G k = []) : LP2 w fb mb ov W kc kg kn kh n T G ns star (k + 1) wx := by
  refine ⟨rv, sv, ?_⟩
  have e : L2 (fo T) (fo G) ns star n (k + 1) = L2 (fo T) (fo G) ns star n k := by unfold L2; rw [Lg, if_pos hG]
  rw [e]
  exact h.congr (fun _ _ => rfl) (fun _ _ => rfl) (fun _ _ => rfl) (fun j _ => by
    unfold cpy
    by_cases e : j = k
    · subst e; simp [gnF, hG]
    · simp only [if_neg e]
      have : j < k + 1 ↔ j < k := by omega
      simp only [this])
theorem LP2.some {w wx : World} {fb mb : Nat} {ov rv sv : Value} {W : List UInt8} {kc kg kn kh n : Nat} {T G : Nat → ByteArray} {ns : Nat → Bool} {star : Bool} {k : Nat} {p : Nd} {m : Int}
    (h : LPs w wx fb mb ov rv sv W kc kg kn kh n (fun i => sv8 (fo T i)) (fun i => sv8 (fo G i)) (fun i => .int .i64 ((i : Int) + 1)) (fun j => if j = k then .int .i64 m else (if j = k then .int .i64 (-1) else cpy (fun i => .int .i64 (gnF (fo T) (fo G) ns star n i)) (.int .i64 0) k j)) (if star then (n : Int) + 1 else -1) (toN W (L2 (fo T) (fo G) ns star n k) ++ [p]))
    (hG : fo G k ≠ []) (hm : m = ((L2 (fo T) (fo G) ns star n k).length : Int)) (hp : p = (nm [fo G k, fo T k] W, [1])) : LP2 w fb mb ov W kc kg kn kh n T G ns star (k + 1) wx := by
  refine ⟨rv, sv, ?_⟩
  have e : toN W (L2 (fo T) (fo G) ns star n (k + 1)) = toN W (L2 (fo T) (fo G) ns star n k) ++ [p] := by
    rw [hp]
    unfold L2
    rw [Lg, if_neg hG, ← List.append_assoc, toN_append]
    rfl
  rw [e]
  exact h.congr (fun _ _ => rfl) (fun _ _ => rfl) (fun _ _ => rfl) (fun j _ => by
    unfold cpy
    by_cases e : j = k
    · subst e; simp [gnF, hG, hm]
    · simp only [if_neg e]
      have : j < k + 1 ↔ j < k := by omega
      simp only [this])
theorem new_star {C : Nat → List UInt8} {ns : Nat → Bool} {W : List UInt8} {k : Nat} (hC : ∀ i, i < k → (C i).length < 256) (hap : ∀ j, j < k → C j ≠ [42]) : nm [[42]] W ∉ keys (toN W (L1 C ns k)) := by
  refine not_key (L1_small k hC) (small1 (by decide)) (fun p hp => ?_)
  rcases L1_mem k p hp with rfl | ⟨i, hi, rfl⟩
  · simp
  · intro e
    exact hap i hi (by simpa using e)
theorem new_grand {C G : Nat → List UInt8} {ns : Nat → Bool} {star : Bool} {W : List UInt8} {n k : Nat} (hk : k < n) (hC : ∀ i, i < n → (C i).length < 256) (hG : ∀ i, i < n → (G i).length < 256) (hap : ∀ i j, i < j → j < n → C i ≠ C j) : nm [G k, C k] W ∉ keys (toN W (L2 C G ns star n k)) := by
  refine not_key (L2_small n k (by omega) hC hG) (fun l hl => ?_) (fun p hp => ?_)
  · simp only [List.mem_cons, List.not_mem_nil, or_false] at hl
    rcases hl with rfl | rfl
    · exact hG k hk
    · exact hC k hk
  · rcases L2_mem n k p hp with rfl | ⟨i, hi, rfl⟩ | ⟨_, rfl⟩ | ⟨i, hi, _, rfl⟩
    · simp
    · simp
    · simp
    · intro e
      have e2 : C i = C k := by
        have := e
        simp only [List.cons.injEq, and_true] at this
        exact this.2
      exact hap i k hi hk e2

set_option maxRecDepth 20000 in
set_option maxHeartbeats 4000000 in
theorem build_any (fb : Nat) (o : ByteArray) (a b c : Option Addr) (n ca cb cc : Nat) (T G : Nat → ByteArray) (ns : Nat → Bool) (star : Bool) (wc w : World)
    (hf : w.rowIs fb 35 9 zf0) (hwc : Below fb wc w) (hfc : wc.heap.size = fb) (hT : ThingsAt wc a n (fun i => .string (T i))) (hS : ThingsAt wc b n (fun i => .bool (ns i))) (hG : ThingsAt wc c n (fun i => .string (G i))) (ho : o.size ≤ 20) (hn : n ≤ 8) (hgood : ∀ i, i < n → Good T G i) :
    Calls Try.prog 13 #[.pointer (some ⟨fb, 0, none⟩), .string o, .slice a n ca, .slice b n cb, .slice c n cc, .bool star] w fun r w' => r = .returned (.tuple #[]) ∧ BuildPost w fb n (wire (fold o.data.toList)) T G ns star w' := by
  have hmm := @run_makeMap Try.prog
  have hmk := make_strs n (by omega)
  have hmi := make_ints n (by omega)
  go_enter Try.func13, Try.ntmps13
  go_wp2_with fail
  refine (fold_any o _ (by omega)).mono ?_
  rintro e w1 ⟨rfl, hb1⟩
  obtain ⟨O, hO⟩ : ∃ O, O = fold o.data.toList := ⟨_, rfl⟩
  rw [← hO]
  have hOl : (⟨O.toArray⟩ : ByteArray).size ≤ 20 := by
    have : (⟨O.toArray⟩ : ByteArray).size = O.length := by simp [ByteArray.size]
    rw [this, hO, fold_length]
    simpa using ho
  have HO : Hid (O = fold o.data.toList) := hO
  clear hO
  go_wp2_with fail
  refine (wire_any ⟨O.toArray⟩ _ hOl).mono ?_
  rintro e w2 ⟨v2, rfl, hov, hb2⟩
  obtain ⟨va, vc, rfl⟩ := own_shape hov
  have hb12 : Below w.heap.size w w2 := hb1.trans (hb2.mono hb1.size)
  have hf2 := hf.of_block (hb12.block fb hf.lt)
  have c0 := hf2.cell (i := 0) (by decide)
  have c1 := hf2.cell (i := 1) (by decide)
  have c2 := hf2.cell (i := 2) (by decide)
  have c3 := hf2.cell (i := 3) (by decide)
  have u2 := fun i => hf2.frozen i
  have hfl := hf2.lt
  simp only [zf0, zf] at c0 c1 c2 c3
  have hwl : (wire O).length ≤ 22 := by
    have : O.length ≤ 20 := by
      have h2 : (⟨O.toArray⟩ : ByteArray).size = O.length := by simp [ByteArray.size]
      omega
    unfold wire lab
    split <;> simp; omega
  obtain ⟨W, hW⟩ : ∃ W, W = wire O := ⟨_, rfl⟩
  have hov' : w2.ownsRow fb 5 1 (.slice va W.length vc) W.length (bc W) := by
    rw [hW]
    exact ownsRow_mono hov (by have := hf.lt; have := hb1.size; omega)
  have hs0 := start_bs hf2 hov' ((hb12.mono (Nat.le_of_lt hf.lt)))
  have hva : (wire (⟨O.toArray⟩ : ByteArray).data.toList) = W := by rw [hW]
  rw [hva]
  have HW : Hid (W = wire O) := hW
  have HWp : Hid (0 < W.length) := by
    show 0 < W.length
    rw [hW]
    unfold wire
    split <;> simp
  rw [← hW] at hwl
  clear hov hov' hva hW
  go_wp2_with fail
  refine (add_any fb w2.heap.size fb fb _ _ _ _ _ _ _ _ [] _ W 6 0 _ hs0.fr hs0.z hs0.oo (by simp [keys]) (Nat.le_refl _) (by simp) (by simp [rs]) (by omega) (by decide)).mono ?_
  rintro r w3 ⟨rfl, rv3, sv3, hf3, hz3, hst3⟩
  rw [List.nil_append, if_pos rfl] at hz3
  have hB3 : BS w w3 fb w2.heap.size (.slice va W.length vc) rv3 sv3 W (.slice none 0 0) (.slice none 0 0) (.slice none 0 0) (.slice none 0 0) 0 [(W, [6])] := ⟨hf3, hz3, hst3.owns hs0.oo, hs0.bl.trans hst3.below⟩
  obtain ⟨mb, hmb⟩ : ∃ mb, mb = w2.heap.size := ⟨_, rfl⟩
  rw [← hmb] at hB3
  clear hf3 hz3 hst3 hs0 c0 c1 c2 c3 u2 hfl hf2 hb12 hb2 hb1 hmm
  have d4 := hB3.fr.cell (i := 4) (by decide)
  have d5 := hB3.fr.cell (i := 5) (by decide)
  have d6 := hB3.fr.cell (i := 6) (by decide)
  have d7 := hB3.fr.cell (i := 7) (by decide)
  have u3 := fun i => hB3.fr.frozen i
  have hfl3 := hB3.fr.lt
  simp only [zf] at d4 d5 d6 d7
  have HB3 : Hid (BS w w3 fb mb (.slice va W.length vc) rv3 sv3 W (.slice none 0 0) (.slice none 0 0) (.slice none 0 0) (.slice none 0 0) 0 [(W, [6])]) := hB3
  have HG : Hid (∀ i, i < n → Good T G i) := hgood
  have HT : Hid (ThingsAt wc a n (fun i => .string (T i)) ∧ ThingsAt wc b n (fun i => .bool (ns i)) ∧ ThingsAt wc c n (fun i => .string (G i))) := ⟨hT, hS, hG⟩
  clear hB3 hgood hT hS hG hf hmb
  have u34 := u3 4
  have u35 := u3 5
  have u36 := u3 6
  have u37 := u3 7
  clear u3
  have l1 : fb < w3.heap.size + 1 := by omega
  have l2 : fb < w3.heap.size + 1 + 1 := by omega
  have l3 : fb < w3.heap.size + 1 + 1 + 1 := by omega
  have l2' : fb < w3.heap.size + 2 := by omega
  have l3' : fb < w3.heap.size + 3 := by omega
  go_wp2
  obtain ⟨kc, kg, kn, kh, ⟨ncg, nnh, lc, lg, ln, lh⟩, hst'⟩ := made_lp1 (n := n) T G ns HB3.out
  clear d4 d5 d6 d7 u34 u35 u36 u37 l1 l2 l3 l2' l3' HB3 hmk hmi
  go_loopw [12] (fun i wx => ∃ k : Nat, k ≤ n ∧ i = .int .i64 (k : Int) ∧ LP1 w fb mb (.slice va W.length vc) W kc kg kn kh n T G ns k wx) (fun i _ => n - (intOf i).toNat)
  case atStart => exact ⟨0, Nat.zero_le _, rfl, hst'⟩
  case round =>
    clear hst'
    obtain ⟨k, hk, rfl, rv, sv, hl⟩ := hrel
    by_cases hlt : k < n
    · have hlt' : (k : Int) < (n : Int) := by omega
      have gd := HG.out k hlt
      obtain ⟨g1, f1, hx1, hg1, hq1⟩ := things HT.out.1 hlt
      obtain ⟨g2, f2, hx2, hg2, hq2⟩ := things HT.out.2.1 hlt
      obtain ⟨g3, f3, hx3, hg3, hq3⟩ := things HT.out.2.2 hlt
      subst hx1 hx2 hx3
      rw [hfc] at hg1 hg2 hg3
      have HC1 : Hid (w.cell? ⟨g1, f1 + k, none⟩ = some (.string (T k))) := (hwc.cell (p := ⟨g1, f1 + k, none⟩) hg1).trans (hq1 k hlt)
      have HC2 : Hid (w.cell? ⟨g2, f2 + k, none⟩ = some (.bool (ns k))) := (hwc.cell (p := ⟨g2, f2 + k, none⟩) hg2).trans (hq2 k hlt)
      have HC3 : Hid (w.cell? ⟨g3, f3 + k, none⟩ = some (.string (G k))) := (hwc.cell (p := ⟨g3, f3 + k, none⟩) hg3).trans (hq3 k hlt)
      clear hq1 hq2 hq3
      obtain ⟨Fk, hFk⟩ : ∃ Fk, Fk = fo T k := ⟨_, rfl⟩
      obtain ⟨Gk, hGk⟩ : ∃ Gk, Gk = fo G k := ⟨_, rfl⟩
      have hfo : ∀ w, Calls Try.prog 29 #[.string (T k)] w fun e w' => e = .returned (.string ⟨Fk.toArray⟩) ∧ Below w.heap.size w w' := fun w => by rw [hFk]; exact fold_any (T k) w (by have := gd.t1; omega)
      have hgo : ∀ w, Calls Try.prog 29 #[.string (G k)] w fun e w' => e = .returned (.string ⟨Gk.toArray⟩) ∧ Below w.heap.size w w' := fun w => by rw [hGk]; exact fold_any (G k) w (by have := gd.g1; omega)
      have HF : Hid (Fk = fo T k ∧ Gk = fo G k) := ⟨hFk, hGk⟩
      have a1 : ¬ fb = kc := by omega
      have a2 : ¬ kc = fb := by omega
      have a3 : ¬ g1 = kc := by omega
      have a4 : ¬ kc = g1 := by omega
      have t0 := (hl.bs.bl.cell (p := ⟨g1, f1 + k, none⟩) hg1).trans HC1.out
      have x4 : wr.cell? ⟨fb, 4, none⟩ = some (.slice (some ⟨kc, 0, none⟩) n n) := hl.bs.fr.cell (i := 4) (by decide)
      clear hFk hGk
      go_wp2
      go_region_held3 (fun w' => w'.cell? ⟨fb, 4, none⟩ = some (.slice (some ⟨kc, 0, none⟩) n n) ∧ w'.cell? ⟨g1, f1 + k, none⟩ = some (.string (T k))) (simp [go_sem, *])
        (first | (go_at_call 29; refine (hfo _).mono ?_; rintro r w4 ⟨rfl, hb4⟩; have hl4 := hl.drew.below hb4; have y4 : w4.cell? ⟨fb, 4, none⟩ = some (.slice (some ⟨kc, 0, none⟩) n n) := hl4.bs.fr.cell (i := 4) (by decide); have t4 := (hl4.bs.bl.cell (p := ⟨g1, f1 + k, none⟩) hg1).trans HC1.out; have p4 := hl4.c.cell hlt; have q4 := hl4.c.frozen k))
      have hl5 := hl4.setC ncg (Nat.le_of_lt lc) k (.string ⟨Fk.toArray⟩)
      obtain ⟨w5, hw5⟩ : ∃ w5, w5 = w4.setCell ⟨kc, k, none⟩ (.string ⟨Fk.toArray⟩) := ⟨_, rfl⟩
      rw [← hw5] at hl5 ⊢
      clear hw5 hl4 y4 t4 p4 q4 hb4 hl t0 x4
      have a5 : ¬ fb = kg := by omega
      have a6 : ¬ kg = fb := by omega
      have a7 : ¬ g3 = kg := by omega
      have a8 : ¬ kg = g3 := by omega
      have t5 := (hl5.bs.bl.cell (p := ⟨g3, f3 + k, none⟩) hg3).trans HC3.out
      have x5 : w5.cell? ⟨fb, 5, none⟩ = some (.slice (some ⟨kg, 0, none⟩) n n) := hl5.bs.fr.cell (i := 5) (by decide)
      clear a1 a2 a3 a4 hfo
      go_wp2
      go_region_held3 (fun w' => w'.cell? ⟨fb, 5, none⟩ = some (.slice (some ⟨kg, 0, none⟩) n n) ∧ w'.cell? ⟨g3, f3 + k, none⟩ = some (.string (G k))) (simp [go_sem, *])
        (first | (go_at_call 29; refine (hgo _).mono ?_; rintro r w6 ⟨rfl, hb6⟩; have hl6 := hl5.drew.below hb6; have y6 : w6.cell? ⟨fb, 5, none⟩ = some (.slice (some ⟨kg, 0, none⟩) n n) := hl6.bs.fr.cell (i := 5) (by decide); have t6 := (hl6.bs.bl.cell (p := ⟨g3, f3 + k, none⟩) hg3).trans HC3.out; have p6 := hl6.g.cell hlt; have q6 := hl6.g.frozen k))
      have hl7 := hl6.setG ncg (Nat.le_of_lt lg) k (.string ⟨Gk.toArray⟩)
      obtain ⟨w7, hw7⟩ : ∃ w7, w7 = w6.setCell ⟨kg, k, none⟩ (.string ⟨Gk.toArray⟩) := ⟨_, rfl⟩
      rw [← hw7] at hl7 ⊢
      clear hw7 hl6 y6 t6 p6 q6 hb6 hl5 t5 x5 a5 a6 a7 a8 hgo
      have x7 : w7.cell? ⟨fb, 4, none⟩ = some (.slice (some ⟨kc, 0, none⟩) n n) := hl7.bs.fr.cell (i := 4) (by decide)
      have s7 : w7.cell? ⟨kc, k, none⟩ = some (.string ⟨Fk.toArray⟩) := (hl7.c.cell hlt).trans (by rw [if_pos rfl])
      have hFs : (⟨Fk.toArray⟩ : ByteArray).size = (T k).size := by
        have : (⟨Fk.toArray⟩ : ByteArray).size = Fk.length := by simp [ByteArray.size]
        rw [this, HF.out.1, fo, fold_length]
        simp
      have hF0 : 1 ≤ (⟨Fk.toArray⟩ : ByteArray).size := by rw [hFs]; exact gd.t0
      have hF1 : (⟨Fk.toArray⟩ : ByteArray).size ≤ 20 := by rw [hFs]; exact gd.t1
      have hlab := label_any (.slice none 0 0) [] ⟨Fk.toArray⟩ w7.heap.size w7 (World.ownsRow_nil _ _ _ _) (Nat.le_refl _) (by simp) hF0 hF1
      rw [List.nil_append] at hlab
      obtain ⟨P8, hP8⟩ : ∃ P8, P8 = lab Fk := ⟨_, rfl⟩
      have hP8' : lab (⟨Fk.toArray⟩ : ByteArray).data.toList = P8 := by rw [hP8]
      rw [hP8'] at hlab
      have hP8l : P8.length ≤ 21 := by
        have : (⟨Fk.toArray⟩ : ByteArray).size = Fk.length := by simp [ByteArray.size]
        rw [hP8]; simp [lab]; omega
      have HLAB : Hid (Calls Try.prog 47 #[.slice none 0 0, .string ⟨Fk.toArray⟩] w7 fun e w' => ∃ v', e = .returned v' ∧ w'.ownsRow w7.heap.size 5 1 v' P8.length (bc P8) ∧ Below w7.heap.size w7 w') := hlab
      have HP8 : Hid (P8 = lab Fk) := hP8
      clear hlab hP8 hP8' hF0 hF1 hFs
      go_wp2_with fail
      refine HLAB.out.mono ?_
      rintro e w8 ⟨v8, rfl, ho8, hb8⟩
      have hl8 := hl7.below hb8
      have x8 : w8.cell? ⟨fb, 0, none⟩ = some (.slice va W.length vc) := hl8.bs.fr.cell (i := 0) (by decide)
      have hso := src_owned hl8.bs.oo
      have hWp : 0 < W.length := HWp.out
      have hPW : P8.length + W.length ≤ 140737488355328 := by omega
      have hs8 := hb8.size
      clear x7 s7
      go_wp2_with (at_builtin; refine append_bytes _ rfl (.tmp 97) (.tmp 101) 29 rfl w7.heap.size v8 P8 rfl ho8 _ W rfl hso hWp hPW hs8 ?_)
      intro v9 w9 Kk HK hk9' hg9 hb9
      have hl9 := hl7.below (hb8.trans hb9)
      have hk9 : w9.drew.ownsRow fb 5 1 v9 Kk.length (bc Kk) := ownsRow_mono hk9' (Nat.le_of_lt hl7.bs.fr.lt)
      have HKk : Hid (Kk = nm [Fk] W) := by
        show Kk = _
        rw [HK.out, HP8.out]
        simp [nm]
      have hsm : ∀ i, i ≤ k → (fo T i).length < 256 := fun i hi => by
        have := (HG.out i (by omega)).t1
        rw [fo, fold_length]
        simp
        omega
      have hnew : Kk ∉ keys (toN W (L1 (fo T) ns k)) := by
        rw [HKk.out, HF.out.1]
        exact new_child hsm gd.ap
      have hNl : (toN W (L1 (fo T) ns k)).length ≤ 100 := by rw [toN_length, L1_length]; omega
      have hRl : (rs (toN W (L1 (fo T) ns k))).length ≤ 200 := Nat.le_trans (rs_le _ (L1_two W k)) (by omega)
      have hKl : Kk.length ≤ 100 := by rw [HK.out, List.length_append]; omega
      have b9 := (hl9.bs.bl.cell (p := ⟨g2, f2 + k, none⟩) hg2).trans HC2.out
      have x9 : w9.cell? ⟨fb, 6, none⟩ = some (.slice (some ⟨kn, 0, none⟩) n n) := hl9.bs.fr.cell (i := 6) (by decide)
      have a1 : ¬ fb = kn := by omega
      have a2 : ¬ kn = fb := by omega
      obtain ⟨va9, vc9, rfl⟩ := own_shape hk9
      clear hl7 hl8 ho8 hb8 hg9 hb9 hk9' x8 hso hPW hs8 hP8l gd hsm
      cases hnb : ns k
      · rw [hnb] at b9
        have Hns : Hid (ns k = false) := hnb
        clear hnb
        go_wp2
        go_region_held3 (fun w' => w'.cell? ⟨fb, 6, none⟩ = some (.slice (some ⟨kn, 0, none⟩) n n)) (simp [go_sem, *])
          (first | (go_at_call 46; refine (add_any fb mb fb fb _ _ _ _ _ _ _ _ (toN W (L1 (fo T) ns k)) _ Kk 1 0 _ hl9.drew.bs.fr hl9.drew.bs.z hk9 hnew (Nat.le_refl _) hNl hRl hKl (by decide)).mono ?_; rintro r wA ⟨rfl, hA⟩; obtain ⟨rvA, svA, hlA⟩ := hl9.drew.added hA; have yA : wA.cell? ⟨fb, 6, none⟩ = some (.slice (some ⟨kn, 0, none⟩) n n) := hlA.bs.fr.cell (i := 6) (by decide); have pA := hlA.nn.cell hlt; have qA := hlA.nn.frozen k))
        have hlB := hlA.setN nnh (Nat.le_of_lt ln) k (.int .i64 ((toN W (L1 (fo T) ns k)).length : Int))
        go_wp2
        go_roundw
        case rel => exact ⟨k + 1, by omega, by go_num, LP1.step hlB HF.out.1 HF.out.2 (by rw [toN_length, L1_length]; omega) (by rw [HKk.out, ← HF.out.1]; unfold tsC; rw [Hns.out]; rfl)⟩
        case measure => simp [intOf]; omega
      · rw [hnb] at b9
        have Hns : Hid (ns k = true) := hnb
        clear hnb
        go_wp2
        go_region_held3 (fun w' => w'.cell? ⟨fb, 6, none⟩ = some (.slice (some ⟨kn, 0, none⟩) n n)) (simp [go_sem, *])
          (first | (go_at_call 46; refine (add_any fb mb fb fb _ _ _ _ _ _ _ _ (toN W (L1 (fo T) ns k)) _ Kk 2 43 _ hl9.drew.bs.fr hl9.drew.bs.z hk9 hnew (Nat.le_refl _) hNl hRl hKl (by decide)).mono ?_; rintro r wA ⟨rfl, hA⟩; obtain ⟨rvA, svA, hlA⟩ := hl9.drew.added hA; have yA : wA.cell? ⟨fb, 6, none⟩ = some (.slice (some ⟨kn, 0, none⟩) n n) := hlA.bs.fr.cell (i := 6) (by decide); have pA := hlA.nn.cell hlt; have qA := hlA.nn.frozen k))
        have hlB := hlA.setN nnh (Nat.le_of_lt ln) k (.int .i64 ((toN W (L1 (fo T) ns k)).length : Int))
        go_wp2
        go_roundw
        case rel => exact ⟨k + 1, by omega, by go_num, LP1.step hlB HF.out.1 HF.out.2 (by rw [toN_length, L1_length]; omega) (by rw [HKk.out, ← HF.out.1]; unfold tsC; rw [Hns.out]; rfl)⟩
        case measure => simp [intOf]; omega
    · obtain rfl : k = n := by omega
      clear hlt hk
      have u8 := hl.bs.fr.frozen 8
      have v8 : wr.cell? ⟨fb, 8, none⟩ = some (.int .i64 0) := hl.bs.fr.cell (i := 8) (by decide)
      have hm := hl.setS (-1)
      cases star
      · have hs2 := LP2.start0 hm
        clear hm hl
        go_wp2
        go_loopw [15] (fun i wx => ∃ j : Nat, j ≤ k ∧ i = .int .i64 (j : Int) ∧ LP2 w fb mb (.slice va W.length vc) W kc kg kn kh k T G ns false j wx) (fun i _ => k - (intOf i).toNat)
        case atStart => exact ⟨0, Nat.zero_le _, rfl, hs2⟩
        case round =>
          clear hs2
          obtain ⟨j, hj, rfl, rv2, sv2, hl2⟩ := hrel
          by_cases hlt : j < k
          · have hlt' : (j : Int) < (k : Int) := by omega
            have gd := HG.out j hlt
            obtain ⟨g3, f3, hx3, hg3, hq3⟩ := things HT.out.2.2 hlt
            subst hx3
            rw [hfc] at hg3
            have HC3 : Hid (w.cell? ⟨g3, f3 + j, none⟩ = some (.string (G j))) := (hwc.cell (p := ⟨g3, f3 + j, none⟩) hg3).trans (hq3 j hlt)
            have x7 : wr.cell? ⟨fb, 7, none⟩ = some (.slice (some ⟨kh, 0, none⟩) k k) := hl2.bs.fr.cell (i := 7) (by decide)
            have p7 := hl2.hh.cell hlt
            have q7 := hl2.hh.frozen j
            have t3 := (hl2.bs.bl.cell (p := ⟨g3, f3 + j, none⟩) hg3).trans HC3.out
            have a1 : ¬ g3 = kh := by omega
            have a2 : ¬ kh = g3 := by omega
            have a3 : ¬ fb = kh := by omega
            have a4 : ¬ kh = fb := by omega
            have hl3 := hl2.setH nnh (Nat.le_of_lt lh) j (.int .i64 (-1))
            clear hq3
            by_cases hE : (G j).size = 0
            · have hem : (G j).toList = [] := by
                rw [ByteArray.toList_eq]
                exact List.eq_nil_of_length_eq_zero (by simpa using hE)
              have HE : Hid (fo G j = []) := by
                show fo G j = []
                unfold fo
                rw [← ByteArray.toList_eq, hem]
                rfl
              clear hl2
              go_wp2
              go_roundw
              case rel => exact ⟨j + 1, by omega, by go_num, LP2.none hl3 HE.out⟩
              case measure => simp [intOf]; omega
            · have hem : (G j).toList.isEmpty = false := by
                rw [ByteArray.toList_eq]
                cases hd : (G j).data.toList with
                | nil =>
                  have := congrArg List.length hd
                  rw [List.length_nil] at this
                  exact absurd (by simpa using this) hE
                | cons _ _ => rfl
              have hem2 : ¬ (G j).toList = [] := fun e => by rw [e] at hem; cases hem
              obtain ⟨Gk, hGk⟩ : ∃ Gk, Gk = fo G j := ⟨_, rfl⟩
              obtain ⟨Fk, hFk⟩ : ∃ Fk, Fk = fo T j := ⟨_, rfl⟩
              have hGl : Gk.length = (G j).size := by rw [hGk, fo, fold_length]; simp
              have hFl : Fk.length = (T j).size := by rw [hFk, fo, fold_length]; simp
              have gs : (⟨Gk.toArray⟩ : ByteArray).size = Gk.length := by simp [ByteArray.size]
              have fs : (⟨Fk.toArray⟩ : ByteArray).size = Fk.length := by simp [ByteArray.size]
              obtain ⟨w5, hw5⟩ : ∃ w5, w5 = wr.setCell ⟨kh, j, none⟩ (.int .i64 (-1)) := ⟨_, rfl⟩
              rw [← hw5] at hl3
              have y5 : w5.cell? ⟨fb, 5, none⟩ = some (.slice (some ⟨kg, 0, none⟩) k k) := hl3.bs.fr.cell (i := 5) (by decide)
              have y4 : w5.cell? ⟨fb, 4, none⟩ = some (.slice (some ⟨kc, 0, none⟩) k k) := hl3.bs.fr.cell (i := 4) (by decide)
              have z5 : w5.cell? ⟨kg, j, none⟩ = some (.string ⟨Gk.toArray⟩) := by rw [hGk]; exact hl3.g.cell hlt
              have t5 := (hl3.bs.bl.cell (p := ⟨g3, f3 + j, none⟩) hg3).trans HC3.out
              have hlab := label_any (.slice none 0 0) [] ⟨Gk.toArray⟩ w5.heap.size w5 (World.ownsRow_nil _ _ _ _) (Nat.le_refl _) (by simp) (by omega) (by have := gd.g1; omega)
              rw [List.nil_append] at hlab
              obtain ⟨P8, hP8⟩ : ∃ P8, P8 = lab Gk := ⟨_, rfl⟩
              have hP8' : lab (⟨Gk.toArray⟩ : ByteArray).data.toList = P8 := by rw [hP8]
              rw [hP8'] at hlab
              have hP8l : P8.length ≤ 21 := by rw [hP8]; simp [lab]; have := gd.g1; omega
              have HLAB : Hid (Calls Try.prog 47 #[.slice none 0 0, .string ⟨Gk.toArray⟩] w5 fun e w' => ∃ v', e = .returned v' ∧ w'.ownsRow w5.heap.size 5 1 v' P8.length (bc P8) ∧ Below w5.heap.size w5 w') := hlab
              have HP8 : Hid (P8 = lab Gk ∧ Gk = fo G j ∧ Fk = fo T j ∧ Gk.length = (G j).size ∧ Fk.length = (T j).size) := ⟨hP8, hGk, hFk, hGl, hFl⟩
              have HE : Hid (¬ (G j).size = 0) := hE
              clear hlab hP8 hP8' hl2 hGk hFk hGl hFl hE gs
              go_upto_region 27 with fail
              rw [← hw5]
              clear hw5 x7 p7 q7 t3 a1 a2
              go_wp2_with fail
              refine HLAB.out.mono ?_
              rintro e w6 ⟨v6, rfl, ho6, hb6⟩
              have hl6 := hl3.below hb6
              have y6 : w6.cell? ⟨fb, 4, none⟩ = some (.slice (some ⟨kc, 0, none⟩) k k) := hl6.bs.fr.cell (i := 4) (by decide)
              have z6 : w6.cell? ⟨kc, j, none⟩ = some (.string ⟨Fk.toArray⟩) := by rw [HP8.out.2.2.1]; exact hl6.c.cell hlt
              have hlab2 := label_any v6 P8 ⟨Fk.toArray⟩ w5.heap.size w6 ho6 hb6.size (by omega) (by have := gd.t0; have := HP8.out.2.2.2.2; omega) (by have := gd.t1; have := HP8.out.2.2.2.2; omega)
              obtain ⟨Q8, hQ8⟩ : ∃ Q8, Q8 = P8 ++ lab Fk := ⟨_, rfl⟩
              have hQ8' : P8 ++ lab (⟨Fk.toArray⟩ : ByteArray).data.toList = Q8 := by rw [hQ8]
              rw [hQ8'] at hlab2
              have hQ8l : Q8.length ≤ 42 := by rw [hQ8, List.length_append]; simp [lab]; have := gd.t1; have := HP8.out.2.2.2.2; omega
              have HLAB2 : Hid (Calls Try.prog 47 #[v6, .string ⟨Fk.toArray⟩] w6 fun e w' => ∃ v', e = .returned v' ∧ w'.ownsRow w5.heap.size 5 1 v' Q8.length (bc Q8) ∧ Below w5.heap.size w6 w') := hlab2
              have HQ8 : Hid (Q8 = P8 ++ lab Fk) := hQ8
              clear hlab2 hQ8 hQ8' y5 y4 z5 t5
              go_wp2_with fail
              refine HLAB2.out.mono ?_
              rintro e w8 ⟨v8', rfl, ho8, hb8⟩
              have hb58 : Below w5.heap.size w5 w8 := hb6.trans hb8
              have hl8 := hl3.below hb58
              have x8 : w8.cell? ⟨fb, 0, none⟩ = some (.slice va W.length vc) := hl8.bs.fr.cell (i := 0) (by decide)
              have hso := src_owned hl8.bs.oo
              have hWp : 0 < W.length := HWp.out
              have hPW : Q8.length + W.length ≤ 140737488355328 := by omega
              have hs8 := hb58.size
              clear y6 z6 hl6 ho6
              go_wp2_with (at_builtin; refine append_bytes _ rfl (.tmp 176) (.tmp 180) 29 rfl w5.heap.size v8' Q8 rfl ho8 _ W rfl hso hWp hPW hs8 ?_)
              intro v9 w9 Kk HK hk9' hg9 hb9
              have hl9 := hl3.below (hb58.trans hb9)
              have hk9 : w9.drew.ownsRow fb 5 1 v9 Kk.length (bc Kk) := ownsRow_mono hk9' (Nat.le_of_lt hl3.bs.fr.lt)
              have HKk : Hid (Kk = nm [Gk, Fk] W) := by
                show Kk = _
                rw [HK.out, HQ8.out, HP8.out.1]
                simp [nm]
              have hnew : Kk ∉ keys (toN W (L2 (fo T) (fo G) ns false k j)) := by
                rw [HKk.out, HP8.out.2.1, HP8.out.2.2.1]
                exact new_grand hlt (fun i hi => by rw [fo, fold_length]; simp; have := (HG.out i hi).t1; omega) (fun i hi => by rw [fo, fold_length]; simp; have := (HG.out i hi).g1; omega) (fun i m him hm => (HG.out m hm).ap i him)
              have hL2l := L2_length (C := fo T) (G := fo G) (ns := ns) (star := false) k j
              have hNl : (toN W (L2 (fo T) (fo G) ns false k j)).length ≤ 100 := by rw [toN_length]; omega
              have hRl : (rs (toN W (L2 (fo T) (fo G) ns false k j))).length ≤ 200 := Nat.le_trans (rs_le _ (L2_two W k j)) (by rw [toN_length]; omega)
              have hKl : Kk.length ≤ 100 := by rw [HK.out, List.length_append]; omega
              have x9 : w9.cell? ⟨fb, 7, none⟩ = some (.slice (some ⟨kh, 0, none⟩) k k) := hl9.bs.fr.cell (i := 7) (by decide)
              obtain ⟨va9, vc9, rfl⟩ := own_shape hk9
              clear hl8 ho8 hb8 hg9 hb9 hk9' x8 hso hPW hs8 hP8l hQ8l hl3 hb58 hb6
              go_wp2
              go_region_held3 (fun w' => w'.cell? ⟨fb, 7, none⟩ = some (.slice (some ⟨kh, 0, none⟩) k k)) (simp [go_sem, *])
                (first | (go_at_call 46; refine (add_any fb mb fb fb _ _ _ _ _ _ _ _ (toN W (L2 (fo T) (fo G) ns false k j)) _ Kk 1 0 _ hl9.drew.bs.fr hl9.drew.bs.z hk9 hnew (Nat.le_refl _) hNl hRl hKl (by decide)).mono ?_; rintro r wA ⟨rfl, hA⟩; obtain ⟨rvA, svA, hlA⟩ := hl9.drew.added hA; have yA : wA.cell? ⟨fb, 7, none⟩ = some (.slice (some ⟨kh, 0, none⟩) k k) := hlA.bs.fr.cell (i := 7) (by decide); have pA := hlA.hh.cell hlt; have qA := hlA.hh.frozen j))
              have hlB := hlA.setH nnh (Nat.le_of_lt lh) j (.int .i64 ((toN W (L2 (fo T) (fo G) ns false k j)).length : Int))
              go_wp2
              go_roundw
              case rel => exact ⟨j + 1, by omega, by go_num, LP2.some hlB (by rw [← HP8.out.2.1]; intro e0; have h0 := HP8.out.2.2.2.1; rw [e0] at h0; exact HE.out h0.symm) (by rw [toN_length]) (by rw [HKk.out, HP8.out.2.1, HP8.out.2.2.1]; rfl)⟩
              case measure => simp [intOf]; omega
          · obtain rfl : j = k := by omega
            have hfin : BuildPost w fb j (wire (fold o.data.toList)) T G ns false wr := by
              rw [← HO.out, ← HW.out]
              exact ⟨mb, _, kc, kg, kn, kh, rv2, sv2, hl2⟩
            go_wp2
            go_end0
            exact ⟨rfl, hfin⟩
      · obtain ⟨w5, hw5⟩ : ∃ w5, w5 = wr.setCell ⟨fb, 8, none⟩ (.int .i64 (-1)) := ⟨_, rfl⟩
        rw [← hw5] at hm
        have hlab := label_any (.slice none 0 0) [] ⟨#[42]⟩ w5.heap.size w5 (World.ownsRow_nil _ _ _ _) (Nat.le_refl _) (by simp) (by decide) (by decide)
        rw [List.nil_append] at hlab
        have hl42 : lab (⟨#[42]⟩ : ByteArray).data.toList = [1, 42] := rfl
        rw [hl42] at hlab
        have HLAB : Hid (Calls Try.prog 47 #[.slice none 0 0, .string ⟨#[42]⟩] w5 fun e w' => ∃ v', e = .returned v' ∧ w'.ownsRow w5.heap.size 5 1 v' [(1 : UInt8), 42].length (bc [1, 42]) ∧ Below w5.heap.size w5 w') := hlab
        clear hlab hl42
        go_wp2_with fail
        rw [← hw5]
        clear hw5
        refine HLAB.out.mono ?_
        rintro e w8 ⟨v8', rfl, ho8, hb8⟩
        have hl8 := hm.below hb8
        have x8 : w8.cell? ⟨fb, 0, none⟩ = some (.slice va W.length vc) := hl8.bs.fr.cell (i := 0) (by decide)
        have hso := src_owned hl8.bs.oo
        have hWp : 0 < W.length := HWp.out
        have hPW : [(1 : UInt8), 42].length + W.length ≤ 140737488355328 := by simp; omega
        have hs8 := hb8.size
        go_wp2_with (at_builtin; refine append_bytes _ rfl (.tmp 130) (.tmp 134) 29 rfl w5.heap.size v8' [1, 42] rfl ho8 _ W rfl hso hWp hPW hs8 ?_)
        intro v9 w9 Kk HK hk9' hg9 hb9
        have hl9 := hm.below (hb8.trans hb9)
        have hk9 : w9.ownsRow fb 5 1 v9 Kk.length (bc Kk) := ownsRow_mono hk9' (Nat.le_of_lt hm.bs.fr.lt)
        have HKk : Hid (Kk = nm [[42]] W) := by
          show Kk = _
          rw [HK.out]
          simp [nm, lab]
        have hnew : Kk ∉ keys (toN W (L1 (fo T) ns k)) := by
          rw [HKk.out]
          exact new_star (fun i hi => by rw [fo, fold_length]; simp; have := (HG.out i hi).t1; omega) (fun i hi => (HG.out i hi).ns)
        have hNl : (toN W (L1 (fo T) ns k)).length ≤ 100 := by rw [toN_length, L1_length]; omega
        have hRl : (rs (toN W (L1 (fo T) ns k))).length ≤ 200 := Nat.le_trans (rs_le _ (L1_two W k)) (by rw [toN_length, L1_length]; omega)
        have hKl : Kk.length ≤ 100 := by rw [HK.out]; simp; omega
        obtain ⟨va9, vc9, rfl⟩ := own_shape hk9
        clear hl8 ho8 hb8 hg9 hb9 hk9' x8 hso hPW hs8 hm hl u8 v8
        go_wp2_with fail
        refine (add_any fb mb fb fb _ _ _ _ _ _ _ _ (toN W (L1 (fo T) ns k)) _ Kk 1 0 _ hl9.bs.fr hl9.bs.z hk9 hnew (Nat.le_refl _) hNl hRl hKl (by decide)).mono ?_
        rintro r wA ⟨rfl, hA⟩
        obtain ⟨rvA, svA, hlA⟩ := hl9.added hA
        have u8 := hlA.bs.fr.frozen 8
        have v8 : wA.cell? ⟨fb, 8, none⟩ = some (.int .i64 (-1)) := hlA.bs.fr.cell (i := 8) (by decide)
        have hlB := hlA.setS ((toN W (L1 (fo T) ns k)).length : Int)
        have hs2 := LP2.start1 (G := G) hlB (by rw [toN_length, L1_length]; omega) (by rw [HKk.out]; rfl)
        clear hlB hlA hA hl9 hk9 hnew hNl hRl hKl
        go_wp2
        go_loopw [15] (fun i wx => ∃ j : Nat, j ≤ k ∧ i = .int .i64 (j : Int) ∧ LP2 w fb mb (.slice va W.length vc) W kc kg kn kh k T G ns true j wx) (fun i _ => k - (intOf i).toNat)
        case atStart => exact ⟨0, Nat.zero_le _, rfl, hs2⟩
        case round =>
          clear hs2
          obtain ⟨j, hj, rfl, rv2, sv2, hl2⟩ := hrel
          by_cases hlt : j < k
          · have hlt' : (j : Int) < (k : Int) := by omega
            have gd := HG.out j hlt
            obtain ⟨g3, f3, hx3, hg3, hq3⟩ := things HT.out.2.2 hlt
            subst hx3
            rw [hfc] at hg3
            have HC3 : Hid (w.cell? ⟨g3, f3 + j, none⟩ = some (.string (G j))) := (hwc.cell (p := ⟨g3, f3 + j, none⟩) hg3).trans (hq3 j hlt)
            have x7 : wr.cell? ⟨fb, 7, none⟩ = some (.slice (some ⟨kh, 0, none⟩) k k) := hl2.bs.fr.cell (i := 7) (by decide)
            have p7 := hl2.hh.cell hlt
            have q7 := hl2.hh.frozen j
            have t3 := (hl2.bs.bl.cell (p := ⟨g3, f3 + j, none⟩) hg3).trans HC3.out
            have a1 : ¬ g3 = kh := by omega
            have a2 : ¬ kh = g3 := by omega
            have a3 : ¬ fb = kh := by omega
            have a4 : ¬ kh = fb := by omega
            have hl3 := hl2.setH nnh (Nat.le_of_lt lh) j (.int .i64 (-1))
            clear hq3
            by_cases hE : (G j).size = 0
            · have hem : (G j).toList = [] := by
                rw [ByteArray.toList_eq]
                exact List.eq_nil_of_length_eq_zero (by simpa using hE)
              have HE : Hid (fo G j = []) := by
                show fo G j = []
                unfold fo
                rw [← ByteArray.toList_eq, hem]
                rfl
              clear hl2
              go_wp2
              go_roundw
              case rel => exact ⟨j + 1, by omega, by go_num, LP2.none hl3 HE.out⟩
              case measure => simp [intOf]; omega
            · have hem : (G j).toList.isEmpty = false := by
                rw [ByteArray.toList_eq]
                cases hd : (G j).data.toList with
                | nil =>
                  have := congrArg List.length hd
                  rw [List.length_nil] at this
                  exact absurd (by simpa using this) hE
                | cons _ _ => rfl
              have hem2 : ¬ (G j).toList = [] := fun e => by rw [e] at hem; cases hem
              obtain ⟨Gk, hGk⟩ : ∃ Gk, Gk = fo G j := ⟨_, rfl⟩
              obtain ⟨Fk, hFk⟩ : ∃ Fk, Fk = fo T j := ⟨_, rfl⟩
              have hGl : Gk.length = (G j).size := by rw [hGk, fo, fold_length]; simp
              have hFl : Fk.length = (T j).size := by rw [hFk, fo, fold_length]; simp
              have gs : (⟨Gk.toArray⟩ : ByteArray).size = Gk.length := by simp [ByteArray.size]
              have fs : (⟨Fk.toArray⟩ : ByteArray).size = Fk.length := by simp [ByteArray.size]
              obtain ⟨w5, hw5⟩ : ∃ w5, w5 = wr.setCell ⟨kh, j, none⟩ (.int .i64 (-1)) := ⟨_, rfl⟩
              rw [← hw5] at hl3
              have y5 : w5.cell? ⟨fb, 5, none⟩ = some (.slice (some ⟨kg, 0, none⟩) k k) := hl3.bs.fr.cell (i := 5) (by decide)
              have y4 : w5.cell? ⟨fb, 4, none⟩ = some (.slice (some ⟨kc, 0, none⟩) k k) := hl3.bs.fr.cell (i := 4) (by decide)
              have z5 : w5.cell? ⟨kg, j, none⟩ = some (.string ⟨Gk.toArray⟩) := by rw [hGk]; exact hl3.g.cell hlt
              have t5 := (hl3.bs.bl.cell (p := ⟨g3, f3 + j, none⟩) hg3).trans HC3.out
              have hlab := label_any (.slice none 0 0) [] ⟨Gk.toArray⟩ w5.heap.size w5 (World.ownsRow_nil _ _ _ _) (Nat.le_refl _) (by simp) (by omega) (by have := gd.g1; omega)
              rw [List.nil_append] at hlab
              obtain ⟨P8, hP8⟩ : ∃ P8, P8 = lab Gk := ⟨_, rfl⟩
              have hP8' : lab (⟨Gk.toArray⟩ : ByteArray).data.toList = P8 := by rw [hP8]
              rw [hP8'] at hlab
              have hP8l : P8.length ≤ 21 := by rw [hP8]; simp [lab]; have := gd.g1; omega
              have HLAB : Hid (Calls Try.prog 47 #[.slice none 0 0, .string ⟨Gk.toArray⟩] w5 fun e w' => ∃ v', e = .returned v' ∧ w'.ownsRow w5.heap.size 5 1 v' P8.length (bc P8) ∧ Below w5.heap.size w5 w') := hlab
              have HP8 : Hid (P8 = lab Gk ∧ Gk = fo G j ∧ Fk = fo T j ∧ Gk.length = (G j).size ∧ Fk.length = (T j).size) := ⟨hP8, hGk, hFk, hGl, hFl⟩
              have HE : Hid (¬ (G j).size = 0) := hE
              clear hlab hP8 hP8' hl2 hGk hFk hGl hFl hE gs
              go_upto_region 27 with fail
              rw [← hw5]
              clear hw5 x7 p7 q7 t3 a1 a2
              go_wp2_with fail
              refine HLAB.out.mono ?_
              rintro e w6 ⟨v6, rfl, ho6, hb6⟩
              have hl6 := hl3.below hb6
              have y6 : w6.cell? ⟨fb, 4, none⟩ = some (.slice (some ⟨kc, 0, none⟩) k k) := hl6.bs.fr.cell (i := 4) (by decide)
              have z6 : w6.cell? ⟨kc, j, none⟩ = some (.string ⟨Fk.toArray⟩) := by rw [HP8.out.2.2.1]; exact hl6.c.cell hlt
              have hlab2 := label_any v6 P8 ⟨Fk.toArray⟩ w5.heap.size w6 ho6 hb6.size (by omega) (by have := gd.t0; have := HP8.out.2.2.2.2; omega) (by have := gd.t1; have := HP8.out.2.2.2.2; omega)
              obtain ⟨Q8, hQ8⟩ : ∃ Q8, Q8 = P8 ++ lab Fk := ⟨_, rfl⟩
              have hQ8' : P8 ++ lab (⟨Fk.toArray⟩ : ByteArray).data.toList = Q8 := by rw [hQ8]
              rw [hQ8'] at hlab2
              have hQ8l : Q8.length ≤ 42 := by rw [hQ8, List.length_append]; simp [lab]; have := gd.t1; have := HP8.out.2.2.2.2; omega
              have HLAB2 : Hid (Calls Try.prog 47 #[v6, .string ⟨Fk.toArray⟩] w6 fun e w' => ∃ v', e = .returned v' ∧ w'.ownsRow w5.heap.size 5 1 v' Q8.length (bc Q8) ∧ Below w5.heap.size w6 w') := hlab2
              have HQ8 : Hid (Q8 = P8 ++ lab Fk) := hQ8
              clear hlab2 hQ8 hQ8' y5 y4 z5 t5
              go_wp2_with fail
              refine HLAB2.out.mono ?_
              rintro e w8 ⟨v8', rfl, ho8, hb8⟩
              have hb58 : Below w5.heap.size w5 w8 := hb6.trans hb8
              have hl8 := hl3.below hb58
              have x8 : w8.cell? ⟨fb, 0, none⟩ = some (.slice va W.length vc) := hl8.bs.fr.cell (i := 0) (by decide)
              have hso := src_owned hl8.bs.oo
              have hWp : 0 < W.length := HWp.out
              have hPW : Q8.length + W.length ≤ 140737488355328 := by omega
              have hs8 := hb58.size
              clear y6 z6 hl6 ho6
              go_wp2_with (at_builtin; refine append_bytes _ rfl (.tmp 176) (.tmp 180) 29 rfl w5.heap.size v8' Q8 rfl ho8 _ W rfl hso hWp hPW hs8 ?_)
              intro v9 w9 Kk HK hk9' hg9 hb9
              have hl9 := hl3.below (hb58.trans hb9)
              have hk9 : w9.drew.ownsRow fb 5 1 v9 Kk.length (bc Kk) := ownsRow_mono hk9' (Nat.le_of_lt hl3.bs.fr.lt)
              have HKk : Hid (Kk = nm [Gk, Fk] W) := by
                show Kk = _
                rw [HK.out, HQ8.out, HP8.out.1]
                simp [nm]
              have hnew : Kk ∉ keys (toN W (L2 (fo T) (fo G) ns true k j)) := by
                rw [HKk.out, HP8.out.2.1, HP8.out.2.2.1]
                exact new_grand hlt (fun i hi => by rw [fo, fold_length]; simp; have := (HG.out i hi).t1; omega) (fun i hi => by rw [fo, fold_length]; simp; have := (HG.out i hi).g1; omega) (fun i m him hm => (HG.out m hm).ap i him)
              have hL2l := L2_length (C := fo T) (G := fo G) (ns := ns) (star := true) k j
              have hNl : (toN W (L2 (fo T) (fo G) ns true k j)).length ≤ 100 := by rw [toN_length]; omega
              have hRl : (rs (toN W (L2 (fo T) (fo G) ns true k j))).length ≤ 200 := Nat.le_trans (rs_le _ (L2_two W k j)) (by rw [toN_length]; omega)
              have hKl : Kk.length ≤ 100 := by rw [HK.out, List.length_append]; omega
              have x9 : w9.cell? ⟨fb, 7, none⟩ = some (.slice (some ⟨kh, 0, none⟩) k k) := hl9.bs.fr.cell (i := 7) (by decide)
              obtain ⟨va9, vc9, rfl⟩ := own_shape hk9
              clear hl8 ho8 hb8 hg9 hb9 hk9' x8 hso hPW hs8 hP8l hQ8l hl3 hb58 hb6
              go_wp2
              go_region_held3 (fun w' => w'.cell? ⟨fb, 7, none⟩ = some (.slice (some ⟨kh, 0, none⟩) k k)) (simp [go_sem, *])
                (first | (go_at_call 46; refine (add_any fb mb fb fb _ _ _ _ _ _ _ _ (toN W (L2 (fo T) (fo G) ns true k j)) _ Kk 1 0 _ hl9.drew.bs.fr hl9.drew.bs.z hk9 hnew (Nat.le_refl _) hNl hRl hKl (by decide)).mono ?_; rintro r wA ⟨rfl, hA⟩; obtain ⟨rvA, svA, hlA⟩ := hl9.drew.added hA; have yA : wA.cell? ⟨fb, 7, none⟩ = some (.slice (some ⟨kh, 0, none⟩) k k) := hlA.bs.fr.cell (i := 7) (by decide); have pA := hlA.hh.cell hlt; have qA := hlA.hh.frozen j))
              have hlB := hlA.setH nnh (Nat.le_of_lt lh) j (.int .i64 ((toN W (L2 (fo T) (fo G) ns true k j)).length : Int))
              go_wp2
              go_roundw
              case rel => exact ⟨j + 1, by omega, by go_num, LP2.some hlB (by rw [← HP8.out.2.1]; intro e0; have h0 := HP8.out.2.2.2.1; rw [e0] at h0; exact HE.out h0.symm) (by rw [toN_length]) (by rw [HKk.out, HP8.out.2.1, HP8.out.2.2.1]; rfl)⟩
              case measure => simp [intOf]; omega
          · obtain rfl : j = k := by omega
            have hfin : BuildPost w fb j (wire (fold o.data.toList)) T G ns true wr := by
              rw [← HO.out, ← HW.out]
              exact ⟨mb, _, kc, kg, kn, kh, rv2, sv2, hl2⟩
            go_wp2
            go_end0
            exact ⟨rfl, hfin⟩
end Go.Proofs.Qxb6003450a
