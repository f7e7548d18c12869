import Derived.Lib.ItoaNum
namespace Go.Proofs.Qxb6603811aDoor
open Go.Lib (decDigits itoa)

/-! ### The tile's name, as a list of bytes: no Go in sight -/
def d3 (g : Nat) : List UInt8 := [UInt8.ofNat (48 + g / 100), UInt8.ofNat (48 + g / 10 % 10), UInt8.ofNat (48 + g % 10)]
/-- the groups of three digits, the last first -/
def grp : Nat → Nat → List Nat
  | 0, _ => []
  | f + 1, n => n % 1000 :: (if n / 1000 = 0 then [] else grp f (n / 1000))
def nmX : List Nat → List UInt8
  | [] => []
  | g :: r => nmX r ++ (47 :: 120 :: d3 g)
def nm : List Nat → List UInt8
  | [] => []
  | g :: r => nmX r ++ (47 :: d3 g)
def part (width : Int) : List UInt8 := if width < 256 then 46 :: 112 :: 47 :: itoa width else []
def tile (idx : Nat) (width : Int) : List UInt8 := nm (grp 7 idx) ++ part width

/-! ### It is read back -/
def step (acc : Nat) (b : UInt8) : Nat := if b = 47 ∨ b = 120 then acc else acc * 10 + (b.toNat - 48)
def val : List Nat → Nat
  | [] => 0
  | g :: r => g + 1000 * val r

theorem toNat_ofNat (n : Nat) (h : n < 256) : (UInt8.ofNat n).toNat = n := by simp [UInt8.toNat_ofNat']; omega

theorem digit_ne (k n : Nat) (hn : n < 10) (hk : k < 48 ∨ (58 ≤ k ∧ k < 256)) : UInt8.ofNat (48 + n) ≠ UInt8.ofNat k := by
  intro h
  have := congrArg UInt8.toNat h
  rw [toNat_ofNat _ (by omega), toNat_ofNat _ (by omega)] at this
  omega

theorem step_digit (acc n : Nat) (hn : n < 10) : step acc (UInt8.ofNat (48 + n)) = acc * 10 + n := by
  unfold step
  have h1 := digit_ne 47 n hn (by omega)
  have h2 := digit_ne 120 n hn (by omega)
  rw [if_neg (by intro h; rcases h with h | h; exact h1 h; exact h2 h), toNat_ofNat _ (by omega)]
  omega

theorem fold_d3 (acc g : Nat) (hg : g < 1000) : (d3 g).foldl step acc = acc * 1000 + g := by
  simp only [d3, List.foldl_cons, List.foldl_nil]
  rw [step_digit _ _ (by omega), step_digit _ _ (by omega), step_digit _ _ (by omega)]
  omega

theorem fold_nmX (gs : List Nat) (h : ∀ g ∈ gs, g < 1000) : (nmX gs).foldl step 0 = val gs := by
  induction gs with
  | nil => rfl
  | cons g r ih =>
    have hs1 : ∀ a, step a 47 = a := fun a => by simp [step]
    have hs2 : ∀ a, step a 120 = a := fun a => by simp [step]
    simp only [nmX, List.foldl_append, List.foldl_cons, hs1, hs2]
    rw [ih (fun x hx => h x (List.mem_cons_of_mem _ hx)), fold_d3 _ _ (h g (List.mem_cons_self ..)), val]
    omega

theorem fold_nm (gs : List Nat) (h : ∀ g ∈ gs, g < 1000) : (nm gs).foldl step 0 = val gs := by
  cases gs with
  | nil => rfl
  | cons g r =>
    have hs1 : ∀ a, step a 47 = a := fun a => by simp [step]
    simp only [nm, List.foldl_append, List.foldl_cons, hs1]
    rw [fold_nmX r (fun x hx => h x (List.mem_cons_of_mem _ hx)), fold_d3 _ _ (h g (List.mem_cons_self ..)), val]
    omega

theorem grp_lt (f : Nat) : ∀ n, ∀ g ∈ grp f n, g < 1000 := by
  induction f with
  | zero => intro n g h; simp [grp] at h
  | succ f ih =>
    intro n g h
    simp only [grp, List.mem_cons] at h
    rcases h with rfl | h
    · omega
    · split at h
      · simp at h
      · exact ih _ _ h

theorem val_grp (f : Nat) : ∀ n, n < 1000 ^ f → val (grp f n) = n := by
  induction f with
  | zero => intro n h; simp at h; simp [grp, val, h]
  | succ f ih =>
    intro n h
    simp only [grp]
    by_cases h0 : n / 1000 = 0
    · rw [if_pos h0]; simp [val]; omega
    · rw [if_neg h0, val, ih (n / 1000) (by rw [Nat.pow_succ] at h; omega)]
      omega

theorem nm_inj (n m : Nat) (hn : n < 1000 ^ 7) (hm : m < 1000 ^ 7) (h : nm (grp 7 n) = nm (grp 7 m)) : n = m := by
  have := congrArg (List.foldl step 0) h
  rwa [fold_nm _ (grp_lt _ _), fold_nm _ (grp_lt _ _), val_grp _ _ hn, val_grp _ _ hm] at this

theorem d3_ne46 (g : Nat) (hg : g < 1000) : ∀ b ∈ d3 g, b ≠ 46 := by
  intro b hb
  simp only [d3, List.mem_cons, List.not_mem_nil, or_false] at hb
  rcases hb with rfl | rfl | rfl
  · exact digit_ne 46 _ (by omega) (by omega)
  · exact digit_ne 46 _ (by omega) (by omega)
  · exact digit_ne 46 _ (by omega) (by omega)

theorem nmX_ne46 (gs : List Nat) (h : ∀ g ∈ gs, g < 1000) : ∀ b ∈ nmX gs, b ≠ 46 := by
  induction gs with
  | nil => intro b hb; simp [nmX] at hb
  | cons g r ih =>
    intro b hb
    simp only [nmX, List.mem_append, List.mem_cons] at hb
    rcases hb with hb | rfl | rfl | hb
    · exact ih (fun x hx => h x (List.mem_cons_of_mem _ hx)) b hb
    · decide
    · decide
    · exact d3_ne46 g (h g (List.mem_cons_self ..)) b hb

theorem nm_ne46 (gs : List Nat) (h : ∀ g ∈ gs, g < 1000) : ∀ b ∈ nm gs, b ≠ 46 := by
  cases gs with
  | nil => intro b hb; simp [nm] at hb
  | cons g r =>
    intro b hb
    simp only [nm, List.mem_append, List.mem_cons] at hb
    rcases hb with hb | rfl | hb
    · exact nmX_ne46 r (fun x hx => h x (List.mem_cons_of_mem _ hx)) b hb
    · decide
    · exact d3_ne46 g (h g (List.mem_cons_self ..)) b hb

theorem take_part (a : List UInt8) (h : ∀ b ∈ a, b ≠ 46) (width : Int) : (a ++ part width).takeWhile (fun b => b != 46) = a := by
  induction a with
  | nil => unfold part; split <;> simp
  | cons x r ih =>
    have hx : x ≠ 46 := h x (List.mem_cons_self ..)
    simp [hx, ih (fun b hb => h b (List.mem_cons_of_mem _ hb))]

def dstep (acc : Nat) (b : UInt8) : Nat := acc * 10 + (b.toNat - 48)
theorem fold_dec (u : Nat) : (decDigits u).foldl dstep 0 = u := by
  induction u using Nat.strongRecOn with
  | _ u ih =>
    rw [decDigits]
    by_cases h : u < 10
    · rw [dif_pos h]
      simp only [List.foldl_cons, List.foldl_nil, dstep]
      rw [toNat_ofNat _ (by omega)]; omega
    · rw [dif_neg h, List.foldl_append, ih (u / 10) (by omega)]
      simp only [List.foldl_cons, List.foldl_nil, dstep]
      rw [toNat_ofNat _ (by omega)]; omega

theorem dec_ne45 (u : Nat) : ∀ b ∈ decDigits u, b ≠ 45 := by
  induction u using Nat.strongRecOn with
  | _ u ih =>
    rw [decDigits]
    by_cases h : u < 10
    · rw [dif_pos h]
      intro b hb
      simp only [List.mem_cons, List.not_mem_nil, or_false] at hb
      subst hb
      exact digit_ne 45 u h (by omega)
    · rw [dif_neg h]
      intro b hb
      simp only [List.mem_append, List.mem_cons, List.not_mem_nil, or_false] at hb
      rcases hb with hb | rfl
      · exact ih (u / 10) (by omega) b hb
      · exact digit_ne 45 (u % 10) (by omega) (by omega)

theorem itoa_inj (a b : Int) (h : itoa a = itoa b) : a = b := by
  unfold itoa at h
  by_cases ha : a < 0 <;> by_cases hb : b < 0
  · rw [if_pos ha, if_pos hb] at h
    have := congrArg (List.foldl dstep 0) (List.cons.inj h).2
    rw [fold_dec, fold_dec] at this
    omega
  · rw [if_pos ha, if_neg hb] at h
    exact absurd rfl (dec_ne45 b.toNat 45 (by rw [← h]; exact List.mem_cons_self ..))
  · rw [if_neg ha, if_pos hb] at h
    exact absurd rfl (dec_ne45 a.toNat 45 (by rw [h]; exact List.mem_cons_self ..))
  · rw [if_neg ha, if_neg hb] at h
    have := congrArg (List.foldl dstep 0) h
    rw [fold_dec, fold_dec] at this
    omega

theorem tile_inj (i1 i2 : Nat) (w1 w2 : Int) (h1 : i1 < 1000 ^ 7) (h2 : i2 < 1000 ^ 7) :
    tile i1 w1 = tile i2 w2 ↔ i1 = i2 ∧ (w1 = w2 ∨ (256 ≤ w1 ∧ 256 ≤ w2)) := by
  constructor
  · intro h
    have hn : nm (grp 7 i1) = nm (grp 7 i2) := by
      have := congrArg (List.takeWhile (fun b => b != 46)) h
      unfold tile at this
      rwa [take_part _ (nm_ne46 _ (grp_lt _ _)), take_part _ (nm_ne46 _ (grp_lt _ _))] at this
    refine ⟨nm_inj i1 i2 h1 h2 hn, ?_⟩
    unfold tile at h
    rw [hn] at h
    have hp := List.append_cancel_left h
    unfold part at hp
    by_cases c1 : w1 < 256 <;> by_cases c2 : w2 < 256
    · rw [if_pos c1, if_pos c2] at hp
      left
      have e := (List.cons.inj (List.cons.inj (List.cons.inj hp).2).2).2
      exact itoa_inj _ _ e
    · rw [if_pos c1, if_neg c2] at hp; cases hp
    · rw [if_neg c1, if_pos c2] at hp; cases hp
    · right; omega
  · rintro ⟨rfl, rfl | ⟨c1, c2⟩⟩
    · rfl
    · unfold tile part
      rw [if_neg (by omega), if_neg (by omega)]

/-! ### The model's road: decimal digits, padded to a multiple of three, cut from the left -/
def padz (l : List UInt8) : List UInt8 := List.replicate ((3 - l.length % 3) % 3) 48 ++ l
def ndX : List UInt8 → List UInt8
  | a :: b :: c :: r => 47 :: 120 :: a :: b :: c :: ndX r
  | _ => []
def nd : List UInt8 → List UInt8
  | [a, b, c] => [47, a, b, c]
  | a :: b :: c :: r => 47 :: 120 :: a :: b :: c :: nd r
  | _ => []
def flat : List Nat → List UInt8
  | [] => []
  | g :: r => flat r ++ d3 g

theorem ndX_snoc (k : Nat) : ∀ (l : List UInt8) (a b c : UInt8), l.length = 3 * k → ndX (l ++ [a, b, c]) = ndX l ++ [47, 120, a, b, c] := by
  induction k with
  | zero => intro l a b c h; have : l = [] := List.eq_nil_of_length_eq_zero (by omega); subst this; rfl
  | succ k ih =>
    intro l a b c h
    match l, h with
    | x :: y :: z :: r, h =>
      simp only [List.cons_append, ndX]
      rw [ih r a b c (by simp at h; omega)]
    | [], h => simp at h
    | [_], h => simp at h; omega
    | [_, _], h => simp at h; omega

theorem nd_snoc (k : Nat) : ∀ (l : List UInt8) (a b c : UInt8), l.length = 3 * k → nd (l ++ [a, b, c]) = ndX l ++ [47, a, b, c] := by
  induction k with
  | zero => intro l a b c h; have : l = [] := List.eq_nil_of_length_eq_zero (by omega); subst this; rfl
  | succ k ih =>
    intro l a b c h
    match l, h with
    | x :: y :: z :: r, h =>
      have e : nd ((x :: y :: z :: r) ++ [a, b, c]) = 47 :: 120 :: x :: y :: z :: nd (r ++ [a, b, c]) := by
        cases r <;> rfl
      rw [e, ih r a b c (by simp at h; omega)]
      rfl
    | [], h => simp at h
    | [_], h => simp at h; omega
    | [_, _], h => simp at h; omega

theorem flat_length (gs : List Nat) : (flat gs).length = 3 * gs.length := by
  induction gs with
  | nil => rfl
  | cons g r ih => simp [flat, ih, d3]; omega

theorem ndX_flat (gs : List Nat) : ndX (flat gs) = nmX gs := by
  induction gs with
  | nil => rfl
  | cons g r ih =>
    rw [flat, d3, ndX_snoc r.length _ _ _ _ (flat_length r), ih, nmX, d3]

theorem nd_flat (gs : List Nat) : nd (flat gs) = nm gs := by
  cases gs with
  | nil => rfl
  | cons g r => rw [flat, d3, nd_snoc r.length _ _ _ _ (flat_length r), ndX_flat, nm, d3]

theorem padz_snoc3 (l : List UInt8) (a b c : UInt8) : padz (l ++ [a, b, c]) = padz l ++ [a, b, c] := by
  unfold padz
  rw [List.length_append, ← List.append_assoc]
  have : (l.length + [a, b, c].length) % 3 = l.length % 3 := by simp
  rw [this]

theorem dec_three (n : Nat) (h : 1000 ≤ n) : decDigits n = decDigits (n / 1000) ++ d3 (n % 1000) := by
  rw [decDigits, dif_neg (by omega), decDigits, dif_neg (by omega), decDigits, dif_neg (by omega)]
  simp only [List.append_assoc, List.cons_append, List.nil_append, d3]
  have e1 : n / 10 / 10 / 10 = n / 1000 := by omega
  have e2 : n / 10 / 10 % 10 = n % 1000 / 100 := by omega
  have e3 : n / 10 % 10 = n % 1000 / 10 % 10 := by omega
  have e4 : n % 10 = n % 1000 % 10 := by omega
  rw [e1, e2, e3, ← e4]

theorem pad_small (n : Nat) (h : n < 1000) : padz (decDigits n) = d3 n := by
  by_cases h1 : n < 10
  · rw [decDigits, dif_pos h1]
    have e1 : n / 100 = 0 := by omega
    have e2 : n / 10 % 10 = 0 := by omega
    have e3 : n % 10 = n := by omega
    simp [padz, d3, e1, e2, e3]
  · by_cases h2 : n < 100
    · rw [decDigits, dif_neg h1, decDigits, dif_pos (by omega)]
      have e1 : n / 100 = 0 := by omega
      have e2 : n / 10 % 10 = n / 10 := by omega
      simp [padz, d3, e1, e2]
    · rw [decDigits, dif_neg h1, decDigits, dif_neg (by omega), decDigits, dif_pos (by omega)]
      have e1 : n / 10 / 10 = n / 100 := by omega
      simp [padz, d3, e1]

theorem pad_flat (f : Nat) : ∀ n, n < 1000 ^ (f + 1) → padz (decDigits n) = flat (grp (f + 1) n) := by
  induction f with
  | zero =>
    intro n h
    have h' : n < 1000 := by simpa using h
    rw [pad_small n h']
    have e1 : n / 1000 = 0 := by omega
    have e2 : n % 1000 = n := by omega
    simp [grp, flat, e1, e2]
  | succ f ih =>
    intro n h
    by_cases h0 : n < 1000
    · rw [pad_small n h0]
      have e1 : n / 1000 = 0 := by omega
      have e2 : n % 1000 = n := by omega
      simp [grp, flat, e1, e2]
    · rw [dec_three n (by omega)]
      rw [d3, padz_snoc3, ih (n / 1000) (by rw [Nat.pow_succ] at h; omega)]
      conv => rhs; rw [grp, if_neg (by omega), flat, d3]

theorem model_name (n : Nat) (h : n < 1000 ^ 7) : nd (padz (decDigits n)) = nm (grp 7 n) := by
  rw [pad_flat 6 n h, nd_flat]

end Go.Proofs.Qxb6603811aDoor
