import Derived.Laws.BitsAllLaws
import Derived.Lib.EndianBits
namespace Go.Proofs.Qxb6604425a

/-! ### Bytes and little-endian words: no Go in sight -/
def by8 (s : ByteArray) (i : Nat) : Nat := (s.data.toList.getD i 0).toNat
def leN (s : ByteArray) : Nat → Nat → Nat
  | _, 0 => 0
  | i, k + 1 => by8 s i + 256 * leN s (i + 1) k

theorem by8_lt (s : ByteArray) (i : Nat) : by8 s i < 256 := UInt8.toNat_lt _
theorem by8_at (s : ByteArray) (i : Nat) (h : i < s.size) : (s[i]).toNat = by8 s i := by
  unfold by8
  have h2 : i < s.data.size := h
  have : s.data.toList.getD i 0 = s.data[i] := by
    rw [List.getD_eq_getElem?_getD, Array.getElem?_toList, Array.getElem?_eq_getElem h2]
    rfl
  rw [this]
  rfl
theorem by8_end (s : ByteArray) (i : Nat) (h : s.size ≤ i) : by8 s i = 0 := by
  unfold by8
  have h2 : s.data.size ≤ i := h
  have : s.data.toList.getD i 0 = 0 := by
    rw [List.getD_eq_getElem?_getD, List.getElem?_eq_none (by simpa using h2)]
    rfl
  rw [this]
  rfl
theorem leN_lt (s : ByteArray) (k : Nat) : ∀ i, leN s i k < 256 ^ k := by
  induction k with
  | zero => intro i; simp [leN]
  | succ k ih =>
    intro i
    have h1 := ih (i + 1)
    have h2 := by8_lt s i
    rw [leN, Nat.pow_succ]
    omega

/-- the last byte of a word -/
theorem leN_snoc (s : ByteArray) (k : Nat) : ∀ i, leN s i (k + 1) = leN s i k + by8 s (i + k) * 256 ^ k := by
  induction k with
  | zero => intro i; simp [leN]
  | succ k ih =>
    intro i
    rw [leN, ih (i + 1), leN, Nat.pow_succ]
    have : i + 1 + k = i + (k + 1) := by omega
    rw [this, Nat.mul_add]
    have e : 256 * (by8 s (i + (k + 1)) * 256 ^ k) = by8 s (i + (k + 1)) * (256 ^ k * 256) := by
      rw [Nat.mul_comm 256, Nat.mul_assoc]
    omega

theorem leN_congr (s t : ByteArray) (k : Nat) : ∀ i j, (∀ m, m < k → by8 s (i + m) = by8 t (j + m)) → leN s i k = leN t j k := by
  induction k with
  | zero => intro i j _; rfl
  | succ k ih =>
    intro i j h
    rw [leN, leN, ih (i + 1) (j + 1) (fun m hm => by have := h (m + 1) (by omega); rwa [show i + (m + 1) = i + 1 + m by omega, show j + (m + 1) = j + 1 + m by omega] at this)]
    have := h 0 (by omega)
    rw [Nat.add_zero, Nat.add_zero] at this
    rw [this]

/-- a word's low part and high part -/
theorem leN_split (s : ByteArray) (a b : Nat) : ∀ i, leN s i (a + b) = leN s i a + leN s (i + a) b * 256 ^ a := by
  induction a with
  | zero => intro i; simp [leN]
  | succ a ih =>
    intro i
    rw [show a + 1 + b = (a + b) + 1 by omega, leN, ih (i + 1), leN, show i + 1 + a = i + (a + 1) by omega, Nat.pow_succ, Nat.mul_add]
    have e : 256 * (leN s (i + (a + 1)) b * 256 ^ a) = leN s (i + (a + 1)) b * (256 ^ a * 256) := by rw [Nat.mul_comm 256, Nat.mul_assoc]
    omega

/-- two overlapping reads of one number -/
theorem or_overlap (m a b : Nat) (h : b ≤ a) : m % 2 ^ a ||| m / 2 ^ b * 2 ^ b = m := by
  apply Nat.eq_of_testBit_eq
  intro i
  rw [Nat.testBit_or, Nat.testBit_mod_two_pow]
  have e : (m / 2 ^ b * 2 ^ b).testBit i = (decide (b ≤ i) && m.testBit i) := by
    rw [Nat.mul_comm, ← Nat.shiftRight_eq_div_pow, Nat.testBit_two_pow_mul, Nat.testBit_shiftRight]
    by_cases hb : b ≤ i
    · simp [hb]
    · simp [hb]
  rw [e]
  by_cases h1 : i < a
  · cases m.testBit i <;> simp [h1]
  · have h2 : b ≤ i := by omega
    cases m.testBit i <;> simp [h2]

theorem or_low (a x y : Nat) (hy : y < 2 ^ a) : y ||| x * 2 ^ a = y + x * 2 ^ a := by
  rw [Nat.or_comm, nat_join a (x * 2 ^ a) y (by simp) hy, Nat.add_comm]
theorem or_high (a x y : Nat) (hy : y < 2 ^ a) : x * 2 ^ a ||| y = x * 2 ^ a + y := nat_join a (x * 2 ^ a) y (by simp) hy

/-! ### The two words of a text -/
def headN (s : ByteArray) : Nat := leN s 0 (min 8 s.size)
def tailN (s : ByteArray) : Nat := if 8 < s.size then leN s (s.size - 8) 8 else 0

theorem head_mid (s : ByteArray) (d : Nat) (h : d ≤ 4) : leN s 0 4 ||| leN s d 4 * 2 ^ (8 * d) = leN s 0 (d + 4) := by
  have e1 : leN s 0 4 = leN s 0 (d + 4) % 2 ^ 32 := by
    have h1 := leN_split s 4 d 0
    have h2 := leN_lt s 4 0
    rw [show d + 4 = 4 + d by omega, h1]
    have : (256 : Nat) ^ 4 = 2 ^ 32 := by decide
    rw [this] at *
    omega
  have e2 : leN s d 4 = leN s 0 (d + 4) / 2 ^ (8 * d) := by
    have h1 := leN_split s d 4 0
    have h2 := leN_lt s d 0
    have e : (256 : Nat) ^ d = 2 ^ (8 * d) := by rw [show (256 : Nat) = 2 ^ 8 from rfl, ← Nat.pow_mul]
    rw [e] at h1 h2
    rw [h1, Nat.zero_add, Nat.add_mul_div_right _ _ (Nat.two_pow_pos _), Nat.div_eq_of_lt h2, Nat.zero_add]
  rw [e1, e2]
  exact or_overlap _ 32 (8 * d) (by omega)

end Go.Proofs.Qxb6604425a
