/- Whole numbers as float64: plain arithmetic of the model's floats, no Go in sight. -/
import GoSem.Core.Float
import Derived.Laws.FloatArith
namespace Go.Proofs.Ybulkcghm.Flt
open Ieee

/-- The bits of a whole number as a float64. -/
def F (n : Nat) : Nat := FloatKind.f64.nearest (n : Int)

theorem log2_mul_pow (m k : Nat) (h : m ≠ 0) : (m * 2 ^ k).log2 = m.log2 + k := by
  rw [Nat.log2_eq_iff (Nat.mul_ne_zero h (Nat.ne_of_gt (Nat.pow_pos (by omega))))]
  have h1 := Nat.log2_self_le h
  have h2 := Nat.lt_log2_self (n := m)
  refine ⟨?_, ?_⟩
  · rw [Nat.pow_add]; exact Nat.mul_le_mul_right _ h1
  · rw [show m.log2 + k + 1 = m.log2 + 1 + k by omega, Nat.pow_add 2 (m.log2 + 1) k]
    exact Nat.mul_lt_mul_of_pos_right h2 (Nat.pow_pos (by omega))

theorem cut_zero (neg : Bool) (n : Nat) : Toward.even.cut neg n 0 = n := by
  simp [Toward.cut, Nat.mod_one]

theorem cut_exact (neg : Bool) (m k d : Nat) (h : d ≤ k) (hm : m ≠ 0) : Toward.even.cut neg (m * 2 ^ k) d = m * 2 ^ (k - d) := by
  have hl := log2_mul_pow m k hm
  have hd : min d ((m * 2 ^ k).log2 + 2) = d := by rw [hl]; omega
  have e : m * 2 ^ k = m * 2 ^ (k - d) * 2 ^ d := by rw [Nat.mul_assoc, ← Nat.pow_add, Nat.sub_add_cancel h]
  have hp : 0 < 2 ^ d := Nat.pow_pos (by omega)
  simp only [Toward.cut, hd, Nat.shiftLeft_eq, Nat.one_mul]
  rw [e, Nat.mul_div_cancel _ hp, Nat.mul_mod_left]
  simp

theorem cut_shift (neg : Bool) (m k d : Nat) (hm : m ≠ 0) : Toward.even.cut neg (m * 2 ^ k) (k + d) = Toward.even.cut neg m d := by
  have hl := log2_mul_pow m k hm
  have hd : min (k + d) ((m * 2 ^ k).log2 + 2) = min d (m.log2 + 2) + k := by rw [hl]; omega
  have hp : 0 < 2 ^ k := Nat.pow_pos (by omega)
  simp only [Toward.cut, hd, Nat.shiftLeft_eq, Nat.one_mul]
  generalize min d (m.log2 + 2) = q
  rw [Nat.pow_add, Nat.mul_div_mul_right _ _ hp, Nat.mul_mod_mul_right]
  have e1 : (2 ^ q * 2 ^ k < 2 * (m % 2 ^ q * 2 ^ k)) = (2 ^ q < 2 * (m % 2 ^ q)) := by
    rw [← Nat.mul_assoc]; exact propext ⟨fun h => Nat.lt_of_mul_lt_mul_right h, fun h => Nat.mul_lt_mul_of_pos_right h hp⟩
  have e2 : (2 ^ q * 2 ^ k == 2 * (m % 2 ^ q * 2 ^ k)) = (2 ^ q == 2 * (m % 2 ^ q)) := by
    rw [← Nat.mul_assoc, Bool.eq_iff_iff, beq_iff_eq, beq_iff_eq]
    exact ⟨fun h => Nat.eq_of_mul_eq_mul_right hp h, fun h => congrArg (· * 2 ^ k) h⟩
  simp only [e1, e2]

/-- What is written hangs on the number alone, not on how it is spelt. -/
theorem nearest_shift (f : Format) (neg : Bool) (m k : Nat) (p : Int) (hm : m ≠ 0) : f.nearest neg (m * 2 ^ k) p = f.nearest neg m (p + k) := by
  have hl := log2_mul_pow m k hm
  have hp : 0 < 2 ^ k := Nat.pow_pos (by omega)
  have hmk : m * 2 ^ k ≠ 0 := Nat.mul_ne_zero hm (by omega)
  unfold Format.nearest
  rw [if_neg hmk, if_neg hm, hl]
  have e : p + ((m.log2 + k : Nat) : Int) - f.fractionBits = p + k + m.log2 - f.fractionBits := by omega
  rw [e]
  generalize max (p + k + m.log2 - f.fractionBits) f.leastPlace = L
  have key : Toward.even.cut neg ((m * 2 ^ k) <<< (p - L).toNat) (L - p).toNat = Toward.even.cut neg (m <<< (p + k - L).toNat) (L - (p + k)).toNat := by
    rcases Int.lt_or_le p L with h1 | h1
    · rcases Int.lt_or_le (p + k) L with h2 | h2
      · rw [show (p - L).toNat = 0 by omega, show (p + k - L).toNat = 0 by omega, show (L - p).toNat = k + (L - (p + k)).toNat by omega, Nat.shiftLeft_zero, Nat.shiftLeft_zero]
        exact cut_shift neg m k _ hm
      · rw [show (p - L).toNat = 0 by omega, show (L - (p + k)).toNat = 0 by omega, Nat.shiftLeft_zero, cut_zero, cut_exact neg m k _ (by omega) hm, Nat.shiftLeft_eq]
        congr 2; omega
    · rw [show (L - p).toNat = 0 by omega, show (L - (p + k)).toNat = 0 by omega, cut_zero, cut_zero, Nat.shiftLeft_eq, Nat.shiftLeft_eq, Nat.mul_assoc, ← Nat.pow_add]
      congr 2; omega
  simp only [key]

theorem F_eq (n : Nat) : F n = double.nearest false n 0 := by
  have : decide ((n : Int) < 0) = false := by simp
  simp [F, FloatKind.nearest, FloatKind.encode, FloatKind.format, Format.write, this]

/-- A whole number below 2^53 is read as itself. -/
theorem read_F (n : Nat) (h : n < 2 ^ 53) : ∃ k : Nat, double.read (F n) = .number false (n * 2 ^ k) (-(k : Int)) := by
  rw [F_eq]
  by_cases h0 : n = 0
  · subst h0
    exact ⟨1074, by decide +kernel⟩
  · have hl : n.log2 < 53 := (Nat.log2_lt h0).2 h
    have h1 := Nat.log2_self_le h0
    have h2 := Nat.lt_log2_self (n := n)
    have h3 : double.nearest false n 0 = (n.log2 + 1022) * 4503599627370496 + n * 2 ^ (52 - n.log2) := by
      unfold Format.nearest
      rw [if_neg h0]
      have e1 : max ((0 : Int) + (n.log2 : Int) - (double.fractionBits : Nat)) double.leastPlace = (n.log2 : Int) - 52 := by
        show max ((0 : Int) + (n.log2 : Int) - 52) (-1074) = _
        omega
      simp only [e1]
      rw [show ((n.log2 : Int) - 52 - 0).toNat = 0 by omega, show (0 - ((n.log2 : Int) - 52)).toNat = 52 - n.log2 by omega, cut_zero, Nat.shiftLeft_eq]
      rw [show ((n.log2 : Int) - 52 - double.leastPlace).toNat = n.log2 + 1022 by show ((n.log2 : Int) - 52 - (-1074)).toNat = _; omega]
      have hb : double.binade = 4503599627370496 := by decide +kernel
      have hr : double.infRung = 9218868437227405312 := by decide +kernel
      rw [hb, hr]
      have hK : n * 2 ^ (52 - n.log2) < 9007199254740992 := by
        have : n * 2 ^ (52 - n.log2) < 2 ^ (n.log2 + 1) * 2 ^ (52 - n.log2) := Nat.mul_lt_mul_of_pos_right h2 (Nat.pow_pos (by omega))
        rw [← Nat.pow_add, show n.log2 + 1 + (52 - n.log2) = 53 by omega] at this
        simpa using this
      simp only [Format.word]
      rw [Nat.min_eq_left (by omega)]
      rfl
    have hK : n * 2 ^ (52 - n.log2) < 9007199254740992 := by
      have : n * 2 ^ (52 - n.log2) < 2 ^ (n.log2 + 1) * 2 ^ (52 - n.log2) := Nat.mul_lt_mul_of_pos_right h2 (Nat.pow_pos (by omega))
      rw [← Nat.pow_add, show n.log2 + 1 + (52 - n.log2) = 53 by omega] at this
      simpa using this
    have hK2 : 4503599627370496 ≤ n * 2 ^ (52 - n.log2) := by
      have : 2 ^ n.log2 * 2 ^ (52 - n.log2) ≤ n * 2 ^ (52 - n.log2) := Nat.mul_le_mul_right _ h1
      rw [← Nat.pow_add, show n.log2 + (52 - n.log2) = 52 by omega] at this
      simpa using this
    refine ⟨52 - n.log2, ?_⟩
    rw [h3]
    generalize n * 2 ^ (52 - n.log2) = K at *
    generalize n.log2 = e at *
    have hb : double.binade = 4503599627370496 := by decide +kernel
    have hr : double.infRung = 9218868437227405312 := by decide +kernel
    have hs : double.signWeight = 9223372036854775808 := by decide +kernel
    have hlp : double.leastPlace = -1074 := by decide +kernel
    have q1 : ((e + 1022) * 4503599627370496 + K) / 9223372036854775808 = 0 := by omega
    have q2 : ((e + 1022) * 4503599627370496 + K) % 9223372036854775808 = (e + 1022) * 4503599627370496 + K := by omega
    have q3 : ((e + 1022) * 4503599627370496 + K) % 4503599627370496 = K - 4503599627370496 := by omega
    have q4 : ((e + 1022) * 4503599627370496 + K) / 4503599627370496 = e + 1023 := by omega
    unfold Format.read
    simp only [hb, hr, hs, hlp, q1, q2, q3, q4]
    rw [if_neg (by omega), if_pos (by omega)]
    rw [show 4503599627370496 + (K - 4503599627370496) = K by omega, show (-1074 + ((e + 1023 - 1 : Nat) : Int)) = -((52 - e : Nat) : Int) by omega]
    rfl

theorem signed_mul (m k u : Nat) : signed false (m * 2 ^ k) u = ((m * 2 ^ (k + u) : Nat) : Int) := by
  simp only [signed, Nat.shiftLeft_eq, Nat.mul_assoc, ← Nat.pow_add]
  rfl

/-- The sum of two numbers at their own places, brought to one. -/
theorem sum_numbers (a b i j : Nat) : Datum.sum (.number false (a * 2 ^ i) (-(i : Int))) (.number false (b * 2 ^ j) (-(j : Int))) = some (.number false ((a + b) * 2 ^ (max i j)) (-((max i j : Nat) : Int))) := by
  simp only [Datum.sum]
  have e0 : min (-(i : Int)) (-(j : Int)) = -((max i j : Nat) : Int) := by omega
  rw [e0, show (-(i : Int) - -((max i j : Nat) : Int)).toNat = max i j - i by omega, show (-(j : Int) - -((max i j : Nat) : Int)).toNat = max i j - j by omega, signed_mul, signed_mul,
    show i + (max i j - i) = max i j by omega, show j + (max i j - j) = max i j by omega]
  have e1 : ((a * 2 ^ max i j : Nat) : Int) + ((b * 2 ^ max i j : Nat) : Int) = (((a + b) * 2 ^ max i j : Nat) : Int) := by rw [Nat.add_mul]; omega
  rw [e1]
  generalize (a + b) * 2 ^ max i j = q
  congr 2
  by_cases h : (q : Int) = 0
  · simp [h]
  · simp only [h]; simp

theorem nearest_mul (n k : Nat) : double.nearest false (n * 2 ^ k) (-(k : Int)) = F n := by
  rw [F_eq]
  by_cases h : n = 0
  · subst h; simp [Format.nearest]
  · rw [nearest_shift _ _ _ _ _ h, show -(k : Int) + (k : Int) = 0 by omega]

theorem F_add (a b : Nat) (ha : a < 2 ^ 53) (hb : b < 2 ^ 53) : double.add (F a) (F b) = some (F (a + b)) := by
  obtain ⟨i, hi⟩ := read_F a ha
  obtain ⟨j, hj⟩ := read_F b hb
  simp only [Format.add, hi, hj, sum_numbers, Option.map_some, Format.write, nearest_mul]

theorem F_order (a b : Nat) (ha : a < 2 ^ 53) (hb : b < 2 ^ 53) : double.order (F a) (F b) = some (compare (a : Int) (b : Int)) := by
  obtain ⟨i, hi⟩ := read_F a ha
  obtain ⟨j, hj⟩ := read_F b hb
  simp only [Format.order, hi, hj, Datum.order]
  have e0 : min (-(i : Int)) (-(j : Int)) = -((max i j : Nat) : Int) := by omega
  rw [e0, show (-(i : Int) - -((max i j : Nat) : Int)).toNat = max i j - i by omega, show (-(j : Int) - -((max i j : Nat) : Int)).toNat = max i j - j by omega, signed_mul, signed_mul,
    show i + (max i j - i) = max i j by omega, show j + (max i j - j) = max i j by omega]
  congr 1
  have hp : (0 : Int) < ((2 ^ max i j : Nat) : Int) := by have : 0 < 2 ^ max i j := Nat.pow_pos (by omega); omega
  rw [Int.natCast_mul, Int.natCast_mul]
  generalize ((2 ^ max i j : Nat) : Int) = q at *
  simp only [compare, compareOfLessAndEq]
  have e1 : ((a : Int) * q < b * q) = ((a : Int) < b) := propext ⟨fun h => Int.lt_of_mul_lt_mul_right h (Int.le_of_lt hp), fun h => Int.mul_lt_mul_of_pos_right h hp⟩
  have e2 : ((a : Int) * q = b * q) = ((a : Int) = b) := propext ⟨fun h => Int.eq_of_mul_eq_mul_right (Int.ne_of_gt hp) h, fun h => by rw [h]⟩
  simp only [e1, e2]

theorem F_zero : F 0 = 0 := by decide +kernel

end Go.Proofs.Ybulkcghm.Flt
