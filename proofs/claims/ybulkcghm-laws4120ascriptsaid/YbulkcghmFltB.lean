/- More on whole numbers as float64: differences, products, quotients. Plain arithmetic, no Go in sight. -/
import Derived.Test.YbulkcghmFlt
namespace Go.Proofs.Ybulkcghm.Flt
open Ieee

theorem F_sub (a b : Nat) (ha : a < 2 ^ 53) (hb : b ≤ a) : double.sub (F a) (F b) = some (F (a - b)) := by
  obtain ⟨i, hi⟩ := read_F a ha
  obtain ⟨j, hj⟩ := read_F b (Nat.lt_of_le_of_lt hb ha)
  simp only [Format.sub, hi, hj, Datum.opposite, Datum.sum, Bool.not_false]
  have e0 : min (-(i : Int)) (-(j : Int)) = -((max i j : Nat) : Int) := by omega
  have sn : ∀ m k u : Nat, signed true (m * 2 ^ k) u = -((m * 2 ^ (k + u) : Nat) : Int) := fun m k u => by
    simp only [signed, Nat.shiftLeft_eq, Nat.mul_assoc, ← Nat.pow_add]; rfl
  rw [e0, show (-(i : Int) - -((max i j : Nat) : Int)).toNat = max i j - i by omega, show (-(j : Int) - -((max i j : Nat) : Int)).toNat = max i j - j by omega, signed_mul, sn,
    show i + (max i j - i) = max i j by omega, show j + (max i j - j) = max i j by omega]
  have e1 : ((a * 2 ^ max i j : Nat) : Int) + -((b * 2 ^ max i j : Nat) : Int) = (((a - b) * 2 ^ max i j : Nat) : Int) := by
    have : b * 2 ^ max i j ≤ a * 2 ^ max i j := Nat.mul_le_mul_right _ hb
    rw [Nat.sub_mul]; omega
  rw [e1]
  have e2 : (if (((a - b) * 2 ^ max i j : Nat) : Int) = 0 then false && true else decide ((((a - b) * 2 ^ max i j : Nat) : Int) < 0)) = false := by
    split
    · rfl
    · exact decide_eq_false (Int.not_lt.2 (Int.natCast_nonneg _))
  rw [e2, Int.natAbs_natCast, Option.map_some, Format.write, nearest_mul]

theorem F_mul (a b : Nat) (ha : a < 2 ^ 53) (hb : b < 2 ^ 53) : double.mul (F a) (F b) = some (F (a * b)) := by
  obtain ⟨i, hi⟩ := read_F a ha
  obtain ⟨j, hj⟩ := read_F b hb
  simp only [Format.mul, hi, hj, Datum.product, Option.map_some, Format.write, Bool.false_xor]
  have e : a * 2 ^ i * (b * 2 ^ j) = a * b * 2 ^ (i + j) := by
    rw [Nat.pow_add]; simp only [Nat.mul_assoc, Nat.mul_left_comm]
  rw [e, show -(i : Int) + -(j : Int) = -((i + j : Nat) : Int) by omega, nearest_mul]

/-- A quotient that comes out whole. -/
theorem F_div (a b : Nat) (hb0 : 0 < b) (hab : a * b < 2 ^ 53) (hb : b < 2 ^ 53) : double.div (F (a * b)) (F b) = some (F a) := by
  obtain ⟨i, hi⟩ := read_F (a * b) hab
  obtain ⟨j, hj⟩ := read_F b hb
  have hbj : b * 2 ^ j ≠ 0 := Nat.mul_ne_zero (by omega) (Nat.ne_of_gt (Nat.pow_pos (by omega)))
  simp only [Format.div, hi, hj, Datum.quotient, if_neg hbj, Option.map_some, Format.write]
  congr 1
  have hm : ∃ m, m = double.fractionBits + 2 + (b * 2 ^ j).log2 - (a * b * 2 ^ i).log2 := ⟨_, rfl⟩
  obtain ⟨m, hm⟩ := hm
  rw [← hm]
  by_cases ha : a = 0
  · subst ha
    simp only [Nat.zero_mul, Nat.zero_shiftLeft, Nat.zero_div, Nat.zero_mod]
    rw [F_eq]
    simp [Format.nearest]
  · have hne : a * b ≠ 0 := Nat.mul_ne_zero ha (by omega)
    have hl : (a * b).log2 < 53 := (Nat.log2_lt hne).2 hab
    rw [log2_mul_pow b j (by omega), log2_mul_pow (a * b) i hne, show double.fractionBits = 52 from rfl] at hm
    have hij : j ≤ i + m := by omega
    have key : (a * b * 2 ^ i) <<< m = b * 2 ^ j * (a * 2 ^ (i + m - j)) := by
      rw [Nat.shiftLeft_eq]
      have : 2 ^ i * 2 ^ m = 2 ^ j * 2 ^ (i + m - j) := by rw [← Nat.pow_add, ← Nat.pow_add]; congr 1; omega
      calc a * b * 2 ^ i * 2 ^ m = a * b * (2 ^ i * 2 ^ m) := by rw [Nat.mul_assoc]
        _ = a * b * (2 ^ j * 2 ^ (i + m - j)) := by rw [this]
        _ = b * 2 ^ j * (a * 2 ^ (i + m - j)) := by simp only [Nat.mul_assoc, Nat.mul_left_comm]
    rw [key, Nat.mul_div_cancel_left _ (Nat.pos_of_ne_zero hbj), Nat.mul_mod_right]
    have e : 2 * (a * 2 ^ (i + m - j)) + ((0 : Nat) != 0).toNat = a * 2 ^ (i + m - j + 1) := by
      rw [Nat.pow_succ, ← Nat.mul_assoc a, Nat.mul_comm 2]; rfl
    rw [e, show -(i : Int) - -(j : Int) - (m : Int) - 1 = -((i + m - j + 1 : Nat) : Int) by omega, Bool.false_xor, nearest_mul]

end Go.Proofs.Ybulkcghm.Flt
