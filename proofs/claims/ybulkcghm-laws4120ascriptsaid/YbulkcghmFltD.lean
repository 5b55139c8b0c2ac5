/- What the limiter asks of whole numbers as float64. Plain arithmetic, no Go in sight. -/
import Derived.Test.YbulkcghmFltC
namespace Go.Proofs.Ybulkcghm.Flt
open Ieee

theorem fo (n : Nat) : floatOfInt .f64 (n : Int) = F n := rfl

theorem fo_int (k : Int) (h : 0 ≤ k) : floatOfInt .f64 k = F k.toNat := by
  obtain ⟨n, rfl⟩ := Int.eq_ofNat_of_zero_le h
  exact fo n

theorem F_le (n : Nat) : F n ≤ 9218868437227405312 := by rw [F_eq]; exact nearest_le _ _

theorem F_lt (n : Nat) (h : n < 2 ^ 53) : F n < 9218868437227405311 := by
  by_cases h0 : n = 0
  · subst h0; rw [F_zero]; omega
  · obtain ⟨h1, h2, h3⟩ := F_val n h0 h
    omega

theorem F_mono {a b : Nat} (h : a < b) (hb : b < 2 ^ 53) : F a < F b := by
  rcases Nat.lt_or_ge (F a) (F b) with h1 | h1
  · exact h1
  · have h2 := order_ge h1 (by have := F_lt b hb; omega) (F_le a)
    rw [F_order a b (by omega) hb] at h2
    simp only [compare, compareOfLessAndEq] at h2
    rw [if_pos (by omega)] at h2
    cases h2

theorem F_big (a n : Nat) (ha : a < 2 ^ 52) (hn : 2 ^ 53 ≤ n) : F a < F n := by
  have h1 : F a < F (2 ^ 53 - 1) := F_mono (by omega) (by omega)
  have h2 := near_ge (2 ^ 53 - 1) 0 (n - (2 ^ 53 - 1)) (by omega) (by omega)
  have e : (2 ^ 53 - 1) * 2 ^ 0 + (n - (2 ^ 53 - 1)) = n := by omega
  rw [e] at h2
  have e2 : double.nearest false n (-((0 : Nat) : Int)) = F n := by rw [F_eq]; rfl
  rw [e2] at h2
  omega

theorem lt_any (a n : Nat) (ha : a < 2 ^ 52) : (double.order (F a) (F n) == some .lt) = decide (a < n) := by
  rcases Nat.lt_or_ge n (2 ^ 53) with h | h
  · rw [F_order a n (by omega) h]
    simp only [compare, compareOfLessAndEq]
    by_cases h1 : a < n
    · rw [if_pos (by omega)]; simp [h1]
    · rw [if_neg (by omega)]; simp only [h1, decide_false]
      split <;> rfl
  · rw [order_lt (F_big a n ha h) (F_le n)]
    simp; omega

theorem eq_any (a b : Nat) (ha : a < 2 ^ 53) (hb : b < 2 ^ 53) : (double.order (F a) (F b) == some .eq) = decide (a = b) := by
  rw [F_order a b ha hb]
  simp only [compare, compareOfLessAndEq]
  by_cases h : a = b
  · subst h; simp
  · rw [if_neg (show ¬ (a : Int) = b by omega)]
    simp only [h, decide_false]
    split <;> rfl

theorem F_one : F 1 = 4607182418800017408 := by decide +kernel
theorem F_giga : F 1000000000 = 4741671816366391296 := by decide +kernel

theorem lim_fin (q : Nat) (h : q < 2 ^ 53) : (double.order (F q) 9218868437227405311 == some .gt || double.order (F q) 9218868437227405311 == some .eq) = false := by
  rw [order_lt (F_lt q h) (by omega)]; rfl

theorem lim_inf : (double.order 9218868437227405311 9218868437227405311 == some .gt || double.order 9218868437227405311 9218868437227405311 == some .eq) = true := by
  rw [order_fin _ _ (by omega) (by omega)]
  simp [compare, compareOfLessAndEq]

theorem pos_F (q : Nat) (h0 : 0 < q) (h : q < 2 ^ 53) : (double.order (F q) 0 == some .gt) = true := by
  rw [← F_zero, F_order q 0 h (by omega)]
  simp only [compare, compareOfLessAndEq]
  rw [if_neg (by omega), if_neg (by omega)]; rfl

theorem pos_zero : (double.order 0 0 == some .gt) = false := by decide +kernel

theorem toInt_F (a : Nat) (ha : a < 2 ^ 53) : floatToIntVal .f64 (F a) .i64 = some (a : Int) := by
  obtain ⟨k, hk⟩ := read_F a ha
  have hc : Toward.zero.cut false (a * 2 ^ k) k = a := by
    simp only [Toward.cut, Nat.shiftLeft_eq, Nat.one_mul, Bool.toNat_false, Nat.add_zero]
    by_cases h0 : a = 0
    · subst h0; simp
    · rw [log2_mul_pow a k h0, show min k (a.log2 + k + 2) = k by omega, Nat.mul_div_cancel _ (Nat.pow_pos (by omega))]
  have ht : (Datum.number false (a * 2 ^ k) (-(k : Int))).toInt .zero = some (a : Int) := by
    simp only [Datum.toInt, Datum.integral]
    rw [show (-(k : Int)).toNat = 0 by omega, show (- -(k : Int)).toNat = k by omega, Nat.shiftLeft_zero, hc]
    simp [signed]
  unfold floatToIntVal
  have hd : FloatKind.f64.decode (F a) = .number false (a * 2 ^ k) (-(k : Int)) := hk
  rw [hd, ht]
  simp only
  rw [if_pos]
  refine ⟨?_, ?_⟩
  · show (-9223372036854775808 : Int) ≤ a
    omega
  · show (a : Int) ≤ 9223372036854775807
    omega

theorem sub_some (a b : Nat) (ha : a < 2 ^ 53) (hb : b < 2 ^ 53) : ∃ D, double.sub (F a) (F b) = some D := by
  obtain ⟨i, hi⟩ := read_F a ha
  obtain ⟨j, hj⟩ := read_F b hb
  simp only [Format.sub, hi, hj, Datum.opposite, Datum.sum]
  exact ⟨_, rfl⟩

theorem F_inj {a b : Nat} (ha : a < 2 ^ 53) (hb : b < 2 ^ 53) (h : F a = F b) : a = b := by
  rcases Nat.lt_trichotomy a b with h1 | h1 | h1
  · have := F_mono h1 hb; omega
  · exact h1
  · have := F_mono h1 ha; omega

/-- Sums, products and quotients of numbers that are not negative are not negative. -/
theorem nn_read (x : Nat) (h : x ≤ 9218868437227405312) : (∃ m e, double.read x = .number false m e) ∨ double.read x = .infinity false := by
  rcases Nat.lt_or_ge x 9218868437227405312 with h1 | h1
  · obtain ⟨m, u, h2, _⟩ := read_fin x h1
    exact Or.inl ⟨_, _, h2⟩
  · have : x = 9218868437227405312 := by omega
    subst this; exact Or.inr read_inf

theorem write_inf : double.write (.infinity false) = 9218868437227405312 := by decide +kernel

theorem nn_mul (x q : Nat) (hx : x ≤ 9218868437227405312) (hq0 : 0 < q) (hq : q < 2 ^ 53) : ∃ G, double.mul x (F q) = some G ∧ G ≤ 9218868437227405312 := by
  obtain ⟨j, hj⟩ := read_F q hq
  have hne : q * 2 ^ j ≠ 0 := Nat.mul_ne_zero (by omega) (Nat.ne_of_gt (Nat.pow_pos (by omega)))
  rcases nn_read x hx with ⟨m, e, h1⟩ | h1
  · simp only [Format.mul, h1, hj, Datum.product, Option.map_some, Format.write, Bool.false_xor]
    exact ⟨_, rfl, nearest_le _ _⟩
  · simp only [Format.mul, h1, hj, Datum.product, if_neg hne, Option.map_some, Bool.false_xor, write_inf]
    exact ⟨_, rfl, Nat.le_refl _⟩

theorem nn_quo (x : Nat) (hx : x ≤ 9218868437227405312) : ∃ G, double.div x 4741671816366391296 = some G ∧ G ≤ 9218868437227405312 := by
  rw [← F_giga]
  obtain ⟨j, hj⟩ := read_F 1000000000 (by omega)
  have hne : 1000000000 * 2 ^ j ≠ 0 := Nat.mul_ne_zero (by omega) (Nat.ne_of_gt (Nat.pow_pos (by omega)))
  rcases nn_read x hx with ⟨m, e, h1⟩ | h1
  · simp only [Format.div, h1, hj, Datum.quotient, if_neg hne, Option.map_some, Format.write, Bool.false_xor]
    exact ⟨_, rfl, nearest_le _ _⟩
  · simp only [Format.div, h1, hj, Datum.quotient, Option.map_some, Bool.false_xor, write_inf]
    exact ⟨_, rfl, Nat.le_refl _⟩

/-- A number that is not negative added to a whole number: not below it. -/
theorem nn_add (b x : Nat) (hb : b < 2 ^ 53) (hx : x ≤ 9218868437227405312) : ∃ S, double.add (F b) x = some S ∧ S ≤ 9218868437227405312 ∧ F b ≤ S := by
  obtain ⟨i, hi⟩ := read_F b hb
  rcases nn_read x hx with ⟨m, e, h1⟩ | h1
  · simp only [Format.add, hi, h1, Datum.sum, Option.map_some, Format.write]
    obtain ⟨P, hP⟩ : ∃ P : Nat, min (-(i : Int)) e = -(P : Int) := ⟨(-(min (-(i : Int)) e)).toNat, by omega⟩
    rw [hP, signed_mul, show i + (-(i : Int) - -(P : Int)).toNat = P by omega]
    obtain ⟨y, hy⟩ : ∃ y : Nat, signed false m (e - -(P : Int)).toNat = (y : Int) := ⟨_, rfl⟩
    rw [hy]
    have e1 : ((b * 2 ^ P : Nat) : Int) + (y : Int) = ((b * 2 ^ P + y : Nat) : Int) := by omega
    rw [e1]
    have e2 : (if ((b * 2 ^ P + y : Nat) : Int) = 0 then false && false else decide (((b * 2 ^ P + y : Nat) : Int) < 0)) = false := by
      split
      · rfl
      · exact decide_eq_false (Int.not_lt.2 (Int.natCast_nonneg _))
    rw [e2, Int.natAbs_natCast]
    refine ⟨_, rfl, nearest_le _ _, ?_⟩
    by_cases h0 : b = 0
    · subst h0; rw [F_zero]; exact Nat.zero_le _
    · exact near_ge b P y h0 hb
  · simp only [Format.add, hi, h1, Datum.sum, Option.map_some, write_inf]
    exact ⟨_, rfl, Nat.le_refl _, F_le b⟩

end Go.Proofs.Ybulkcghm.Flt
