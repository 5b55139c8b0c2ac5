/- Order and rounding of float64 that are not negative. Plain arithmetic, no Go in sight. -/
import Derived.Test.YbulkcghmFltB
namespace Go.Proofs.Ybulkcghm.Flt
open Ieee

/-- The value of a finite word, in the least places. -/
def val (x : Nat) : Nat := if x < 4503599627370496 then x else (4503599627370496 + x % 4503599627370496) * 2 ^ (x / 4503599627370496 - 1)

theorem dbin : double.binade = 4503599627370496 := by decide +kernel
theorem dinf : double.infRung = 9218868437227405312 := by decide +kernel
theorem dsgn : double.signWeight = 9223372036854775808 := by decide +kernel
theorem dlow : double.leastPlace = -1074 := by decide +kernel

theorem read_fin (x : Nat) (h : x < 9218868437227405312) : ∃ m u : Nat, double.read x = .number false m (-1074 + (u : Int)) ∧ m * 2 ^ u = val x := by
  have q1 : x / 9223372036854775808 = 0 := by omega
  have q2 : x % 9223372036854775808 = x := by omega
  unfold Format.read val
  simp only [dbin, dinf, dsgn, dlow, q1, q2]
  by_cases hx : x < 4503599627370496
  · rw [if_pos hx, if_pos hx]
    exact ⟨x, 0, rfl, by simp⟩
  · rw [if_neg hx, if_pos h, if_neg hx]
    exact ⟨_, _, rfl, rfl⟩

theorem read_inf : double.read 9218868437227405312 = .infinity false := by decide +kernel

theorem val_mono {x y : Nat} (h : x < y) : val x < val y := by
  unfold val
  by_cases hy : y < 4503599627370496
  · rw [if_pos hy, if_pos (by omega)]; exact h
  · rw [if_neg hy]
    have hp : 0 < 2 ^ (y / 4503599627370496 - 1) := Nat.pow_pos (by omega)
    by_cases hx : x < 4503599627370496
    · rw [if_pos hx]
      have : 4503599627370496 * 1 ≤ (4503599627370496 + y % 4503599627370496) * 2 ^ (y / 4503599627370496 - 1) := Nat.mul_le_mul (by omega) hp
      omega
    · rw [if_neg hx]
      have hd : x / 4503599627370496 ≤ y / 4503599627370496 := Nat.div_le_div_right (Nat.le_of_lt h)
      rcases Nat.lt_or_ge (x / 4503599627370496) (y / 4503599627370496) with hlt | hge
      · have e : y / 4503599627370496 - 1 = (x / 4503599627370496 - 1) + 1 + (y / 4503599627370496 - x / 4503599627370496 - 1) := by omega
        have hp1 : 0 < 2 ^ (x / 4503599627370496 - 1) := Nat.pow_pos (by omega)
        have hp2 : 1 ≤ 2 ^ (y / 4503599627370496 - x / 4503599627370496 - 1) := Nat.pow_pos (by omega)
        have h1 : (4503599627370496 + x % 4503599627370496) * 2 ^ (x / 4503599627370496 - 1) < 9007199254740992 * 2 ^ (x / 4503599627370496 - 1) := Nat.mul_lt_mul_of_pos_right (by omega) hp1
        have h2 : 9007199254740992 * 2 ^ (x / 4503599627370496 - 1) ≤ (4503599627370496 + y % 4503599627370496) * 2 ^ (y / 4503599627370496 - 1) := by
          rw [e, Nat.pow_add, Nat.pow_add]
          calc 9007199254740992 * 2 ^ (x / 4503599627370496 - 1) = 4503599627370496 * (2 ^ (x / 4503599627370496 - 1) * 2 ^ 1 * 1) := by omega
            _ ≤ _ := Nat.mul_le_mul (by omega) (Nat.mul_le_mul (Nat.le_refl _) hp2)
        omega
      · have e : y / 4503599627370496 = x / 4503599627370496 := by omega
        rw [e]
        exact Nat.mul_lt_mul_of_pos_right (by omega) (Nat.pow_pos (by omega))

theorem order_fin (x y : Nat) (hx : x < 9218868437227405312) (hy : y < 9218868437227405312) : double.order x y = some (compare (val x : Int) (val y : Int)) := by
  obtain ⟨m, u, h1, v1⟩ := read_fin x hx
  obtain ⟨n, v, h2, v2⟩ := read_fin y hy
  simp only [Format.order, h1, h2, Datum.order]
  rw [show (-1074 + (u : Int) - min (-1074 + (u : Int)) (-1074 + (v : Int))).toNat = u - min u v by omega, show (-1074 + (v : Int) - min (-1074 + (u : Int)) (-1074 + (v : Int))).toNat = v - min u v by omega]
  simp only [signed, Nat.shiftLeft_eq, ← v1, ← v2]
  congr 1
  have hq : 0 < 2 ^ min u v := Nat.pow_pos (by omega)
  have a1 : m * 2 ^ u = m * 2 ^ (u - min u v) * 2 ^ min u v := by rw [Nat.mul_assoc, ← Nat.pow_add]; congr 2; omega
  have a2 : n * 2 ^ v = n * 2 ^ (v - min u v) * 2 ^ min u v := by rw [Nat.mul_assoc, ← Nat.pow_add]; congr 2; omega
  rw [a1, a2]
  generalize m * 2 ^ (u - min u v) = a
  generalize n * 2 ^ (v - min u v) = b
  generalize 2 ^ min u v = q at *
  show compare (a : Int) (b : Int) = _
  simp only [compare, compareOfLessAndEq]
  have e1 : (((a * q : Nat) : Int) < ((b * q : Nat) : Int)) = ((a : Int) < b) := propext ⟨fun h => by have := Nat.lt_of_mul_lt_mul_right (Int.ofNat_lt.1 h); omega, fun h => Int.ofNat_lt.2 (Nat.mul_lt_mul_of_pos_right (by omega) hq)⟩
  have e2 : (((a * q : Nat) : Int) = ((b * q : Nat) : Int)) = ((a : Int) = b) := propext ⟨fun h => by have := Nat.eq_of_mul_eq_mul_right hq (Int.ofNat_inj.1 h); omega, fun h => by rw [Int.ofNat_inj.1 h]⟩
  simp only [e1, e2]

theorem order_lt {x y : Nat} (h : x < y) (hy : y ≤ 9218868437227405312) : double.order x y = some .lt := by
  rcases Nat.lt_or_ge y 9218868437227405312 with h1 | h1
  · rw [order_fin x y (by omega) h1]
    have := val_mono h
    simp only [compare, compareOfLessAndEq]
    rw [if_pos (by omega)]
  · have : y = 9218868437227405312 := by omega
    subst this
    obtain ⟨m, u, h2, _⟩ := read_fin x (by omega)
    simp only [Format.order, h2, read_inf, Datum.order]
    rfl

theorem order_ge {x y : Nat} (h : y ≤ x) (hy : y < 9218868437227405312) (hx : x ≤ 9218868437227405312) : (double.order x y == some .lt) = false := by
  rcases Nat.lt_or_ge x 9218868437227405312 with h1 | h1
  · rw [order_fin x y h1 hy]
    have : val y ≤ val x := by
      rcases Nat.lt_or_ge y x with h2 | h2
      · exact Nat.le_of_lt (val_mono h2)
      · have : x = y := by omega
        subst this; exact Nat.le_refl _
    simp only [compare, compareOfLessAndEq]
    rw [if_neg (by omega)]
    split <;> rfl
  · have : x = 9218868437227405312 := by omega
    subst this
    obtain ⟨m, u, h2, _⟩ := read_fin y hy
    simp only [Format.order, h2, read_inf, Datum.order]
    rfl

theorem cut_ge (neg : Bool) (n d : Nat) : n / 2 ^ d ≤ Toward.even.cut neg n d := by
  simp only [Toward.cut, Nat.shiftLeft_eq, Nat.one_mul]
  refine Nat.le_trans ?_ (Nat.le_add_right _ _)
  exact Nat.div_le_div_left (Nat.pow_le_pow_right (by omega) (Nat.min_le_left _ _)) (Nat.pow_pos (by omega))

theorem F_val (n : Nat) (h0 : n ≠ 0) (h : n < 2 ^ 53) : F n = (n.log2 + 1022) * 4503599627370496 + n * 2 ^ (52 - n.log2) ∧ n * 2 ^ (52 - n.log2) < 9007199254740992 ∧ n.log2 < 53 := by
  rw [F_eq]
  have hl : n.log2 < 53 := (Nat.log2_lt h0).2 h
  have h2 := Nat.lt_log2_self (n := n)
  have hK : n * 2 ^ (52 - n.log2) < 9007199254740992 := by
    have : n * 2 ^ (52 - n.log2) < 2 ^ (n.log2 + 1) * 2 ^ (52 - n.log2) := Nat.mul_lt_mul_of_pos_right h2 (Nat.pow_pos (by omega))
    rw [← Nat.pow_add, show n.log2 + 1 + (52 - n.log2) = 53 by omega] at this
    simpa using this
  refine ⟨?_, hK, hl⟩
  unfold Format.nearest
  rw [if_neg h0]
  have e1 : max ((0 : Int) + (n.log2 : Int) - (double.fractionBits : Nat)) double.leastPlace = (n.log2 : Int) - 52 := by
    show max ((0 : Int) + (n.log2 : Int) - 52) (-1074) = _
    omega
  simp only [e1]
  rw [show ((n.log2 : Int) - 52 - 0).toNat = 0 by omega, show (0 - ((n.log2 : Int) - 52)).toNat = 52 - n.log2 by omega, cut_zero, Nat.shiftLeft_eq]
  rw [show ((n.log2 : Int) - 52 - double.leastPlace).toNat = n.log2 + 1022 by rw [dlow]; omega]
  rw [dbin, dinf]
  simp only [Format.word]
  rw [Nat.min_eq_left (by omega)]
  rfl

theorem word_false (f : Format) (r : Nat) : f.word false r = r := rfl

theorem nearest_le (m : Nat) (p : Int) : double.nearest false m p ≤ 9218868437227405312 := by
  unfold Format.nearest
  by_cases h : m = 0
  · rw [if_pos h, word_false]; exact Nat.zero_le _
  · rw [if_neg h]
    simp only []
    rw [word_false, dinf]
    generalize (max (p + (m.log2 : Int) - (double.fractionBits : Nat)) double.leastPlace - double.leastPlace).toNat * double.binade + Toward.even.cut false (m <<< (p - max (p + (m.log2 : Int) - (double.fractionBits : Nat)) double.leastPlace).toNat) (max (p + (m.log2 : Int) - (double.fractionBits : Nat)) double.leastPlace - p).toNat = q
    generalize 9218868437227405312 = I
    exact Nat.min_le_right q I

/-- Rounding does not fall below a whole number that is not above the value. -/
theorem near_ge (b P x : Nat) (h0 : b ≠ 0) (h : b < 2 ^ 53) : F b ≤ double.nearest false (b * 2 ^ P + x) (-(P : Int)) := by
  obtain ⟨hF, hK, hl⟩ := F_val b h0 h
  have hP : 0 < 2 ^ P := Nat.pow_pos (by omega)
  have hM : b * 2 ^ P + x ≠ 0 := by have := Nat.mul_pos (Nat.pos_of_ne_zero h0) hP; omega
  have he1 := Nat.log2_self_le hM
  have he2 := Nat.lt_log2_self (n := b * 2 ^ P + x)
  have hge : b.log2 + P ≤ (b * 2 ^ P + x).log2 := by
    rw [← log2_mul_pow b P h0]
    have h3 : (b * 2 ^ P) ≠ 0 := Nat.mul_ne_zero h0 (by omega)
    have : 2 ^ (b * 2 ^ P).log2 ≤ b * 2 ^ P + x := Nat.le_trans (Nat.log2_self_le h3) (Nat.le_add_right _ _)
    exact (Nat.le_log2 hM).2 this
  unfold Format.nearest
  rw [if_neg hM]
  generalize hm : b * 2 ^ P + x = M at *
  generalize hg : M.log2 = e at *
  have e1 : max (-(P : Int) + (e : Int) - (double.fractionBits : Nat)) double.leastPlace = (e : Int) - P - 52 := by
    show max (-(P : Int) + (e : Int) - 52) (-1074) = _
    omega
  simp only [e1]
  rw [show (-(P : Int) - ((e : Int) - P - 52)).toNat = 52 - e by omega, show ((e : Int) - P - 52 - -(P : Int)).toNat = e - 52 by omega, show ((e : Int) - P - 52 - double.leastPlace).toNat = e - P + 1022 by rw [dlow]; omega]
  rw [dbin, dinf]
  rw [word_false]
  have hkept : 4503599627370496 ≤ Toward.even.cut false (M <<< (52 - e)) (e - 52) ∧ (e = b.log2 + P → b * 2 ^ (52 - b.log2) ≤ Toward.even.cut false (M <<< (52 - e)) (e - 52)) := by
    rcases Nat.lt_or_ge e 52 with hlt | hge2
    · rw [show e - 52 = 0 by omega, cut_zero, Nat.shiftLeft_eq]
      refine ⟨?_, fun heq => ?_⟩
      · have : 2 ^ e * 2 ^ (52 - e) ≤ M * 2 ^ (52 - e) := Nat.mul_le_mul_right _ he1
        rw [← Nat.pow_add, show e + (52 - e) = 52 by omega] at this
        simpa using this
      · have h4 : b * 2 ^ P * 2 ^ (52 - e) ≤ M * 2 ^ (52 - e) := Nat.mul_le_mul_right _ (by omega)
        rw [Nat.mul_assoc, ← Nat.pow_add, show P + (52 - e) = 52 - b.log2 by omega] at h4
        exact h4
    · rw [show 52 - e = 0 by omega, Nat.shiftLeft_zero]
      refine ⟨Nat.le_trans ?_ (cut_ge _ _ _), fun heq => Nat.le_trans ?_ (cut_ge _ _ _)⟩
      · rw [Nat.le_div_iff_mul_le (Nat.pow_pos (by omega))]
        have : 4503599627370496 * 2 ^ (e - 52) = 2 ^ e := by
          rw [show (4503599627370496 : Nat) = 2 ^ 52 by decide, ← Nat.pow_add]; congr 1; omega
        omega
      · rw [Nat.le_div_iff_mul_le (Nat.pow_pos (by omega)), Nat.mul_assoc, ← Nat.pow_add]
        have : b * 2 ^ (52 - b.log2 + (e - 52)) = b * 2 ^ P := by congr 2; omega
        omega
  obtain ⟨k1, k2⟩ := hkept
  generalize Toward.even.cut false (M <<< (52 - e)) (e - 52) = kept at *
  rw [hF]
  generalize b * 2 ^ (52 - b.log2) = KB at *
  rw [Nat.le_min]
  refine ⟨?_, by omega⟩
  rcases Nat.eq_or_lt_of_le hge with h5 | h5
  · have := k2 h5.symm
    omega
  · omega

end Go.Proofs.Ybulkcghm.Flt
