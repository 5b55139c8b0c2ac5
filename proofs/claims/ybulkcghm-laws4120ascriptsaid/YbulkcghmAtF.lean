import Derived.Test.YbulkcghmTok
import Derived.Test.YbulkcghmTkAt
import Derived.Test.YbulkcghmFltD
namespace Go.Proofs.Ybulkcghm.Lm
open Go.RowKit Go.Deep Go.Extern Go.Proofs.Ybulkcghm.Tm Go.Proofs.Ybulkcghm.Mu Go.Proofs.Ybulkcghm.Flt
set_option linter.unusedVariables false

theorem pick_inf (x y : Nat) (w : World) (m' : Nat) (e' : Int) (ha : FloatKind.f64.decode x = .infinity false) (hb : FloatKind.f64.decode y = .number false m' e') :
    (MathDim.pick "math.archMin" true .lt #[.float .f64 x, .float .f64 y]).run Yba.prog w = .ok (.float .f64 y) w := by
  show Sem.run Yba.prog (pure (Value.float .f64 _)) w = _
  rw [ha, hb]
  rw [if_neg (show ¬ ((Ieee.Datum.infinity false == Ieee.Datum.infinity true || Ieee.Datum.number false m' e' == Ieee.Datum.infinity true) = true) from fun h => by cases h)]
  rw [if_neg (show ¬ (((Ieee.Datum.infinity false).isNaN || (Ieee.Datum.number false m' e').isNaN) = true) from fun h => by cases h)]
  rw [if_neg (show ¬ ((Ieee.Datum.infinity false).isZero && (Ieee.Datum.number false m' e').isZero) = true from fun h => by cases h)]
  rfl

attribute [local go_sem] call99 in
set_option maxRecDepth 100000 in
theorem min_inf (x y : Nat) (w : World) (m' : Nat) (e' : Int) (ha : FloatKind.f64.decode x = .infinity false) (hb : FloatKind.f64.decode y = .number false m' e') :
    Calls Yba.prog 78 #[.float .f64 x, .float .f64 y] w fun r w' => r = .returned (.float .f64 y) ∧ w' = w := by
  have hp := fun W => pick_inf x y W m' e' ha hb
  clear ha hb
  go_enter Yba.func78, Yba.ntmps78
  go_wp2_with fail
  go_ret
  exact ⟨rfl, rfl⟩

/-- math.Min of a number not below a whole one: the whole one. -/
theorem min_ge (S b : Nat) (hb : b < 2 ^ 53) (hS : S ≤ 9218868437227405312) (hge : F b ≤ S) (w : World) :
    Calls Yba.prog 78 #[.float .f64 S, .float .f64 (F b)] w fun r w' => r = .returned (.float .f64 (F b)) ∧ w' = w := by
  obtain ⟨j, hj⟩ := read_F b hb
  rcases nn_read S hS with ⟨m, e, h1⟩ | h1
  · have h := min_any S (F b) w m (b * 2 ^ j) e (-(j : Int)) h1 hj
    have ho := order_ge hge (by have := F_lt b hb; omega) hS
    simp only [Ieee.Format.order, h1, hj] at ho
    simp only [ho, Bool.false_eq_true, if_false] at h
    exact h
  · exact min_inf S (F b) w _ _ h1 hj

theorem min_FF (a b : Nat) (ha : a < 2 ^ 52) (hb : b < 2 ^ 53) (w : World) :
    Calls Yba.prog 78 #[.float .f64 (F a), .float .f64 (F b)] w fun r w' => r = .returned (.float .f64 (F (min a b))) ∧ w' = w := by
  obtain ⟨i, hi⟩ := read_F a (by omega)
  obtain ⟨j, hj⟩ := read_F b hb
  have h := min_any (F a) (F b) w _ _ _ _ hi hj
  have ho := lt_any a b ha
  simp only [Ieee.Format.order, hi, hj] at ho
  simp only [ho] at h
  have e : (if decide (a < b) = true then F a else F b) = F (min a b) := by
    by_cases hc : a < b
    · rw [if_pos (by simp [hc]), Nat.min_eq_left (by omega)]
    · rw [if_neg (by simp [hc]), Nat.min_eq_right (by omega)]
  rw [e] at h
  exact h

theorem add0 (g : Nat) (h : g < 2 ^ 53) : floatBits .add .f64 0 (F g) = some (F g) := by
  have := F_add 0 g (by omega) h
  rw [F_zero, Nat.zero_add] at this
  exact this

/-- The balance where all comes out whole. -/
theorem at_F (k v b : Nat) (z t' : Int) (r : Nat) (hv : v * 1000000000 < 2 ^ 53) (hk : k + v < 2 ^ 52) (hb : b < 2 ^ 53)
    (HN : Ret 98 #[.float .f64 r, tv z, tv t'] (.float .f64 (F (v * 1000000000)))) : Ret 50 (atArgs (F k) z t' r (b : Int)) (.float .f64 (F (min (k + v) b))) := by
  have HE := earned_any (t' % 1000000000) (t' / 1000000000) (z % 1000000000) (z / 1000000000) (F k) 0 r (F (v * 1000000000)) (F (v * 1000000000)) (add0 _ hv) HN
  refine at_core (t' % 1000000000) (t' / 1000000000) (z % 1000000000) (z / 1000000000) (b : Int) (F k) 0 r (F (v * 1000000000)) (F v) (F (k + v)) (F b) (F (min (k + v) b)) (fo b) ?_ ?_ HE (fun w => min_FF (k + v) b hk hb w)
  · have := F_div v 1000000000 (by omega) hv (by omega)
    rw [F_giga] at this
    exact this
  · exact F_add k v (by omega) (by omega)

/-- The balance of a bucket that stood full. -/
theorem at_full (b G : Nat) (z t' : Int) (r : Nat) (hb : b < 2 ^ 53) (hG : G ≤ 9218868437227405312)
    (HN : Ret 98 #[.float .f64 r, tv z, tv t'] (.float .f64 G)) : Ret 50 (atArgs (F b) z t' r (b : Int)) (.float .f64 (F b)) := by
  obtain ⟨E, hE, hE1, _⟩ := nn_add 0 G (by omega) hG
  rw [F_zero] at hE
  obtain ⟨Q, hQ, hQ1⟩ := nn_quo E hE1
  obtain ⟨S, hS, hS1, hS2⟩ := nn_add b Q hb hQ1
  have HE := earned_any (t' % 1000000000) (t' / 1000000000) (z % 1000000000) (z / 1000000000) (F b) 0 r G E hE HN
  exact at_core (t' % 1000000000) (t' / 1000000000) (z % 1000000000) (z / 1000000000) (b : Int) (F b) 0 r E Q S (F b) (F b) (fo b) hQ hS HE (fun w => min_ge S b hb hS1 hS2 w)

theorem tokR {r : Nat} {n : Int} {T : Nat} {z l t t' : Int} {A : Nat} (ht : (if t < l then l else t) = t') (HA : Ret 50 (atArgs T z t' r n) (.float .f64 A)) : TokR r n T z l t t' A :=
  fun L mu T2 z2 w h => tokensAt_any L mu r n T z l T2 z2 t t' A w h ht HA

/-- TakeAvailable at a finite rate, in whole numbers. -/
theorem avail_fin {L : Nat} {b k a q : Nat} {z l : Int} (t t' n : Int) (w : World) (h : Lim w L 0 (F q) (b : Int) (F k) z l (F k) z) (ht : (if t < l then l else t) = t')
    (HA : Ret 50 (atArgs (F k) z t' (F q) (b : Int)) (.float .f64 (F a))) (hq : q < 2 ^ 53) (hb : b < 2 ^ 52) (hk : k ≤ b) (ha : a ≤ b) :
    Calls Yba.prog 12 #[.pointer (some ⟨L, 0, none⟩), tv t, .int .i64 n] w fun e w' => e = .returned (.int .i64 (if n ≤ 0 then 0 else if n < (a : Int) then n else (a : Int))) ∧ OnlyL L w w' ∧
      (((n ≤ 0 ∨ a = 0) ∧ Lim w' L 0 (F q) (b : Int) (F k) z l (F k) z) ∨
       (0 < n ∧ 0 < a ∧ a = b ∧ Lim w' L 0 (F q) (b : Int) (F (b - (if n < (a : Int) then n else (a : Int)).toNat)) t' t' (F (b - (if n < (a : Int) then n else (a : Int)).toNat)) t') ∨
       (0 < n ∧ 0 < a ∧ a ≠ b ∧ ∃ T', (a ≤ k → T' = F (k - (if n < (a : Int) then n else (a : Int)).toNat)) ∧ Lim w' L 0 (F q) (b : Int) T' z t' T' z)) := by
  by_cases hn : n ≤ 0
  · rw [if_pos hn]
    refine (avail_none L t n w hn).mono ?_
    rintro e w' ⟨rfl, hB⟩
    exact ⟨rfl, Below.only hB, Or.inl ⟨Or.inl hn, h.below hB⟩⟩
  · rw [if_neg hn]
    have HT := tokR ht HA
    have hA1 : (FloatKind.f64.format.order (F a) 4607182418800017408 == some .lt) = decide (a < 1) := by
      have := lt_any a 1 (by omega)
      rw [F_one] at this
      exact this
    by_cases ha0 : a = 0
    · subst ha0
      rw [if_neg (by omega)]
      refine (avail_low t t' n (F 0) w (by omega) h (lim_fin q hq) (by rw [hA1]; rfl) HT).mono ?_
      rintro e w' ⟨rfl, hl, hO⟩
      exact ⟨rfl, hO, Or.inl ⟨Or.inr rfl, hl⟩⟩
    · have hA1' : (FloatKind.f64.format.order (F a) 4607182418800017408 == some .lt) = false := by rw [hA1]; simp; omega
      obtain ⟨m, hm⟩ : ∃ m : Int, (if n < (a : Int) then n else (a : Int)) = m := ⟨_, rfl⟩
      rw [hm]
      have hm0 : 0 < m := by split at hm <;> omega
      have hma : m.toNat ≤ a := by split at hm <;> omega
      have hlt : (FloatKind.f64.format.order (F a) (floatOfInt .f64 n) == some .lt) = decide ((a : Int) < n) := by
        rw [fo_int n (by omega)]
        have := lt_any a n.toNat (by omega)
        rw [show decide ((a : Int) < n) = decide (a < n.toNat) by rw [decide_eq_decide]; omega]
        exact this
      have hmm : ((FloatKind.f64.format.order (F a) (floatOfInt .f64 n) == some .lt) = true ∧ floatToIntVal .f64 (F a) .i64 = some m) ∨ ((FloatKind.f64.format.order (F a) (floatOfInt .f64 n) == some .lt) = false ∧ n = m) := by
        rw [hlt]
        by_cases hc : (a : Int) < n
        · refine Or.inl ⟨by simp [hc], ?_⟩
          rw [if_neg (by omega)] at hm
          rw [← hm]; exact toInt_F a (by omega)
        · refine Or.inr ⟨by simp [hc], ?_⟩
          split at hm <;> omega
      have hN : floatOfInt .f64 m = F m.toNat := fo_int m (by omega)
      have heq : (FloatKind.f64.format.order (F a) (F b) == some .eq) = decide (a = b) := eq_any a b (by omega) (by omega)
      by_cases hab : a = b
      · have hT : TakeR (F k) z t' (F a) (F b) (F m.toNat) (F (b - m.toNat)) t' := Or.inl ⟨by rw [heq]; simp [hab], F_sub b m.toNat (by omega) (by omega), rfl⟩
        refine (avail_take t t' n m (F a) (F b) (F m.toNat) (F (b - m.toNat)) t' w (by omega) h (lim_fin q hq) hA1' HT hmm (fo b) hN hT HA).mono ?_
        rintro e w' ⟨rfl, hl, hO⟩
        exact ⟨rfl, hO, Or.inr (Or.inl ⟨by omega, by omega, hab, hl⟩)⟩
      · obtain ⟨D, hD⟩ := sub_some k m.toNat (by omega) (by omega)
        have hT : TakeR (F k) z t' (F a) (F b) (F m.toNat) D z := Or.inr ⟨by rw [heq]; simp [hab], hD, rfl⟩
        refine (avail_take t t' n m (F a) (F b) (F m.toNat) D z w (by omega) h (lim_fin q hq) hA1' HT hmm (fo b) hN hT HA).mono ?_
        rintro e w' ⟨rfl, hl, hO⟩
        refine ⟨rfl, hO, Or.inr (Or.inr ⟨by omega, by omega, hab, D, fun hak => ?_, hl⟩)⟩
        have := F_sub k m.toNat (by omega) (by omega)
        rw [hD] at this
        exact Option.some.inj this

end Go.Proofs.Ybulkcghm.Lm
