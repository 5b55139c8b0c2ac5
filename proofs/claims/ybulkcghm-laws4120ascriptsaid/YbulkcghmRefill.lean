import Derived.Test.YbulkcghmAtF
import Derived.Test.YbulkcghmMin
namespace Go.Proofs.Ybulkcghm.Lm
open Go.RowKit Go.Deep Go.Proofs.Ybulkcghm.Tm Go.Proofs.Ybulkcghm.Mu Go.Proofs.Ybulkcghm.Flt
set_option linter.unusedVariables false

theorem OnlyL.toBelow {L : Nat} {w v w' : World} (h : Below w.heap.size w v) (hL : w.heap.size ≤ L) (hO : OnlyL L v w') : Below w.heap.size w w' :=
  h.trans ⟨hO.os, hO.tape, hO.output, hO.size, fun k hk => hO.block k (Nat.lt_of_lt_of_le hk h.size) (by omega)⟩

theorem sub_eq (z t D : Int) (h10 : -9223372036854775808 ≤ t) (h11 : t ≤ 9223372036854775807) (h00 : -9223372036854775808 ≤ z) (h01 : z ≤ 9223372036854775807)
    (hD : (if t - z < -9223372036854775808 then -9223372036854775808 else if t - z ≤ 9223372036854775807 then t - z else 9223372036854775807) = D) :
    Ret 106 #[.agg #[.int .u64 (t % 1000000000), .int .i64 (t / 1000000000), .pointer none], .agg #[.int .u64 (z % 1000000000), .int .i64 (z / 1000000000), .pointer none]] (.int .i64 D) := by
  intro w
  have := sub_any t z w h10 h11 h00 h01
  rw [hD] at this
  exact this

/-- Rate nought earns nothing. -/
theorem nano0 (z t : Int) (h10 : -9223372036854775808 ≤ t) (h11 : t ≤ 9223372036854775807) (h00 : -9223372036854775808 ≤ z) (h01 : z ≤ 9223372036854775807) : Ret 98 #[.float .f64 (F 0), tv z, tv t] (.float .f64 (F (0 * 1000000000))) := by
  rw [Nat.zero_mul, F_zero]
  exact nano_none _ _ _ _ _ 0 pos_zero (sub_eq z t _ h10 h11 h00 h01 rfl)

/-- No time earns nothing. -/
theorem nano_no (z : Int) (q : Nat) (hq0 : 0 < q) (hq : q < 2 ^ 53) (h00 : -9223372036854775808 ≤ z) (h01 : z ≤ 9223372036854775807) : Ret 98 #[.float .f64 (F q), tv z, tv z] (.float .f64 (F (0 * 1000000000))) := by
  rw [Nat.zero_mul, F_zero]
  refine nano_same _ _ _ _ (F q) (pos_F q hq0 hq) (sub_eq z z 0 h00 h01 h00 h01 ?_)
  rw [if_neg (by omega), if_pos (by omega)]; omega

/-- Whole seconds from the zero time. -/
theorem nano_sec (s q : Nat) (hs : s ≤ 2000) (hq0 : 0 < q) (hq : q ≤ 10) : Ret 98 #[.float .f64 (F q), tv 0, tv ((s : Int) * 1000000000)] (.float .f64 (F (s * q * 1000000000))) := by
  by_cases h0 : s = 0
  · subst h0
    simp only [Nat.zero_mul]
    have := nano_no 0 q hq0 (by omega) (by omega) (by omega)
    simpa using this
  · refine nano_mul _ _ _ _ ((s : Int) * 1000000000) (F q) (F (s * q * 1000000000)) (F (s * 1000000000)) ?_ (pos_F q hq0 (by omega)) (by simp; omega) (by simp; omega) (by simp; omega) ?_ (sub_eq 0 ((s : Int) * 1000000000) _ (by omega) (by omega) (by omega) (by omega) ?_)
    · have : ((s : Int) * 1000000000) = ((s * 1000000000 : Nat) : Int) := by omega
      rw [this]; exact fo _
    · have := F_mul (s * 1000000000) q (by omega) (by omega)
      rw [show s * 1000000000 * q = s * q * 1000000000 by rw [Nat.mul_assoc, Nat.mul_comm 1000000000 q, ← Nat.mul_assoc]] at this
      exact this
    · rw [if_neg (by omega), if_pos (by omega)]; omega

set_option maxHeartbeats 8000000 in
set_option maxRecDepth 100000 in
theorem refill_any (bu rs sc n : Int) (b s q : Nat) (hbu0 : 0 ≤ bu) (hbu1 : bu ≤ 65535) (hrs0 : 0 ≤ rs) (hrs1 : rs ≤ 255) (hsc0 : 0 ≤ sc) (hsc1 : sc ≤ 65535) (hn0 : -9223372036854775808 ≤ n) (hn1 : n ≤ 9223372036854775807)
    (hb : 1 + bu % 1000 = (b : Int)) (hs : sc % 2001 = (s : Int)) (w : World) (hq : (rs % 4 = 0 ∧ q = 1) ∨ (rs % 4 = 1 ∧ q = 2) ∨ (rs % 4 = 2 ∧ q = 4) ∨ (rs % 4 = 3 ∧ q = 10)) :
    Calls Yba.prog 5 #[.int .u16 bu, .int .u8 rs, .int .u16 sc, .int .i64 n] w fun e w' => e = .returned (.bool true) ∧ Below w.heap.size w w' := by
  have hb1 : 1 ≤ b := by omega
  have hb2 : b ≤ 1000 := by omega
  have hs2 : s ≤ 2000 := by omega
  have hq0 : 0 < q := by omega
  have hq1 : q ≤ 10 := by omega
  have hfq : floatOfInt .f64 (q : Int) = F q := fo q
  have hsq : s * q ≤ 20000 := Nat.le_trans (Nat.mul_le_mul hs2 hq1) (by omega)
  -- the first take
  have HA1 : Hid (∀ (L : Nat) (w : World), Lim w L 0 (F q) (b : Int) (F b) 0 0 (F b) 0 → Calls Yba.prog 12 #[.pointer (some ⟨L, 0, none⟩), .agg #[.int .u64 0, .int .i64 0, .pointer none], .int .i64 (b : Int)] w fun e w' => e = .returned (.int .i64 (b : Int)) ∧ OnlyL L w w' ∧ Lim w' L 0 (F q) (b : Int) (F 0) 0 0 (F 0) 0) := fun L w h => by
    have hat := at_F b 0 b 0 0 (F q) (by omega) (by omega) (by omega) (nano_no 0 q hq0 (by omega) (by omega) (by omega))
    rw [Nat.add_zero, Nat.min_self] at hat
    have := avail_fin (L := L) 0 0 (b : Int) w h (by simp) hat (by omega) (by omega) (Nat.le_refl _) (Nat.le_refl _)
    rw [if_neg (by omega), if_neg (by omega)] at this
    refine this.mono ?_
    rintro e w' ⟨rfl, hO, hc⟩
    refine ⟨rfl, hO, ?_⟩
    rcases hc with ⟨h1 | h1, _⟩ | ⟨_, _, _, hl⟩ | ⟨_, _, h1, _⟩
    · omega
    · omega
    · simpa using hl
    · exact absurd rfl h1
  -- the second take
  have HA2 : Hid (∀ (L : Nat) (w : World), Lim w L 0 (F q) (b : Int) (F 0) 0 0 (F 0) 0 → Calls Yba.prog 12 #[.pointer (some ⟨L, 0, none⟩), tv ((s : Int) * 1000000000), .int .i64 n] w fun e w' => e = .returned (.int .i64 (if n ≤ 0 then 0 else if n < ((min (s * q) b : Nat) : Int) then n else ((min (s * q) b : Nat) : Int))) ∧ OnlyL L w w') := fun L w h => by
    have hat := at_F 0 (s * q) b 0 ((s : Int) * 1000000000) (F q) (by omega) (by omega) (by omega) (nano_sec s q hs2 hq0 hq1)
    rw [Nat.zero_add] at hat
    have := avail_fin (L := L) ((s : Int) * 1000000000) ((s : Int) * 1000000000) n w h (by rw [if_neg (by omega)]) hat (by omega) (by omega) (by omega) (by omega)
    refine this.mono ?_
    rintro e w' ⟨rfl, hO, _⟩
    exact ⟨rfl, hO⟩
  obtain ⟨m, hm⟩ : ∃ m : Int, (if n ≤ 0 then 0 else if n < ((min (s * q) b : Nat) : Int) then n else ((min (s * q) b : Nat) : Int)) = m := ⟨_, rfl⟩
  rw [hm] at HA2
  have HN : Hid (∀ w, _) := fun w => new_any (F q) (F b) (b : Int) w (fo b)
  have HD : Hid (∀ w, _) := fun w => add_any ((s : Int) * 1000000000) w (by omega) (by omega)
  have HM : Hid (∀ x y w, _) := fun x y w => amin_any x y w
  simp only [tv, tc] at HA2 HD
  obtain ⟨d, hd⟩ : ∃ d : Int, (s : Int) * 1000000000 = d := ⟨_, rfl⟩
  obtain ⟨v, hv⟩ : ∃ v : Int, (s : Int) * (q : Int) = v := ⟨_, rfl⟩
  have hv0 : 0 ≤ v := by rw [← hv]; exact Int.mul_nonneg (by omega) (by omega)
  have hv1 : v ≤ 20000 := by rw [← hv, ← Int.natCast_mul]; omega
  have hvn : v = ((s * q : Nat) : Int) := by rw [← hv, Int.natCast_mul]
  rw [hd] at HA2 HD
  obtain ⟨da, hda⟩ : ∃ x, d % 1000000000 = x := ⟨_, rfl⟩
  obtain ⟨db, hdb⟩ : ∃ x, d / 1000000000 = x := ⟨_, rfl⟩
  rw [hda, hdb] at HA2 HD
  have hd0 : 0 ≤ d := by omega
  have hd1 : d ≤ 2000000000000 := by omega
  have HX : Hid ((n ≤ 0 → m = 0) ∧ (0 < n → m ≤ n ∧ m ≤ v ∧ m ≤ b ∧ (m = n ∨ m = v ∨ m = b))) := by
    refine ⟨fun h => ?_, fun h => ?_⟩
    · rw [if_pos h] at hm; omega
    · rw [if_neg (by omega)] at hm
      split at hm <;> omega
  clear hvn hda hdb hsq hm
  go_enter Yba.func5, Yba.ntmps5
  go_upto_region 3 with (fail)
  go_cut [11] (fun s11 wx => s11 = .int .i64 (q : Int) ∧ wx = w.alloc (.cells #[.int .i64 1, .int .i64 2, .int .i64 4, .int .i64 10] 42))
  case first =>
    rcases hq with ⟨h1, h2⟩ | ⟨h1, h2⟩ | ⟨h1, h2⟩ | ⟨h1, h2⟩
    all_goals
      go_wp2_with fail
      go_meet
      subst h2
      exact ⟨rfl, rfl⟩
  case rest =>
    obtain ⟨rfl, rfl⟩ := hcut
    clear hq hbu0 hbu1 hrs0 hrs1 hb hs2 hq0 hq1 hb1 hb2
    go_wp2_with fail
    refine (HN.out _).mono ?_
    rintro e w2 ⟨rfl, hB2, hsz, hl⟩
    have B2 := bt (al (Below.refl _ w) (.cells #[.int .i64 1, .int .i64 2, .int .i64 4, .int .i64 10] 42)) hB2
    obtain ⟨L, hLdef⟩ : ∃ L, (w.alloc (.cells #[.int .i64 1, .int .i64 2, .int .i64 4, .int .i64 10] 42)).heap.size = L := ⟨_, rfl⟩
    rw [hLdef] at hl hsz ⊢
    have hLw : w.heap.size ≤ L := by rw [← hLdef]; simp
    clear hB2 hLdef
    have HI := hideP hl
    have B2' := hideP B2
    have hlt := blk_lt hl
    clear hl B2
    go_wp2_with fail
    refine (HA1.out _ _ (blk_alloc HI.out _)).mono ?_
    rintro e w3 ⟨rfl, hO, hl3⟩
    have b13 := (hO.block w2.heap.size (by simp) (by omega)).trans (blk_new w2 _)
    have B3 := hideP (OnlyL.toBelow (al B2'.out _) hLw hO)
    have HI3 := hideP hl3
    have k0 : w3.cell? ⟨w2.heap.size, 0, none⟩ = some (.int .u64 0) := blk_cell b13 rfl
    have k1 : w3.cell? ⟨w2.heap.size, 1, none⟩ = some (.int .i64 0) := blk_cell b13 rfl
    have k2 : w3.cell? ⟨w2.heap.size, 2, none⟩ = some (.pointer none) := blk_cell b13 rfl
    clear hO hl3 b13 HA1 HN HI B2'
    go_wp2_with (first | (go_at_call 11; refine (HD.out _).mono ?_; rintro e w4 ⟨rfl, rfl⟩) | (go_at_call 13; refine (HM.out _ _ _).mono ?_; rintro e w5 ⟨rfl, rfl⟩))
    all_goals
      refine (HA2.out _ _ (blk_alloc (blk_alloc (blk_alloc HI3.out _) _) _)).mono ?_
      rintro e w6 ⟨rfl, hO⟩
      have B6 := hideP (OnlyL.toBelow (al (al (al B3.out _) _) _) hLw hO)
      clear hO HA2 HD k0 k1 k2 HI3 B3
      go_wp2_with fail
      go_ret
      refine ⟨?_, B6.out⟩
      obtain ⟨x1, x2⟩ := HX.out
      congr 2
      first
        | (rw [beq_iff_eq]; omega)
        | (simp; omega)

end Go.Proofs.Ybulkcghm.Lm
