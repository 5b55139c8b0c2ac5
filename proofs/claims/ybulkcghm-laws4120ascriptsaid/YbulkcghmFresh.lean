import Derived.Test.YbulkcghmRefill
namespace Go.Proofs.Ybulkcghm.Lm
open Go.RowKit Go.Deep Go.Proofs.Ybulkcghm.Tm Go.Proofs.Ybulkcghm.Mu Go.Proofs.Ybulkcghm.Flt
set_option linter.unusedVariables false

set_option maxRecDepth 100000 in
set_option maxHeartbeats 1000000 in
theorem unix_any (a b : Int) (ha0 : 0 ≤ a) (ha1 : a < 1073741824) (hb0 : -10000000000 ≤ b) (hb1 : b ≤ 10000000000) : Ret 107 #[.agg #[.int .u64 a, .int .i64 b, .pointer none]] (.int .i64 (b + -62135596800)) := by
  intro w
  have hma := mask63 a ha0 ha1
  go_enter Yba.func107, Yba.ntmps107
  go_wp2
  go_ret
  exact ⟨rfl, al (Below.refl _ w) _⟩

set_option maxRecDepth 100000 in
set_option maxHeartbeats 1000000 in
theorem nanosecond_any (a b : Int) (ha0 : 0 ≤ a) (ha1 : a < 1073741824) : Ret 108 #[.agg #[.int .u64 a, .int .i64 b, .pointer none]] (.int .i64 a) := by
  intro w
  have hma := mask30 a ha0 ha1
  go_enter Yba.func108, Yba.ntmps108
  go_wp2
  go_ret
  exact ⟨rfl, al (Below.refl _ w) _⟩

theorem k1 : floatOfInt .f64 (-52912224764) = 13990612154109657088 := by decide +kernel
theorem k2 : floatOfInt .f64 (-62135596800) = 13991821079929159680 := by decide +kernel
theorem k3 : floatBits .sub .f64 13990612154109657088 13991821079929159680 = some 4756133310153883648 := by decide +kernel
theorem k4 : floatOfInt .f64 854775807 = 4740453587539197952 := by decide +kernel
theorem k5 : floatBits .mul .f64 4756133310153883648 4741671816366391296 = some 4890909195323523914 := by decide +kernel
theorem k6 : floatBits .add .f64 4890909195323523914 4740453587539197952 = some 4890909195324358656 := by decide +kernel

/-- The two boxed times. -/
def Bx (w wx : World) : Prop := wx.heap[w.heap.size]? = some (.cells #[.int .u64 0, .int .i64 0, .pointer none] 31) ∧ wx.heap[w.heap.size + 1]? = some (.cells #[.int .u64 854775807, .int .i64 9223372036, .pointer none] 31) ∧ Below w.heap.size w wx

theorem Bx.step {w v v' : World} (h : Bx w v) (hB : Below v.heap.size v v') : Bx w v' := ⟨blk_below h.1 hB (blk_lt h.1), blk_below h.2.1 hB (blk_lt h.2.1), bt h.2.2 hB⟩
theorem Bx.dr {w v : World} (h : Bx w v) : Bx w v.drew := ⟨h.1, h.2.1, h.2.2.drew⟩

set_option maxHeartbeats 8000000 in
set_option maxRecDepth 100000 in
/-- The longest span: the seconds and the nanoseconds apart. -/
theorem nano_max (r m : Nat) (hr : (FloatKind.f64.format.order r 0 == some .gt) = true) (hm : floatBits .mul .f64 4890909195324358656 r = some m)
    (HS : Hid (Ret 106 #[.agg #[.int .u64 854775807, .int .i64 9223372036, .pointer none], .agg #[.int .u64 0, .int .i64 0, .pointer none]] (.int .i64 9223372036854775807))) :
    Ret 98 #[.float .f64 r, .agg #[.int .u64 0, .int .i64 0, .pointer none], .agg #[.int .u64 854775807, .int .i64 9223372036, .pointer none]] (.float .f64 m) := by
  intro w
  have hmul := fun t (W : World) => run_float_arith (P := Yba.prog) W .mul t .f64 _ _ _ hm
  have h3 := fun t (W : World) => run_float_arith (P := Yba.prog) W .sub t .f64 _ _ _ k3
  have h5 := fun t (W : World) => run_float_arith (P := Yba.prog) W .mul t .f64 _ _ _ k5
  have h6 := fun t (W : World) => run_float_arith (P := Yba.prog) W .add t .f64 _ _ _ k6
  have h1 := k1
  have h2 := k2
  have h4 := k4
  have U1 := hideP (unix_any 854775807 9223372036 (by omega) (by omega) (by omega) (by omega))
  have U2 := hideP (unix_any 0 0 (by omega) (by omega) (by omega) (by omega))
  have N1 := hideP (nanosecond_any 854775807 9223372036 (by omega) (by omega))
  have N2 := hideP (nanosecond_any 0 0 (by omega) (by omega))
  clear hm
  go_enter Yba.func98, Yba.ntmps98
  go_upto_region 5 with (go_at_call 106; refine (HS.out _).mono ?_; rintro e w1 ⟨rfl, hB⟩)
  have HB := hideP (Bx.step (w := w) ⟨blk_alloc (blk_new w _) _, by simpa using blk_new (w.alloc (.cells #[.int .u64 0, .int .i64 0, .pointer none] 31)) (.cells #[.int .u64 854775807, .int .i64 9223372036, .pointer none] 31), al (al (Below.refl _ w) _) _⟩ hB)
  clear hB HS
  have m0 := t0 HB.out.1
  have m1 := t1 HB.out.1
  have m2 := t2 HB.out.1
  have n0 := t0 HB.out.2.1
  have n1 := t1 HB.out.2.1
  have n2 := t2 HB.out.2.1
  go_cut [8] (fun s8 wx => s8 = .float .f64 4756133310153883648 ∧ Bx w wx)
  case first =>
    go_region_with (first
      | (go_at_call 107; refine (U1.out _).mono ?_; rintro e w2 ⟨rfl, hB⟩; have HB1 := hideP (Bx.step (Bx.dr HB.out) hB); clear hB; have m0 := t0 HB1.out.1; have m1 := t1 HB1.out.1; have m2 := t2 HB1.out.1)
      | (go_at_call 107; refine (U2.out _).mono ?_; rintro e w3 ⟨rfl, hB⟩; have HB2 := hideP (Bx.step HB1.out hB); clear hB))
    all_goals
      go_wp2_with fail
      go_meet
      exact ⟨rfl, HB2.out⟩
  case rest =>
    obtain ⟨rfl, hb⟩ := hcut
    clear HB m0 m1 m2 n0 n1 n2 U1 U2
    have HB := hideP hb
    clear hb
    have m0 := t0 HB.out.1
    have m1 := t1 HB.out.1
    have m2 := t2 HB.out.1
    have n0 := t0 HB.out.2.1
    have n1 := t1 HB.out.2.1
    have n2 := t2 HB.out.2.1
    go_wp2_with fail
    go_region_with (first
      | (go_at_call 108; refine (N1.out _).mono ?_; rintro e w2 ⟨rfl, hB⟩; have HB1 := hideP (Bx.step (Bx.dr HB.out) hB); clear hB; have m0 := t0 HB1.out.1; have m1 := t1 HB1.out.1; have m2 := t2 HB1.out.1)
      | (go_at_call 108; refine (N2.out _).mono ?_; rintro e w3 ⟨rfl, hB⟩; have HB2 := hideP (Bx.step HB1.out hB); clear hB))
    all_goals
      go_wp2_with fail
      go_ret
      exact ⟨rfl, HB2.out.2.2⟩

/-- Whatever the span from the zero time on: a number that is not negative. -/
theorem nano_nn (t : Int) (q : Nat) (hq : q ≤ 10) (h0 : 0 ≤ t) (h1 : t ≤ 9223372036854775807) : ∃ G, G ≤ 9218868437227405312 ∧ Ret 98 #[.float .f64 (F q), tv 0, tv t] (.float .f64 G) := by
  by_cases hq0 : q = 0
  · subst hq0
    exact ⟨_, F_le _, nano0 0 t (by omega) h1 (by omega) (by omega)⟩
  · by_cases ht0 : t = 0
    · subst ht0
      exact ⟨_, F_le _, nano_no 0 q (by omega) (by omega) (by omega) (by omega)⟩
    · by_cases htm : t = 9223372036854775807
      · subst htm
        obtain ⟨G, hG, hG1⟩ := nn_mul 4890909195324358656 q (by omega) (by omega) (by omega)
        refine ⟨G, hG1, ?_⟩
        have := sub_eq 0 9223372036854775807 9223372036854775807 (by omega) (by omega) (by omega) (by omega) (by rw [if_neg (by omega), if_pos (by omega)]; omega)
        exact nano_max (F q) G (pos_F q (by omega) (by omega)) hG this
      · obtain ⟨G, hG, hG1⟩ := nn_mul (F t.toNat) q (F_le _) (by omega) (by omega)
        refine ⟨G, hG1, nano_mul _ _ _ _ t (F q) G (F t.toNat) (fo_int t h0) (pos_F q (by omega) (by omega)) (by simp [ht0]) (by simp [htm]) (by simp; omega) hG (sub_eq 0 t t (by omega) h1 (by omega) (by omega) ?_)⟩
        rw [if_neg (by omega), if_pos (by omega)]; omega

end Go.Proofs.Ybulkcghm.Lm
