import Derived.Test.YbulkcghmFresh2
namespace Go.Proofs.Ybulkcghm.Lm
open Go.RowKit Go.Deep Go.Proofs.Ybulkcghm.Tm Go.Proofs.Ybulkcghm.Mu Go.Proofs.Ybulkcghm.Flt
set_option linter.unusedVariables false

theorem ord_max : FloatKind.f64.format.order 9218868437227405311 9218868437227405311 = some .eq := by decide +kernel

/-- TakeAvailable at the rate Inf. -/
theorem inf_take {L : Nat} {n : Int} {T : Nat} {z l : Int} {T2 : Nat} {z2 : Int} (t k : Int) (w : World) (h : Lim w L 0 9218868437227405311 n T z l T2 z2) :
    Calls Yba.prog 12 #[.pointer (some ⟨L, 0, none⟩), tv t, .int .i64 k] w fun e w' => e = .returned (.int .i64 (if k ≤ 0 then 0 else k)) ∧ OnlyL L w w' := by
  by_cases hk : k ≤ 0
  · rw [if_pos hk]
    refine (avail_none L t k w hk).mono ?_
    rintro e w' ⟨rfl, hB⟩
    exact ⟨rfl, Below.only hB⟩
  · rw [if_neg hk]
    refine (avail_inf t k w (by omega) h lim_inf).mono ?_
    rintro e w' ⟨rfl, _, hO⟩
    exact ⟨rfl, hO⟩

attribute [local go_sem] run_store_float in
set_option maxHeartbeats 2000000 in
set_option maxRecDepth 100000 in
theorem fresh_inf (bu rs n dt : Int) (b : Nat) (hbu0 : 0 ≤ bu) (hbu1 : bu ≤ 65535) (hrs0 : 0 ≤ rs) (hrs1 : rs ≤ 255) (hn0 : -9223372036854775808 ≤ n) (hn1 : n ≤ 9223372036854775807) (h0 : -9223372036854775808 ≤ dt) (h1 : dt ≤ 9223372036854775807)
    (hb : bu % 1001 = (b : Int)) (w : World) (hq : rs % 4 = 3) :
    Calls Yba.prog 3 #[.int .u16 bu, .int .u8 rs, .int .i64 n, .int .i64 dt] w fun e w' => e = .returned (.bool true) ∧ Below w.heap.size w w' := by
  obtain ⟨m, hm⟩ : ∃ m : Int, (if n ≤ 0 then 0 else n) = m := ⟨_, rfl⟩
  have HA1 := hideP (fun (L : Nat) (w : World) (h : Lim w L 0 9218868437227405311 (b : Int) (F b) 0 0 (F b) 0) => inf_take dt n w h)
  have HN : Hid (∀ w, _) := fun w => new_any 9218868437227405311 (F b) (b : Int) w (fo b)
  have HD : Hid (∀ w, _) := fun w => add_any dt w h0 h1
  have hi := ord_max
  simp only [tv, tc] at HA1 HD
  rw [hm] at HA1
  obtain ⟨da, hda⟩ : ∃ x, dt % 1000000000 = x := ⟨_, rfl⟩
  obtain ⟨db, hdb⟩ : ∃ x, dt / 1000000000 = x := ⟨_, rfl⟩
  rw [hda, hdb] at HA1 HD
  have hm0 : Hid ((n ≤ 0 → m = 0) ∧ (0 < n → m = n)) := ⟨fun h => by rw [if_pos h] at hm; exact hm.symm, fun h => by rw [if_neg (by omega)] at hm; exact hm.symm⟩
  clear hda hdb hm
  go_enter Yba.func3, Yba.ntmps3
  go_upto_region 3 with (fail)
  go_cut [11] (fun s11 wx => s11 = .float .f64 9218868437227405311 ∧ wx = w.alloc (.cells #[.float .f64 0, .float .f64 4607182418800017408, .float .f64 4621819117588971520, .float .f64 9218868437227405311] 25))
  case first =>
    go_wp2_with fail
    go_meet
    exact ⟨rfl, rfl⟩
  case rest =>
    obtain ⟨rfl, rfl⟩ := hcut
    rw [hb]
    clear hq hbu0 hbu1 hrs0 hrs1 hb
    go_wp2_with fail
    refine (HN.out _).mono ?_
    rintro e w2 ⟨rfl, hB2, hsz, hl⟩
    have B2 := bt (al (Below.refl _ w) (.cells #[.float .f64 0, .float .f64 4607182418800017408, .float .f64 4621819117588971520, .float .f64 9218868437227405311] 25)) hB2
    obtain ⟨L, hLdef⟩ : ∃ L, (w.alloc (.cells #[.float .f64 0, .float .f64 4607182418800017408, .float .f64 4621819117588971520, .float .f64 9218868437227405311] 25)).heap.size = L := ⟨_, rfl⟩
    rw [hLdef] at hl hsz ⊢
    have hLw : w.heap.size ≤ L := by rw [← hLdef]; simp
    clear hB2 hLdef
    have HI := hideP hl
    have B2' := hideP B2
    clear hl B2
    go_wp2_with (go_at_call 11; refine (HD.out _).mono ?_; rintro e w4 ⟨rfl, rfl⟩)
    refine (HA1.out _ _ (blk_alloc (blk_alloc (blk_alloc HI.out _) _) _)).mono ?_
    rintro e w3 ⟨rfl, hO⟩
    have B3 := hideP (OnlyL.toBelow (al (al (al B2'.out _) _) _) hLw hO)
    clear hO HA1 HN HI B2' HD
    by_cases hn : 0 < n
    · have hz := hm0.out.2 hn
      subst hz
      clear hm0
      go_wp2_with fail
      go_ret
      exact ⟨rfl, B3.out⟩
    · have hz := hm0.out.1 (by omega)
      subst hz
      clear hm0
      go_wp2_with fail
      go_ret
      exact ⟨rfl, B3.out⟩

end Go.Proofs.Ybulkcghm.Lm
