import Derived.Test.YbulkcghmFresh
namespace Go.Proofs.Ybulkcghm.Lm
open Go.RowKit Go.Deep Go.Proofs.Ybulkcghm.Tm Go.Proofs.Ybulkcghm.Mu Go.Proofs.Ybulkcghm.Flt
set_option linter.unusedVariables false

/-- What a fresh limiter holds behind its first take. -/
def Took (w : World) (L q b : Nat) (dt t' : Int) (x : Nat) : Prop := ∃ (T' : Nat) (z' l' : Int), Lim w L 0 (F q) (b : Int) T' z' l' T' z' ∧ TokR (F q) (b : Int) T' z' l' dt t' (F x)

theorem fresh_take {L b q : Nat} (hb : b ≤ 1000) (hq : q ≤ 10) (n dt t' : Int) (ht : (if dt < 0 then 0 else dt) = t') (h0 : -9223372036854775808 ≤ dt) (h1 : dt ≤ 9223372036854775807) (m : Int)
    (hm : (if n ≤ 0 then 0 else if n < (b : Int) then n else (b : Int)) = m) (w : World) (h : Lim w L 0 (F q) (b : Int) (F b) 0 0 (F b) 0) :
    Calls Yba.prog 12 #[.pointer (some ⟨L, 0, none⟩), tv dt, .int .i64 n] w fun e w' => e = .returned (.int .i64 m) ∧ OnlyL L w w' ∧ Took w' L q b dt t' (b - m.toNat) := by
  have ht0 : 0 ≤ t' := by split at ht <;> omega
  have ht1 : t' ≤ 9223372036854775807 := by split at ht <;> omega
  obtain ⟨G, hG, HN⟩ := nano_nn t' q hq ht0 ht1
  have hat := at_full b G 0 t' (F q) (by omega) hG HN
  have := avail_fin (L := L) dt t' n w h ht hat (by omega) (by omega) (Nat.le_refl _) (Nat.le_refl _)
  rw [hm] at this
  refine this.mono ?_
  rintro e w' ⟨rfl, hO, hc⟩
  refine ⟨rfl, hO, ?_⟩
  rcases hc with ⟨hz, hl⟩ | ⟨hn, hb0, _, hl⟩ | ⟨_, _, hne, _⟩
  · have hm0 : m.toNat = 0 := by
      rcases hz with hz | hz
      · rw [if_pos hz] at hm; omega
      · split at hm
        · omega
        · split at hm <;> omega
    rw [hm0]
    exact ⟨F b, 0, 0, hl, tokR ht hat⟩
  · rw [if_neg (by omega)] at hm
    rw [hm] at hl
    refine ⟨_, _, _, hl, tokR (t' := t') ?_ ?_⟩
    · split at ht
      · rw [if_pos (by omega)]
      · rw [if_neg (by omega)]; exact ht
    · have hat2 := at_F (b - m.toNat) 0 b t' t' (F q) (by omega) (by omega) (by omega) (by
        by_cases hq0 : q = 0
        · subst hq0; exact nano0 t' t' (by omega) (by omega) (by omega) (by omega)
        · exact nano_no t' q (by omega) (by omega) (by omega) (by omega))
      rw [Nat.add_zero, Nat.min_eq_left (by omega)] at hat2
      exact hat2
  · exact absurd rfl hne

theorem fresh_read {L b q x : Nat} {dt t' : Int} (w : World) (h : Took w L q b dt t' x) :
    Calls Yba.prog 14 #[.pointer (some ⟨L, 0, none⟩), tv dt] w fun e w' => e = .returned (.float .f64 (F x)) ∧ OnlyL L w w' := by
  obtain ⟨T', z', l', hl, hT⟩ := h
  refine (TokensAt_any dt t' (F x) w hl hT).mono ?_
  rintro e w' ⟨rfl, _, hO⟩
  exact ⟨rfl, hO⟩

theorem Took.of_block {w w' : World} {L q b x : Nat} {dt t' : Int} (h : Took w L q b dt t' x) (hb : w'.heap[L]? = w.heap[L]?) : Took w' L q b dt t' x := by
  obtain ⟨T', z', l', hl, hT⟩ := h
  exact ⟨T', z', l', hb.trans hl, hT⟩

theorem ord_inf (q : Nat) (hq : q < 2 ^ 53) : FloatKind.f64.format.order (F q) 9218868437227405311 = some .lt := order_lt (F_lt q hq) (by omega)
theorem ord_self (x : Nat) (hx : x < 2 ^ 53) : FloatKind.f64.format.order (F x) (F x) = some .eq := by
  have := F_order x x hx hx
  simp only [compare, compareOfLessAndEq] at this
  rw [if_neg (by omega), if_pos trivial] at this
  exact this

theorem blk_new3 (w : World) (o1 o2 o3 : Obj) : (((w.alloc o1).alloc o2).alloc o3).heap[w.heap.size + 1 + 1]? = some o3 := by
  have h := blk_new ((w.alloc o1).alloc o2) o3
  have e : ((w.alloc o1).alloc o2).heap.size = w.heap.size + 1 + 1 := by simp
  rw [e] at h
  exact h

theorem F_ten : F 10 = 4621819117588971520 := by decide +kernel

attribute [local go_sem] run_store_float in
set_option maxHeartbeats 2000000 in
set_option maxRecDepth 100000 in
theorem fresh_fin (bu rs n dt : Int) (b q : Nat) (hbu0 : 0 ≤ bu) (hbu1 : bu ≤ 65535) (hrs0 : 0 ≤ rs) (hrs1 : rs ≤ 255) (hn0 : -9223372036854775808 ≤ n) (hn1 : n ≤ 9223372036854775807) (h0 : -9223372036854775808 ≤ dt) (h1 : dt ≤ 9223372036854775807)
    (hb : bu % 1001 = (b : Int)) (w : World) (hq : (rs % 4 = 0 ∧ q = 0) ∨ (rs % 4 = 1 ∧ q = 1) ∨ (rs % 4 = 2 ∧ q = 10)) :
    Calls Yba.prog 3 #[.int .u16 bu, .int .u8 rs, .int .i64 n, .int .i64 dt] w fun e w' => e = .returned (.bool true) ∧ Below w.heap.size w w' := by
  have hb2 : b ≤ 1000 := by omega
  have hq1 : q ≤ 10 := by omega
  obtain ⟨m, hm⟩ : ∃ m : Int, (if n ≤ 0 then 0 else if n < (b : Int) then n else (b : Int)) = m := ⟨_, rfl⟩
  have hmb : 0 ≤ m ∧ m ≤ b := by split at hm; · omega
                                 · split at hm <;> omega
  have HA1 := hideP (fun (L : Nat) (w : World) (h : Lim w L 0 (F q) (b : Int) (F b) 0 0 (F b) 0) => fresh_take hb2 hq1 n dt _ rfl h0 h1 m hm w h)
  have HA2 := hideP (fun (L : Nat) (w : World) (h : Took w L q b dt (if dt < 0 then 0 else dt) (b - m.toNat)) => fresh_read w h)
  have HN : Hid (∀ w, _) := fun w => new_any (F q) (F b) (b : Int) w (fo b)
  have HD : Hid (∀ w, _) := fun w => add_any dt w h0 h1
  have HM : Hid (0 < n → ∀ w, Calls Yba.prog 13 #[.int .i64 n, .int .i64 (b : Int)] w fun e w' => e = .returned (.int .i64 m) ∧ w' = w) := fun hn w => by
    have := amin_any n (b : Int) w
    rw [if_neg (by omega)] at hm
    rw [hm] at this
    exact this
  have hm0 : Hid (n ≤ 0 → m = 0) := fun h => by rw [if_pos h] at hm; exact hm.symm
  have hfw : floatOfInt .f64 ((b : Int) - m) = F (b - m.toNat) := by
    rw [fo_int _ (by omega)]; congr 1; omega
  have hi := ord_inf q (by omega)
  have hor := ord_self (b - m.toNat) (by omega)
  simp only [tv, tc] at HA1 HA2 HD
  generalize (if dt < 0 then 0 else dt) = t' at *
  generalize b - m.toNat = x at *
  obtain ⟨da, hda⟩ : ∃ x, dt % 1000000000 = x := ⟨_, rfl⟩
  obtain ⟨db, hdb⟩ : ∃ x, dt / 1000000000 = x := ⟨_, rfl⟩
  rw [hda, hdb] at HA1 HA2 HD
  clear hda hdb hm
  obtain ⟨hmb0, hmb1⟩ := hmb
  have hbn0 : (0 : Int) ≤ b := by omega
  have hbn1 : (b : Int) ≤ 1000 := by omega
  go_enter Yba.func3, Yba.ntmps3
  go_upto_region 3 with (fail)
  go_cut [11] (fun s11 wx => s11 = .float .f64 (F q) ∧ wx = w.alloc (.cells #[.float .f64 0, .float .f64 4607182418800017408, .float .f64 4621819117588971520, .float .f64 9218868437227405311] 25))
  case first =>
    rcases hq with ⟨h1, h2⟩ | ⟨h1, h2⟩ | ⟨h1, h2⟩
    · go_wp2_with fail
      go_meet
      subst h2
      exact ⟨by rw [F_zero], rfl⟩
    · go_wp2_with fail
      go_meet
      subst h2
      exact ⟨by rw [F_one], rfl⟩
    · go_wp2_with fail
      go_meet
      subst h2
      exact ⟨by rw [F_ten], rfl⟩
  case rest =>
    obtain ⟨rfl, rfl⟩ := hcut
    rw [hb]
    clear hq hbu0 hbu1 hrs0 hrs1 hb hq1 hb2
    go_wp2_with fail
    refine (HN.out _).mono ?_
    rintro e w2 ⟨rfl, hB2, hsz, hl⟩
    have B2 := bt (al (Below.refl _ w) (.cells #[.float .f64 0, .float .f64 4607182418800017408, .float .f64 4621819117588971520, .float .f64 9218868437227405311] 25)) hB2
    obtain ⟨L, hLdef⟩ : ∃ L, (w.alloc (.cells #[.float .f64 0, .float .f64 4607182418800017408, .float .f64 4621819117588971520, .float .f64 9218868437227405311] 25)).heap.size = L := ⟨_, rfl⟩
    rw [hLdef] at hl hsz ⊢
    have hLw : w.heap.size ≤ L := by rw [← hLdef]; simp
    clear hB2 hLdef
    have HI := hideP hl
    have B2' := hideP B2
    clear hl B2
    go_wp2_with (go_at_call 11; refine (HD.out _).mono ?_; rintro e w4 ⟨rfl, rfl⟩)
    refine (HA1.out _ _ (blk_alloc (blk_alloc (blk_alloc HI.out _) _) _)).mono ?_
    rintro e w3 ⟨rfl, hO, hT⟩
    have b13 := (hO.block (w2.heap.size + 1 + 1) (by simp) (by omega)).trans (blk_new3 w2 _ _ _)
    have B3 := hideP (OnlyL.toBelow (al (al (al B2'.out _) _) _) hLw hO)
    have HT := hideP hT
    have k0 := t0 b13
    have k1 := t1 b13
    have k2 := t2 b13
    clear hO hT b13 HA1 HN HI B2' HD
    by_cases hn : 0 < n
    · have HM' := hideP (HM.out hn)
      clear HM hm0
      go_wp2_with (go_at_call 13; refine (HM'.out _).mono ?_; rintro e w5 ⟨rfl, rfl⟩)
      refine (HA2.out _ _ HT.out).mono ?_
      rintro e w6 ⟨rfl, hO⟩
      have B6 := hideP (OnlyL.toBelow B3.out hLw hO)
      clear hO HA2 HT k0 k1 k2 B3 HM'
      go_wp2_with fail
      go_ret
      exact ⟨rfl, B6.out⟩
    · have hz := hm0.out (by omega)
      subst hz
      clear HM hm0
      rw [Int.sub_zero] at hfw
      go_wp2_with fail
      refine (HA2.out _ _ HT.out).mono ?_
      rintro e w6 ⟨rfl, hO⟩
      have B6 := hideP (OnlyL.toBelow B3.out hLw hO)
      clear hO HA2 HT k0 k1 k2 B3
      go_wp2_with fail
      go_ret
      exact ⟨rfl, B6.out⟩

end Go.Proofs.Ybulkcghm.Lm
