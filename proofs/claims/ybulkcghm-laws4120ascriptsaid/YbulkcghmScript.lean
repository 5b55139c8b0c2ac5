import Derived.Test.YbulkcghmFresh2
namespace Go.Proofs.Ybulkcghm.Lm
open Go.RowKit Go.Deep Go.Proofs.Ybulkcghm.Tm Go.Proofs.Ybulkcghm.Mu Go.Proofs.Ybulkcghm.Flt
set_option linter.unusedVariables false

/-- A time within the int64 nanoseconds. -/
def In (z : Int) : Prop := -9223372036854775808 ≤ z ∧ z ≤ 9223372036854775807

theorem at_still (k b : Nat) (z t : Int) (hz : In z) (ht : In t) (hk : k ≤ b) (hb : b ≤ 1000) : Ret 50 (atArgs (F k) z t (F 0) (b : Int)) (.float .f64 (F k)) := by
  have h := at_F k 0 b z t (F 0) (by omega) (by omega) (by omega) (nano0 z t ht.1 ht.2 hz.1 hz.2)
  rw [Nat.add_zero, Nat.min_eq_left hk] at h
  exact h

theorem In.later {l t : Int} (hl : In l) (ht : In t) : In (if t < l then l else t) := by
  split
  · exact hl
  · exact ht

/-- TakeAvailable at rate nought. -/
theorem script_take {L b k : Nat} (hb : b ≤ 1000) (hk : k ≤ b) {z l : Int} (n t m : Int) (hz : In z) (hl : In l) (ht : In t) (hm : (if n ≤ 0 then 0 else if n < (k : Int) then n else (k : Int)) = m) (w : World) (h : Lim w L 0 (F 0) (b : Int) (F k) z l (F k) z) :
    Calls Yba.prog 12 #[.pointer (some ⟨L, 0, none⟩), tv t, .int .i64 n] w fun e w' => e = .returned (.int .i64 m) ∧ OnlyL L w w' ∧ ∃ z' l', In z' ∧ In l' ∧ Lim w' L 0 (F 0) (b : Int) (F (k - m.toNat)) z' l' (F (k - m.toNat)) z' := by
  have := avail_fin (L := L) t _ n w h rfl (at_still k b z _ hz (hl.later ht) hk hb) (by omega) (by omega) hk hk
  rw [hm] at this
  refine this.mono ?_
  rintro e w' ⟨rfl, hO, hc⟩
  refine ⟨rfl, hO, ?_⟩
  rcases hc with ⟨hzz, hl'⟩ | ⟨hn, hk0, hkb, hl'⟩ | ⟨hn, hk0, hkb, T', hT, hl'⟩
  · have hm0 : m.toNat = 0 := by
      rcases hzz with hzz | hzz
      · rw [if_pos hzz] at hm; omega
      · split at hm
        · omega
        · split at hm <;> omega
    rw [hm0]
    exact ⟨z, l, hz, hl, hl'⟩
  · rw [if_neg (by omega)] at hm
    rw [hm, ← hkb] at hl'
    rw [← hkb]
    exact ⟨_, _, hl.later ht, hl.later ht, hl'⟩
  · rw [if_neg (by omega)] at hm
    rw [hm] at hT
    rw [hT (Nat.le_refl _)] at hl'
    exact ⟨z, _, hz, hl.later ht, hl'⟩

theorem script_read {L b k : Nat} (hb : b ≤ 1000) (hk : k ≤ b) {z l : Int} (t : Int) (hz : In z) (hl : In l) (ht : In t) (w : World) (h : Lim w L 0 (F 0) (b : Int) (F k) z l (F k) z) :
    Calls Yba.prog 14 #[.pointer (some ⟨L, 0, none⟩), tv t] w fun e w' => e = .returned (.float .f64 (F k)) ∧ OnlyL L w w' := by
  refine (TokensAt_any t _ (F k) w h (tokR rfl (at_still k b z _ hz (hl.later ht) hk hb))).mono ?_
  rintro e w' ⟨rfl, _, hO⟩
  exact ⟨rfl, hO⟩

set_option maxHeartbeats 2000000 in
set_option maxRecDepth 100000 in
theorem script_long (bu : Int) (a0 : Option Addr) (len cap : Nat) (w : World) (h : 1024 < len) (hl : (len : Int) ≤ 9223372036854775807) :
    Calls Yba.prog 4 #[.int .u16 bu, .slice a0 len cap] w fun e w' => e = .returned (.bool true) ∧ Below w.heap.size w w' := by
  have t : decide ((1024 : Int) < (len : Int)) = true := by simp; omega
  go_enter Yba.func4, Yba.ntmps4
  go_wp2_with fail
  go_ret
  exact ⟨rfl, Below.refl _ _⟩

theorem box4 {w : World} {B : Nat} {o : Obj} (h : w.heap[B]? = some o) (o1 o2 o3 o4 : Obj) : ((((w.alloc o1).alloc o2).alloc o3).alloc o4).heap[B]? = some o := blk_alloc (blk_alloc (blk_alloc (blk_alloc h o1) o2) o3) o4

def intOf : Value → Int | .int _ q => q | _ => 0

/-- The loop's memory: the limiter with k tokens left, the last time in its box. -/
def SR (w : World) (L T8 b k : Nat) (wx : World) : Prop := ∃ z l u : Int, In z ∧ In l ∧ In u ∧ Lim wx L 0 (F 0) (b : Int) (F k) z l (F k) z ∧
  wx.heap[T8]? = some (.cells #[.int .u64 (u % 1000000000), .int .i64 (u / 1000000000), .pointer none] 31) ∧ Below w.heap.size w wx

set_option maxHeartbeats 2000000 in
set_option maxRecDepth 100000 in
theorem script_any (bu : Int) (b : Nat) (hbu0 : 0 ≤ bu) (hbu1 : bu ≤ 65535) (hb : bu % 1001 = (b : Int)) (a0 : Option Addr) (len cap : Nat) (N D : Nat → Int) (w : World) (hlen : len ≤ 1024)
    (hN : ∀ i, i < len → In (N i)) (hD : ∀ i, i < len → In (D i))
    (hcell : ∀ i, i < len → ∃ B off, B < w.heap.size ∧ a0 = some ⟨B, off, none⟩ ∧ w.cell? ⟨B, off + i * 2, none⟩ = some (.int .i64 (N i)) ∧ w.cell? ⟨B, off + i * 2 + 1, none⟩ = some (.int .i64 (D i))) :
    Calls Yba.prog 4 #[.int .u16 bu, .slice a0 len cap] w fun e w' => e = .returned (.bool true) ∧ Below w.heap.size w w' := by
  have tt : decide ((1024 : Int) < (len : Int)) = false := by simp; omega
  have hb2 : b ≤ 1000 := by omega
  have HN : Hid (∀ w, _) := fun w => new_any (F 0) (F b) (b : Int) w (fo b)
  rw [F_zero] at HN
  have HC := hideP hcell
  have HN' := hideP hN
  have HD' := hideP hD
  clear hcell hN hD
  go_enter Yba.func4, Yba.ntmps4
  go_upto_region 4 with (fail)
  rw [hb]
  go_wp2_with fail
  refine (HN.out _).mono ?_
  rintro e w2 ⟨rfl, hB2, hsz, hl⟩
  have hr : SR w w.heap.size w2.heap.size b b (w2.alloc (.cells #[.int .u64 0, .int .i64 0, .pointer none] 31)) := by
    refine ⟨0, 0, 0, ⟨by omega, by omega⟩, ⟨by omega, by omega⟩, ⟨by omega, by omega⟩, ?_, blk_new _ _, al hB2 _⟩
    rw [F_zero]
    exact blk_alloc hl _
  have HR := hideP hr
  clear hl hB2 HN hr
  go_wp2_with fail
  go_loopw [7, 9] (fun s7 s9 wx => ∃ i k : Nat, s9 = .int .i64 (i : Int) ∧ i ≤ len ∧ s7 = .int .i64 (k : Int) ∧ k ≤ b ∧ SR w w.heap.size w2.heap.size b k wx) (fun s7 s9 wx => len - (intOf s9).toNat)
  case atStart => exact ⟨0, b, rfl, Nat.zero_le _, rfl, Nat.le_refl _, HR.out⟩
  case round =>
    clear HR
    obtain ⟨i, k, rfl, hi, rfl, hk, hS⟩ := hrel
    obtain ⟨z, l, u, hz, hl, hu, hLim, hbx, hB⟩ := hS
    have hsz2 : w2.heap.size < wr.heap.size := blk_lt hbx
    by_cases hlt : i < len
    · obtain ⟨B, off, hBlt, rfl, c0, c1⟩ := HC.out i hlt
      have d0 := (hB.cell (p := ⟨B, off + i * 2, none⟩) hBlt).trans c0
      have d1 := (hB.cell (p := ⟨B, off + i * 2 + 1, none⟩) hBlt).trans c1
      obtain ⟨n, hn⟩ : ∃ n, N i = n := ⟨_, rfl⟩
      obtain ⟨d, hd⟩ : ∃ n, D i = n := ⟨_, rfl⟩
      rw [hn] at d0
      rw [hd] at d1
      have hnI : In n := hn ▸ HN'.out i hlt
      have hdI : In d := hd ▸ HD'.out i hlt
      obtain ⟨m, hm⟩ : ∃ m : Int, (if n ≤ 0 then 0 else if n < (k : Int) then n else (k : Int)) = m := ⟨_, rfl⟩
      have hmk : 0 ≤ m ∧ m ≤ k := by
        split at hm
        · omega
        · split at hm <;> omega
      have HT : Hid (∀ W, Lim W w.heap.size 0 (F 0) (b : Int) (F k) z l (F k) z → _) := fun W h => script_take hb2 hk n d m hz hl hdI hm W h
      have HA : Hid (∀ w, _) := fun w => add_any d w hdI.1 hdI.2
      have HM : Hid (0 < n → ∀ w, Calls Yba.prog 13 #[.int .i64 n, .int .i64 (k : Int)] w fun e w' => e = .returned (.int .i64 m) ∧ w' = w) := fun hn w => by
        have := amin_any n (k : Int) w
        rw [if_neg (by omega)] at hm
        rw [hm] at this
        exact this
      have Hm0 : Hid ((n ≤ 0 → m = 0) ∧ (k = 0 → m = 0)) := by
        refine ⟨fun h => ?_, fun h => ?_⟩
        · rw [if_pos h] at hm; omega
        · omega
      have hn0 := hnI.1
      have hn1 := hnI.2
      have HI := hideP hLim
      have HB := hideP hB
      have Hbx := hideP hbx
      have HIn := hideP hdI
      simp only [tv, tc] at HA HT
      have hb0 : wr.heap[w2.heap.size]? = some (.cells #[.int .u64 (u % 1000000000), .int .i64 (u / 1000000000), .pointer none] 31) := hbx
      generalize u % 1000000000 = ua at *
      generalize u / 1000000000 = ub at *
      obtain ⟨da, hda⟩ : ∃ x, d % 1000000000 = x := ⟨_, rfl⟩
      obtain ⟨db, hdb⟩ : ∃ x, d / 1000000000 = x := ⟨_, rfl⟩
      rw [hda, hdb] at HA HT
      have e0 := fun o1 o2 o3 o4 => t0 (box4 hb0 o1 o2 o3 o4)
      have e1 := fun o1 o2 o3 o4 => t1 (box4 hb0 o1 o2 o3 o4)
      have e2 := fun o1 o2 o3 o4 => t2 (box4 hb0 o1 o2 o3 o4)
      have g0 := fun k o1 o2 o3 o4 => blk_free (box4 hb0 o1 o2 o3 o4) k
      clear c0 c1 hBlt hLim hB hbx hz hl hu hnI hdI HC HN' HD' hn hd hm
      have Hb0 := hideP hb0
      clear hb0 Hbx
      go_wp2_with (go_at_call 11; refine (HA.out _).mono ?_; rintro e w4 ⟨rfl, rfl⟩)
      change Calls Yba.prog 12 _ (set3 ((((wr.alloc (.cells #[.int .i64 n, .int .i64 d] 40)).alloc (.cells #[.int .u64 da, .int .i64 db, .pointer none] 31)).alloc (.cells #[.int .u64 da, .int .i64 db, .pointer none] 31)).alloc (.cells #[.int .u64 da, .int .i64 db, .pointer none] 31)) w2.heap.size (.int .u64 da) (.int .i64 db) (.pointer none)) _
      have vL : Lim (set3 ((((wr.alloc (.cells #[.int .i64 n, .int .i64 d] 40)).alloc (.cells #[.int .u64 da, .int .i64 db, .pointer none] 31)).alloc (.cells #[.int .u64 da, .int .i64 db, .pointer none] 31)).alloc (.cells #[.int .u64 da, .int .i64 db, .pointer none] 31)) w2.heap.size (.int .u64 da) (.int .i64 db) (.pointer none)) w.heap.size 0 (F 0) (b : Int) (F k) z l (F k) z := (set3_other (by omega) _ _ _).trans (box4 HI.out _ _ _ _)
      have vT := set3_blk (box4 Hb0.out (.cells #[.int .i64 n, .int .i64 d] 40) (.cells #[.int .u64 da, .int .i64 db, .pointer none] 31) (.cells #[.int .u64 da, .int .i64 db, .pointer none] 31) (.cells #[.int .u64 da, .int .i64 db, .pointer none] 31)) (.int .u64 da) (.int .i64 db) (.pointer none)
      have v10 : (set3 ((((wr.alloc (.cells #[.int .i64 n, .int .i64 d] 40)).alloc (.cells #[.int .u64 da, .int .i64 db, .pointer none] 31)).alloc (.cells #[.int .u64 da, .int .i64 db, .pointer none] 31)).alloc (.cells #[.int .u64 da, .int .i64 db, .pointer none] 31)) w2.heap.size (.int .u64 da) (.int .i64 db) (.pointer none)).heap[wr.heap.size]? = some (.cells #[.int .i64 n, .int .i64 d] 40) := (set3_other (by omega) _ _ _).trans (blk_alloc (blk_alloc (blk_alloc (blk_new wr _) _) _) _)
      have vB : Below w.heap.size w (set3 ((((wr.alloc (.cells #[.int .i64 n, .int .i64 d] 40)).alloc (.cells #[.int .u64 da, .int .i64 db, .pointer none] 31)).alloc (.cells #[.int .u64 da, .int .i64 db, .pointer none] 31)).alloc (.cells #[.int .u64 da, .int .i64 db, .pointer none] 31)) w2.heap.size (.int .u64 da) (.int .i64 db) (.pointer none)) := (((al (al (al (al HB.out _) _) _) _).setCell (Nat.le_of_lt hsz) _).setCell (Nat.le_of_lt hsz) _).setCell (Nat.le_of_lt hsz) _
      generalize set3 ((((wr.alloc (.cells #[.int .i64 n, .int .i64 d] 40)).alloc (.cells #[.int .u64 da, .int .i64 db, .pointer none] 31)).alloc (.cells #[.int .u64 da, .int .i64 db, .pointer none] 31)).alloc (.cells #[.int .u64 da, .int .i64 db, .pointer none] 31)) w2.heap.size (.int .u64 da) (.int .i64 db) (.pointer none) = V at *
      refine (HT.out V vL).mono ?_
      rintro e w5 ⟨rfl, hO, z', l', hz', hl', hL5⟩
      have y10 := (hO.block wr.heap.size (blk_lt v10) (by omega)).trans v10
      have yT := (hO.block w2.heap.size (blk_lt vT) (by omega)).trans vT
      have yB := OnlyL.toBelow vB (Nat.le_refl _) hO
      have HS : Hid (SR w w.heap.size w2.heap.size b (k - m.toNat) w5) := ⟨z', l', d, hz', hl', HIn.out, hL5, by rw [hda, hdb]; exact yT, yB⟩
      have x0 : w5.cell? ⟨wr.heap.size, 0, none⟩ = some (.int .i64 n) := blk_cell y10 rfl
      clear hO hL5 hz' hl' y10 yT yB vL vT v10 vB HT HA HI HB HIn Hb0 e0 e1 e2 g0 d0 d1 hda hdb V
      obtain ⟨hm1, hm2⟩ := hmk
      by_cases hn : 0 < n
      · by_cases hk0 : k = 0
        · have hmz := Hm0.out.2 hk0
          subst hk0
          subst hmz
          go_wp2_with fail
          go_roundw
          case rel => exact ⟨i + 1, 0, by go_num, by omega, by go_num, by omega, HS.out⟩
          case measure => simp [intOf]; omega
        · have HM' := hideP (HM.out hn)
          have hk1 : (1 : Int) ≤ (k : Int) := by omega
          clear HM Hm0
          go_wp2_with (go_at_call 13; refine (HM'.out _).mono ?_; rintro e w6 ⟨rfl, rfl⟩)
          go_roundw
          case rel => exact ⟨i + 1, k - m.toNat, by go_num, by omega, by go_num, by omega, HS.out⟩
          case measure => simp [intOf]; omega
      · have hmz := Hm0.out.1 (by omega)
        subst hmz
        clear HM Hm0
        go_wp2_with fail
        go_roundw
        case rel => exact ⟨i + 1, k, by go_num, by omega, by go_num, by omega, HS.out⟩
        case measure => simp [intOf]; omega
    · have hkl : i = len := by omega
      subst hkl
      have HRd : Hid (∀ W, Lim W w.heap.size 0 (F 0) (b : Int) (F k) z l (F k) z → _) := fun W h => script_read hb2 hk u hz hl hu W h
      have HI := hideP hLim
      have HB := hideP hB
      have q0 := t0 hbx
      have q1 := t1 hbx
      have q2 := t2 hbx
      have hfk : floatOfInt .f64 (k : Int) = F k := fo k
      have hor := ord_self k (by omega)
      simp only [tv] at HRd
      generalize u % 1000000000 = ua at *
      generalize u / 1000000000 = ub at *
      clear hLim hB hbx hz hl hu HC HN' HD'
      go_wp2_with fail
      refine (HRd.out _ HI.out).mono ?_
      rintro e w6 ⟨rfl, hO⟩
      have B6 := hideP (OnlyL.toBelow HB.out (Nat.le_refl _) hO)
      clear hO HRd HI HB q0 q1 q2
      go_wp2_with fail
      go_ret
      exact ⟨rfl, B6.out⟩

end Go.Proofs.Ybulkcghm.Lm
