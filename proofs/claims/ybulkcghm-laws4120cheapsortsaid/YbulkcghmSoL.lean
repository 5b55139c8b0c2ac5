import Derived.Test.YbulkcghmSoK
namespace Go.Proofs.Ybulkcghm.So
open Go.RowKit
open Go.Sort (swp size_swp ltInt)
set_option linter.unusedVariables false

theorem Row.of_below {w : World} {g off n : Nat} {d : Array Int} {wx wy : World} (h : Row w g off n d wx) (hB : Below wx.heap.size wx wy) (hg : g < wx.heap.size) : Row w g off n d wy :=
  ⟨hB.os.trans h.os, hB.tape.trans h.tape, hB.output.trans h.output, Nat.le_trans h.size hB.size, fun k hk hn => (hB.block k (Nat.lt_of_lt_of_le hk h.size)).trans (h.block k hk hn), h.len,
    fun j hj => (hB.cell hg).trans (h.cell j hj), fun j hj => (hB.frozen hg).trans (h.free j hj)⟩

set_option maxHeartbeats 2000000 in
set_option maxRecDepth 100000 in
theorem pdq_u (g off n cap : Nat) (hn : n ≤ 1024) : ∀ (m a b lim : Nat) (d : Array Int) (w : World), b - a ≤ m → Row w g off n d w → g < w.heap.size → a ≤ b → b ≤ n → lim ≤ 64 →
    Calls Yba.prog 44 #[.slice (some ⟨g, off, none⟩) n cap, .int .i64 a, .int .i64 b, .int .i64 lim] w fun e w' => e = .returned (.tuple #[]) ∧ Row w g off n (Go.Sort.pdq ltInt d a b lim true true) w' := by
  intro m
  induction m using Nat.strongRecOn with
  | _ m IH =>
    intro a b lim d w hm hR hg hab hbn hlim
    obtain ⟨T, hT⟩ : ∃ T, Go.Sort.pdq ltInt d a b lim true true = T := ⟨_, rfl⟩
    rw [hT]
    have HT := hideP hT
    have HR := hideP hR
    have HIH := hideP IH
    clear hT hR IH
    go_enter Yba.func44, Yba.ntmps44
    go_wp2_with fail
    go_loopw [1, 2, 3, 8, 9] (fun s1 s2 s3 s8 s9 wr => ∃ (a' b' lim' : Nat) (dk : Array Int) (wb wp : Bool), s1 = .int .i64 a' ∧ s2 = .int .i64 b' ∧ s3 = .int .i64 lim' ∧ s8 = .bool wb ∧ s9 = .bool wp ∧ a' ≤ b' ∧ b' ≤ n ∧ b' - a' ≤ m ∧ lim' ≤ 64 ∧ Row w g off n dk wr ∧ Go.Sort.pdq ltInt dk a' b' lim' wb wp = T) (fun s1 s2 _ _ _ _ => (intOf s2 - intOf s1).toNat)
    case atStart => exact ⟨a, b, lim, d, true, true, rfl, rfl, rfl, rfl, rfl, hab, hbn, hm, hlim, HR.out, HT.out⟩
    case round =>
      clear HR HT
      obtain ⟨a', b', lim', dk, wb, wp, rfl, rfl, rfl, rfl, rfl, hab', hbn', hm', hlim', hRk, hO⟩ := hrel
      have hgr : g < wr.heap.size := Nat.lt_of_lt_of_le hg hRk.size
      have hszk : dk.size = n := hRk.len
      have ha1 : a' ≤ 1024 := by omega
      have hb1 : b' ≤ 1024 := by omega
      by_cases h12 : b' - a' ≤ 12
      · have t12 : decide ((b' : Int) - (a' : Int) ≤ 12) = true := by simp; omega
        have HC := hideP (insertion g off n cap a' b' dk wr hRk.self hab' hbn' hn)
        rw [Go.Sort.pdq, if_pos h12] at hO
        have HO := hideP hO
        have HRk := hideP hRk
        clear hRk hO HIH
        go_wp2_with fail
        refine Calls.mono HC.out ?_
        rintro e w2 ⟨rfl, h2⟩
        have H2 := hideP (HRk.out.trans h2)
        clear h2 HC HRk
        go_wp2_with fail
        refine bodyPost_ret (results_none rfl _ _ _) rfl ?_
        exact ⟨rfl, by rw [← HO.out]; exact H2.out⟩
      · have t12 : decide ((b' : Int) - (a' : Int) ≤ 12) = false := by simp; omega
        by_cases hl0 : lim' = 0
        · subst hl0
          have HC := hideP (heap_sort g off n cap a' b' dk wr hRk.self hab' hbn' hn)
          rw [Go.Sort.pdq, if_neg h12, if_pos rfl] at hO
          have HO := hideP hO
          have HRk := hideP hRk
          clear hRk hO HIH
          go_wp2_with fail
          refine Calls.mono HC.out ?_
          rintro e w2 ⟨rfl, h2⟩
          have H2 := hideP (HRk.out.trans h2)
          clear h2 HC HRk
          go_wp2_with fail
          refine bodyPost_ret (results_none rfl _ _ _) rfl ?_
          exact ⟨rfl, by rw [← HO.out]; exact H2.out⟩
        · have tl : ((lim' : Int) == 0) = false := by simp; omega
          rw [pdq_eq dk a' b' lim' wb wp h12 hl0] at hO
          have HO := hideP hO
          have HRk := hideP hRk
          have HBr := hideP (break_u g off n cap a' b' dk wr hRk.self hgr (by omega) hbn' hn)
          clear hRk hO
          obtain ⟨lim1, hlim1⟩ : ∃ x, (if !wb then lim' - 1 else lim') = x := ⟨_, rfl⟩
          have hlb : lim1 ≤ 64 := by split at hlim1 <;> omega
          go_upto_if 35 with (fail)
          go_cut [3] (fun s3 wx => ∃ d1, s3 = .int .i64 (lim1 : Int) ∧ Row w g off n d1 wx ∧ stC d1 a' b' lim1 wb wp = T)
          case first =>
            cases wb
            · go_wp2_with fail
              refine Calls.mono HBr.out ?_
              rintro e w2 ⟨rfl, h2⟩
              have H2 := hideP (HRk.out.trans h2)
              clear h2 HBr HRk
              go_wp2_with fail
              go_meet
              have e := HO.out
              simp only [Bool.not_false, if_true] at e hlim1
              rw [hlim1] at e
              exact ⟨_, by congr 1; omega, H2.out, e⟩
            · clear HBr
              go_wp2_with fail
              go_meet
              have e := HO.out
              simp only [Bool.not_true, Bool.false_eq_true, if_false] at e hlim1
              rw [hlim1] at e
              exact ⟨_, by rw [hlim1], HRk.out, e⟩
          case rest =>
            clear HBr HRk HO
            obtain ⟨d1, rfl, hR1, hO1⟩ := hcut
            have hg1 : g < wc.heap.size := Nat.lt_of_lt_of_le hg hR1.size
            have HC := hideP (choose_u g off n cap a' b' d1 wc hR1.self hg1 (by omega) hbn' hn)
            have hpv := Go.Sort.choosePivot_holds ltInt d1 a' b' (by omega)
            have HO1 := hideP hO1
            have HR1 := hideP hR1
            have HRv := hideP (fun W (h : Row W g off n d1 W) => reverse g off n cap a' b' d1 W h (by omega) hbn' hn)
            clear hR1 hO1
            unfold stC at HO1
            generalize Go.Sort.choosePivot ltInt d1 a' b' = cp at *
            obtain ⟨p, hint⟩ := cp
            simp only at hpv HO1 HC
            obtain ⟨hp1, hp2⟩ := hpv
            go_wp2_with fail
            refine Calls.mono HC.out ?_
            rintro e w2 ⟨rfl, hB⟩
            have hR2 := HR1.out.of_below hB hg1
            have HR2 := hideP hR2
            have HRv' := hideP (HRv.out w2 hR2.self)
            clear hB hR2 HC HR1 HRv
            go_upto_if 50 with (fail)
            go_cut [11, 12] (fun s11 s12 wx => ∃ (pv : Nat) (hi2 : Go.Sort.Hint) (d2 : Array Int), s11 = .int .i64 (pv : Int) ∧ s12 = .int .i64 (hintI hi2) ∧ a' ≤ pv ∧ pv < b' ∧ Row w g off n d2 wx ∧ stD d2 a' b' pv lim1 hi2 wb wp = T)
            case first =>
              by_cases hdec : hint = .decreasing
              · subst hdec
                have hh : hintI .decreasing = 2 := rfl
                go_wp2_with fail
                refine Calls.mono HRv'.out ?_
                rintro e w3 ⟨rfl, h3⟩
                have H3 := hideP (HR2.out.trans h3)
                clear h3 HRv' HR2
                go_wp2_with fail
                go_meet
                have e := HO1.out
                simp only [if_true] at e
                exact ⟨_, .increasing, _, by congr 1; omega, rfl, by omega, by omega, H3.out, e⟩
              · have th : (hintI hint == 2) = false := by cases hint <;> first | rfl | exact absurd rfl hdec
                clear HRv'
                go_wp2_with fail
                go_meet
                have e := HO1.out
                rw [if_neg hdec] at e
                exact ⟨p, hint, d1, rfl, rfl, hp1, hp2, HR2.out, e⟩
            case rest =>
              clear HRv' HR2 HO1 hp1 hp2
              obtain ⟨pv, hi2, d2, rfl, rfl, hp1, hp2, hR2, hO2⟩ := hcut
              have hg2 : g < wc.heap.size := Nat.lt_of_lt_of_le hg hR2.size
              have HR2 := hideP hR2
              have HO2 := hideP hO2
              have HPI := hideP (pins_u g off n cap a' b' d2 wc hR2.self (by omega) hbn' hn)
              clear hR2 hO2
              go_upto_region 15 with (fail)
              go_cut [68] (fun s68 wx => s68 = .bool (wb && wp && decide (hi2 = .increasing)) ∧ wx = wc)
              case first =>
                clear HPI HR2 HO2 HIH
                cases wb
                · cases wp <;> (go_wp2_with fail; go_meet; exact ⟨rfl, rfl⟩)
                · cases wp
                  · go_wp2_with fail
                    go_meet
                    exact ⟨rfl, rfl⟩
                  · cases hi2
                    · have hh : hintI .unknown = 0 := rfl
                      go_wp2_with fail
                      go_meet
                      exact ⟨rfl, rfl⟩
                    · have hh : hintI .increasing = 1 := rfl
                      go_wp2_with fail
                      go_meet
                      exact ⟨rfl, rfl⟩
                    · have hh : hintI .decreasing = 2 := rfl
                      go_wp2_with fail
                      go_meet
                      exact ⟨rfl, rfl⟩
              case rest =>
                obtain ⟨rfl, rfl⟩ := hcut
                go_upto_if 68 with (fail)
                go_cut [13] (fun s13 wx => ∃ d3, Row w g off n d3 wx ∧ stE d3 a' b' pv lim1 wb wp = T)
                case first =>
                  clear HIH
                  unfold stD at HO2
                  obtain ⟨B, hB⟩ : ∃ B, (wb && wp && decide (hi2 = .increasing)) = B := ⟨_, rfl⟩
                  simp only [hB] at HO2 ⊢
                  cases B
                  · clear HPI
                    go_wp2_with fail
                    go_meet
                    have e := HO2.out
                    simp only [Bool.false_eq_true, if_false] at e
                    exact ⟨d2, HR2.out, e⟩
                  · obtain ⟨pr, hpr⟩ : ∃ pr, Go.Sort.partialInsertionSort ltInt d2 a' b' = pr := ⟨_, rfl⟩
                    rw [hpr] at HPI HO2
                    clear hpr
                    obtain ⟨d3, pb⟩ := pr
                    simp only [if_true] at HO2 HPI
                    go_wp2_with fail
                    refine Calls.mono HPI.out ?_
                    rintro e w3 ⟨rfl, h3⟩
                    have H3 := hideP (HR2.out.trans h3)
                    clear h3 HPI HR2
                    cases pb
                    · go_wp2_with fail
                      go_meet
                      have e := HO2.out
                      simp only [Bool.false_eq_true, if_false] at e
                      exact ⟨d3, H3.out, e⟩
                    · go_wp2_with fail
                      refine bodyPost_ret (results_none rfl _ _ _) rfl ?_
                      have e := HO2.out
                      simp only [if_true] at e
                      exact ⟨rfl, by rw [← e]; exact H3.out⟩
                case rest =>
                  clear HPI HR2 HO2
                  obtain ⟨d3, hR3, hO3⟩ := hcut
                  have hg3 : g < wc.heap.size := Nat.lt_of_lt_of_le hg hR3.size
                  have hsz3 : b' ≤ d3.size := by rw [hR3.len]; exact hbn'
                  obtain ⟨G, hG⟩ : ∃ G : Nat → Int, ∀ t, G t = d3[t]! := ⟨fun t => d3[t]!, fun _ => rfl⟩
                  have hc : ∀ t, t < n → wc.cell? ⟨g, off + t, none⟩ = some (.int .u64 (G t)) := fun t ht => by rw [hG]; exact hR3.cell t ht
                  have HR3 := hideP hR3
                  have HO3 := hideP hO3
                  have HG := hideP hG
                  have H63 := hideP (fun W (h : Row W g off n d3 W) => partEq_u g off n cap a' b' pv d3 W h hp1 hp2 hbn' hn)
                  have H64 := hideP (fun W (h : Row W g off n d3 W) => part_u g off n cap a' b' pv d3 W h hp1 hp2 hbn' hn)
                  clear hR3 hO3 hG
                  have key : ∀ X, (decide (a' > 0) && !ltInt (G (a' - 1)) (G pv)) = X → (decide (a' > 0) && !ltInt d3[a' - 1]! d3[pv]!) = X := fun X h => by rw [← h, HG.out, HG.out]
                  have KEY := hideP key
                  clear key
                  by_cases ha0 : 0 < a'
                  · have tg : decide ((0 : Int) < (a' : Int)) = true := by simp; omega
                    have j1 : (0 : Int) ≤ (a' : Int) - 1 := by omega
                    have j2 : (a' : Int) - 1 < (n : Int) := by omega
                    have j3 : (pv : Int) < (n : Int) := by omega
                    obtain ⟨L, hL⟩ : ∃ L, ltInt (G (a' - 1)) (G pv) = L := ⟨_, rfl⟩
                    go_wp2_with fail
                    go_quiet (first | (go_at_call 62; refine Calls.quiet_of_same (less_u _ _ _)))
                    have HRq := hideP (HR3.out.drewN nq)
                    cases L
                    · have hc1 := KEY.out true (by rw [hL]; simp; exact ha0)
                      obtain ⟨m1, m2, eE⟩ := stE_eq (lim := lim1) (wb := wb) (wp := wp) hc1 hp1 hp2 hsz3
                      have H := hideP (H63.out _ HRq.out.self)
                      have hO4 := HO3.out
                      rw [eE] at hO4
                      generalize Go.Sort.partitionEqual ltInt d3 a' b' pv = r at *
                      obtain ⟨mid, d4⟩ := r
                      simp only at m1 m2 hO4 H
                      have HO4 := hideP hO4
                      clear hc1 eE hO4 H63 H64 KEY hc HR3 HO3
                      go_wp2_with fail
                      generalize wc.drewN nq = wq at *
                      refine Calls.mono H.out ?_
                      rintro e w4 ⟨rfl, h4⟩
                      have H4 := hideP (HRq.out.trans h4)
                      clear h4 H HRq
                      go_wp2_with fail
                      go_roundw
                      case rel =>
                        exact ⟨mid, b', lim1, d4, wb, wp, rfl, rfl, rfl, rfl, rfl, m2, hbn', by omega, hlb, H4.out, HO4.out⟩
                      case measure => simp [intOf]; omega
                    · have hc1 := KEY.out false (by rw [hL]; simp)
                      have eE := stE_part (lim := lim1) (wb := wb) (wp := wp) hc1 hp1 hp2 hsz3
                      have hr := part_range d3 a' b' pv hp1 hp2 hsz3
                      have H := hideP (H64.out _ HRq.out.self)
                      have hO4 := HO3.out
                      rw [eE] at hO4
                      clear eE hc1
                      generalize Go.Sort.partition ltInt d3 a' b' pv = r at *
                      obtain ⟨mid, ap, d4⟩ := r
                      simp only at hr hO4 H
                      obtain ⟨m1, m2⟩ := hr
                      clear H63 H64 KEY hc HR3 HO3
                      have hgq : g < (wc.drewN nq).heap.size := hg3
                      by_cases hside : mid - a' < b' - mid
                      · rw [if_pos hside] at hO4
                        have ts : decide ((mid : Int) - (a' : Int) < (b' : Int) - (mid : Int)) = true := by simp; omega
                        have hbal : decide (((b' : Int) - (a' : Int)) / 8 ≤ (mid : Int) - (a' : Int)) = decide (mid - a' ≥ (b' - a') / 8) := by rw [decide_eq_decide]; omega
                        have HBAL := hideP hbal
                        have HO4 := hideP hO4
                        clear hO4 hbal
                        go_wp2_with fail
                        generalize wc.drewN nq = wq at *
                        refine Calls.mono H.out ?_
                        rintro e w4 ⟨rfl, h4⟩
                        have hg4 : g < w4.heap.size := Nat.lt_of_lt_of_le hgq h4.size
                        have HR4 := hideP (HRq.out.trans h4)
                        have HI := hideP (HIH.out (mid - a') (by omega) a' mid lim1 d4 w4 (Nat.le_refl _) h4.self hg4 m1 (by omega) hlb)
                        clear h4 H HRq
                        go_wp2_with fail
                        refine Calls.mono HI.out ?_
                        rintro e w5 ⟨rfl, h5⟩
                        have HR5 := hideP (HR4.out.trans h5)
                        clear h5 HI HR4
                        go_wp2_with fail
                        go_roundw
                        case rel => exact ⟨mid + 1, b', lim1, _, _, ap, by go_num, rfl, rfl, by rw [HBAL.out], rfl, by omega, hbn', by omega, hlb, HR5.out, HO4.out⟩
                        case measure => simp [intOf]; omega
                      · rw [if_neg hside] at hO4
                        have ts : decide ((mid : Int) - (a' : Int) < (b' : Int) - (mid : Int)) = false := by simp; omega
                        have hbal : decide (((b' : Int) - (a' : Int)) / 8 ≤ (b' : Int) - (mid : Int)) = decide (b' - mid ≥ (b' - a') / 8) := by rw [decide_eq_decide]; omega
                        have HBAL := hideP hbal
                        have HO4 := hideP hO4
                        clear hO4 hbal
                        go_wp2_with fail
                        generalize wc.drewN nq = wq at *
                        refine Calls.mono H.out ?_
                        rintro e w4 ⟨rfl, h4⟩
                        have hg4 : g < w4.heap.size := Nat.lt_of_lt_of_le hgq h4.size
                        have HR4 := hideP (HRq.out.trans h4)
                        have hI := HIH.out (b' - (mid + 1)) (by omega) (mid + 1) b' lim1 d4 w4 (Nat.le_refl _) h4.self hg4 (by omega) (by omega) hlb
                        rw [show ((mid + 1 : Nat) : Int) = (mid : Int) + 1 by omega] at hI
                        have HI := hideP hI
                        clear h4 H HRq hI
                        go_wp2_with fail
                        refine Calls.mono HI.out ?_
                        rintro e w5 ⟨rfl, h5⟩
                        have HR5 := hideP (HR4.out.trans h5)
                        clear h5 HI HR4
                        go_wp2_with fail
                        go_roundw
                        case rel => exact ⟨a', mid, lim1, _, _, ap, rfl, rfl, rfl, by rw [HBAL.out], rfl, by omega, by omega, by omega, hlb, HR5.out, HO4.out⟩
                        case measure => simp [intOf]; omega
                  · have tg : decide ((0 : Int) < (a' : Int)) = false := by simp; omega
                    go_wp2_with fail
                    go_quiet (first | (go_at_call 62; refine Calls.quiet_of_same (less_u _ _ _)))
                    have HRq := hideP (HR3.out.drewN nq)
                    have hc1 := KEY.out false (by rw [show decide (a' > 0) = false by simp; omega]; rfl)
                    have eE := stE_part (lim := lim1) (wb := wb) (wp := wp) hc1 hp1 hp2 hsz3
                    have hr := part_range d3 a' b' pv hp1 hp2 hsz3
                    have H := hideP (H64.out _ HRq.out.self)
                    have hO4 := HO3.out
                    rw [eE] at hO4
                    clear eE hc1
                    generalize Go.Sort.partition ltInt d3 a' b' pv = r at *
                    obtain ⟨mid, ap, d4⟩ := r
                    simp only at hr hO4 H
                    obtain ⟨m1, m2⟩ := hr
                    clear H63 H64 KEY hc HR3 HO3
                    have hgq : g < (wc.drewN nq).heap.size := hg3
                    by_cases hside : mid - a' < b' - mid
                    · rw [if_pos hside] at hO4
                      have ts : decide ((mid : Int) - (a' : Int) < (b' : Int) - (mid : Int)) = true := by simp; omega
                      have hbal : decide (((b' : Int) - (a' : Int)) / 8 ≤ (mid : Int) - (a' : Int)) = decide (mid - a' ≥ (b' - a') / 8) := by rw [decide_eq_decide]; omega
                      have HBAL := hideP hbal
                      have HO4 := hideP hO4
                      clear hO4 hbal
                      go_wp2_with fail
                      generalize wc.drewN nq = wq at *
                      refine Calls.mono H.out ?_
                      rintro e w4 ⟨rfl, h4⟩
                      have hg4 : g < w4.heap.size := Nat.lt_of_lt_of_le hgq h4.size
                      have HR4 := hideP (HRq.out.trans h4)
                      have HI := hideP (HIH.out (mid - a') (by omega) a' mid lim1 d4 w4 (Nat.le_refl _) h4.self hg4 m1 (by omega) hlb)
                      clear h4 H HRq
                      go_wp2_with fail
                      refine Calls.mono HI.out ?_
                      rintro e w5 ⟨rfl, h5⟩
                      have HR5 := hideP (HR4.out.trans h5)
                      clear h5 HI HR4
                      go_wp2_with fail
                      go_roundw
                      case rel => exact ⟨mid + 1, b', lim1, _, _, ap, by go_num, rfl, rfl, by rw [HBAL.out], rfl, by omega, hbn', by omega, hlb, HR5.out, HO4.out⟩
                      case measure => simp [intOf]; omega
                    · rw [if_neg hside] at hO4
                      have ts : decide ((mid : Int) - (a' : Int) < (b' : Int) - (mid : Int)) = false := by simp; omega
                      have hbal : decide (((b' : Int) - (a' : Int)) / 8 ≤ (b' : Int) - (mid : Int)) = decide (b' - mid ≥ (b' - a') / 8) := by rw [decide_eq_decide]; omega
                      have HBAL := hideP hbal
                      have HO4 := hideP hO4
                      clear hO4 hbal
                      go_wp2_with fail
                      generalize wc.drewN nq = wq at *
                      refine Calls.mono H.out ?_
                      rintro e w4 ⟨rfl, h4⟩
                      have hg4 : g < w4.heap.size := Nat.lt_of_lt_of_le hgq h4.size
                      have HR4 := hideP (HRq.out.trans h4)
                      have hI := HIH.out (b' - (mid + 1)) (by omega) (mid + 1) b' lim1 d4 w4 (Nat.le_refl _) h4.self hg4 (by omega) (by omega) hlb
                      rw [show ((mid + 1 : Nat) : Int) = (mid : Int) + 1 by omega] at hI
                      have HI := hideP hI
                      clear h4 H HRq hI
                      go_wp2_with fail
                      refine Calls.mono HI.out ?_
                      rintro e w5 ⟨rfl, h5⟩
                      have HR5 := hideP (HR4.out.trans h5)
                      clear h5 HI HR4
                      go_wp2_with fail
                      go_roundw
                      case rel => exact ⟨a', mid, lim1, _, _, ap, rfl, rfl, rfl, by rw [HBAL.out], rfl, by omega, by omega, by omega, hlb, HR5.out, HO4.out⟩
                      case measure => simp [intOf]; omega

end Go.Proofs.Ybulkcghm.So
