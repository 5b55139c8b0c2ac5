import Derived.Test.YbulkcghmHpF
namespace Go.Proofs.Ybulkcghm.Hp
open Go.RowKit Go.Deep Go.Proofs.Ybulkcghm.Pop
open Go.Sort (swp size_swp swp_get)
set_option linter.unusedVariables false

set_option maxHeartbeats 4000000 in
set_option maxRecDepth 100000 in
/-- container/heap.down, from the top. -/
theorem dn_h (B hp g cap n : Nat) (T : Array (Nat × Int)) (w : World) (h : Hp B w hp g cap T) (hn : T.size ≤ 1024) (hsz : n < T.size) (hD : DnI (fun k => T[k]!.2) n 0) :
    Calls Yba.prog 43 #[.iface 70 (.pointer (some ⟨hp, 0, none⟩)), .int .i64 0, .int .i64 n] w fun e w' =>
      (∃ b, e = .returned (.bool b)) ∧ ∃ T', Lp B w w' hp g cap T T' ∧ Ord (fun k => T'[k]!.2) n ∧ T'[n]! = T[n]! := by
  have H := hideP h
  have HD0 := hideP hD
  clear h hD
  go_enter Yba.func43, Yba.ntmps43
  go_wp2_with fail
  go_loopw [7] (fun vi wr => ∃ (i : Nat) (Tk : Array (Nat × Int)), vi = .int .i64 i ∧ i ≤ n ∧ n < Tk.size ∧ Hid (Lp B w wr hp g cap T Tk) ∧ Hid (DnI (fun k => Tk[k]!.2) n i) ∧ Hid (Tk[n]! = T[n]!)) (fun vi _ => n - (intOf vi).toNat)
  case atStart => exact ⟨0, T, rfl, Nat.zero_le _, hsz, ⟨H.out, rfl, List.Perm.refl _, Kp.refl _ _⟩, HD0.out, rfl⟩
  case round =>
    clear H HD0
    obtain ⟨i, Tk, rfl, hi, hnT, HL, HD, HN⟩ := hrel
    have hn2 : Tk.size ≤ 1024 := by rw [HL.out.sz]; exact hn
    clear hn hsz
    have t0 : decide (2 * (i : Int) + 1 < 0) = false := by simp; omega
    by_cases hend : n ≤ 2 * i + 1
    · have t1 : decide ((n : Int) ≤ 2 * (i : Int) + 1) = true := by simp; omega
      go_wp2_with fail
      go_ret
      exact ⟨⟨_, rfl⟩, Tk, HL.out, dn_end HD.out hend, HN.out⟩
    · have t1 : decide ((n : Int) ≤ 2 * (i : Int) + 1) = false := by simp; omega
      by_cases hg1 : 2 * i + 2 < n
      · have t2 : decide (2 * (i : Int) + 1 + 1 < (n : Int)) = true := by simp; omega
        have hm1 := HL.out.st.mless
        have HS1 := hideP (HL.out.st.less hn2 (i := 2 * i + 2) (j := 2 * i + 1) (by omega) (by omega))
        rw [show (((2 * i + 2 : Nat) : Int)) = 2 * (i : Int) + 1 + 1 by omega, show (((2 * i + 1 : Nat) : Int)) = 2 * (i : Int) + 1 by omega] at HS1
        obtain ⟨L1, hL1⟩ : ∃ L, decide (Tk[2 * i + 2]!.2 < Tk[2 * i + 1]!.2) = L := ⟨_, rfl⟩
        rw [hL1] at HS1
        have HL1 := hideP hL1
        clear hL1
        go_wp2_with fail
        refine Calls.mono HS1.out ?_
        rintro e w1 ⟨rfl, h1, k1⟩
        have HLa := hideP (HL.out.later h1 k1)
        clear hm1 HS1 HL k1 h1
        cases L1
        · have KD : Hid (Kid (fun k => Tk[k]!.2) n i (2 * i + 1)) := Or.inl ⟨rfl, Or.inr (by have := HL1.out; simpa using this)⟩
          clear HL1
          have hma := HLa.out.st.mless
          have HSa := hideP (HLa.out.st.less hn2 (i := 2 * i + 1) (j := i) (by omega) (by omega))
          rw [show (((2 * i + 1 : Nat) : Int)) = 2 * (i : Int) + 1 by omega] at HSa
          obtain ⟨L2, hL2⟩ : ∃ L, decide (Tk[2 * i + 1]!.2 < Tk[i]!.2) = L := ⟨_, rfl⟩
          rw [hL2] at HSa
          have HL2 := hideP hL2
          clear hL2
          go_wp2_with fail
          refine Calls.mono HSa.out ?_
          rintro e w9 ⟨rfl, h9, k9⟩
          have HL9 := hideP (HLa.out.later h9 k9)
          clear hma HSa HLa k9
          cases L2
          · clear h9
            go_wp2_with fail
            go_ret
            exact ⟨⟨_, rfl⟩, Tk, HL9.out, dn_stop HD.out KD.out (by have := HL2.out; simpa using this), HN.out⟩
          · have hm := h9.mswap
            have HS := hideP (h9.swap hn2 (i := i) (j := 2 * i + 1) (by omega) (by omega) (by omega))
            rw [show (((2 * i + 1 : Nat) : Int)) = 2 * (i : Int) + 1 by omega] at HS
            clear h9
            go_wp2_with fail
            refine Calls.mono HS.out ?_
            rintro e w10 ⟨rfl, h10, k10⟩
            have HL10 := hideP (HL9.out.swp (i := i) (j := 2 * i + 1) (by omega) (by omega) h10 k10)
            clear hm HS h10 k10
            go_wp2_with fail
            go_roundw
            case rel =>
              refine ⟨2 * i + 1, swp Tk i (2 * i + 1), by go_num, by omega, by rw [size_swp]; omega, HL10.out, ?_, ?_⟩
              · exact dn_step HD.out KD.out (by omega) (by simpa using HL2.out) (xc_swp Tk (by omega) (by omega))
              · unfold Hid
                rw [← HN.out]
                exact Go.Sort.swp_other Tk i (2 * i + 1) n (by omega) (by omega)
            case measure => simp [intOf]; omega
        · have KD : Hid (Kid (fun k => Tk[k]!.2) n i (2 * i + 2)) := Or.inr ⟨rfl, by have := HL1.out; simp at this; exact Int.le_of_lt this⟩
          clear HL1
          have hma := HLa.out.st.mless
          have HSa := hideP (HLa.out.st.less hn2 (i := 2 * i + 2) (j := i) (by omega) (by omega))
          rw [show (((2 * i + 2 : Nat) : Int)) = 2 * (i : Int) + 1 + 1 by omega] at HSa
          obtain ⟨L2, hL2⟩ : ∃ L, decide (Tk[2 * i + 2]!.2 < Tk[i]!.2) = L := ⟨_, rfl⟩
          rw [hL2] at HSa
          have HL2 := hideP hL2
          clear hL2
          go_wp2_with fail
          refine Calls.mono HSa.out ?_
          rintro e w9 ⟨rfl, h9, k9⟩
          have HL9 := hideP (HLa.out.later h9 k9)
          clear hma HSa HLa k9
          cases L2
          · clear h9
            go_wp2_with fail
            go_ret
            exact ⟨⟨_, rfl⟩, Tk, HL9.out, dn_stop HD.out KD.out (by have := HL2.out; simpa using this), HN.out⟩
          · have hm := h9.mswap
            have HS := hideP (h9.swap hn2 (i := i) (j := 2 * i + 2) (by omega) (by omega) (by omega))
            rw [show (((2 * i + 2 : Nat) : Int)) = 2 * (i : Int) + 1 + 1 by omega] at HS
            clear h9
            go_wp2_with fail
            refine Calls.mono HS.out ?_
            rintro e w10 ⟨rfl, h10, k10⟩
            have HL10 := hideP (HL9.out.swp (i := i) (j := 2 * i + 2) (by omega) (by omega) h10 k10)
            clear hm HS h10 k10
            go_wp2_with fail
            go_roundw
            case rel =>
              refine ⟨2 * i + 2, swp Tk i (2 * i + 2), by go_num, by omega, by rw [size_swp]; omega, HL10.out, ?_, ?_⟩
              · exact dn_step HD.out KD.out (by omega) (by simpa using HL2.out) (xc_swp Tk (by omega) (by omega))
              · unfold Hid
                rw [← HN.out]
                exact Go.Sort.swp_other Tk i (2 * i + 2) n (by omega) (by omega)
            case measure => simp [intOf]; omega
      · have t2 : decide (2 * (i : Int) + 1 + 1 < (n : Int)) = false := by simp; omega
        have KD : Hid (Kid (fun k => Tk[k]!.2) n i (2 * i + 1)) := Or.inl ⟨rfl, Or.inl (by omega)⟩
        have hmb := HL.out.st.mless
        have HSb := hideP (HL.out.st.less hn2 (i := 2 * i + 1) (j := i) (by omega) (by omega))
        rw [show (((2 * i + 1 : Nat) : Int)) = 2 * (i : Int) + 1 by omega] at HSb
        obtain ⟨L2, hL2⟩ : ∃ L, decide (Tk[2 * i + 1]!.2 < Tk[i]!.2) = L := ⟨_, rfl⟩
        rw [hL2] at HSb
        have HL2 := hideP hL2
        clear hL2
        go_wp2_with fail
        refine Calls.mono HSb.out ?_
        rintro e w9 ⟨rfl, h9, k9⟩
        have HL9 := hideP (HL.out.later h9 k9)
        clear hmb HSb HL k9
        cases L2
        · clear h9
          go_wp2_with fail
          go_ret
          exact ⟨⟨_, rfl⟩, Tk, HL9.out, dn_stop HD.out KD.out (by have := HL2.out; simpa using this), HN.out⟩
        · have hm := h9.mswap
          have HS := hideP (h9.swap hn2 (i := i) (j := 2 * i + 1) (by omega) (by omega) (by omega))
          rw [show (((2 * i + 1 : Nat) : Int)) = 2 * (i : Int) + 1 by omega] at HS
          clear h9
          go_wp2_with fail
          refine Calls.mono HS.out ?_
          rintro e w10 ⟨rfl, h10, k10⟩
          have HL10 := hideP (HL9.out.swp (i := i) (j := 2 * i + 1) (by omega) (by omega) h10 k10)
          clear hm HS h10 k10
          go_wp2_with fail
          go_roundw
          case rel =>
            refine ⟨2 * i + 1, swp Tk i (2 * i + 1), by go_num, by omega, by rw [size_swp]; omega, HL10.out, ?_, ?_⟩
            · exact dn_step HD.out KD.out (by omega) (by simpa using HL2.out) (xc_swp Tk (by omega) (by omega))
            · unfold Hid
              rw [← HN.out]
              exact Go.Sort.swp_other Tk i (2 * i + 1) n (by omega) (by omega)
          case measure => simp [intOf]; omega

end Go.Proofs.Ybulkcghm.Hp
