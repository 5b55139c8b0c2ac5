import Derived.Test.YbulkcghmSoH
namespace Go.Proofs.Ybulkcghm.So
open Go.RowKit
open Go.Sort (swp size_swp ltInt)
set_option linter.unusedVariables false

section
open Go.Sort
theorem ss_go {d : Array Int} {b i : Nat} (h : i < b) (hl : ltInt d[i]! d[i - 1]! = false) : scanSorted ltInt d b i = scanSorted ltInt d b (i + 1) := by
  rw [scanSorted, if_pos (by simp [h, hl])]
theorem ss_no {d : Array Int} {b i : Nat} (h : b ≤ i ∨ ltInt d[i]! d[i - 1]! = true) : scanSorted ltInt d b i = i := by
  rw [scanSorted, if_neg]
  rcases h with h | h
  · simp; omega
  · simp [h]
theorem sd_go {d : Array Int} {j : Nat} (h : 1 ≤ j) (hl : ltInt d[j]! d[j - 1]! = true) : shiftDown ltInt j d = shiftDown ltInt (j - 1) (swp d j (j - 1)) := by
  cases j with
  | zero => omega
  | succ k => simp only [Nat.add_sub_cancel] at hl ⊢; rw [shiftDown, if_neg (by simp [hl])]
theorem sd_no {d : Array Int} {j : Nat} (h : 1 ≤ j) (hl : ltInt d[j]! d[j - 1]! = false) : shiftDown ltInt j d = d := by
  cases j with
  | zero => omega
  | succ k => simp only [Nat.add_sub_cancel] at hl; rw [shiftDown, if_pos (by simp [hl])]
theorem pi_eq (a b s i i2 : Nat) (d : Array Int) (h : scanSorted ltInt d b i = i2) : partialIns ltInt a b (s + 1) i d =
    (if i2 = b then (d, true) else if b - a < 50 then (d, false) else
      partialIns ltInt a b s i2 (if b - i2 ≥ 2 then shiftUp ltInt b (i2 + 1) (if i2 - a ≥ 2 then shiftDown ltInt (i2 - 1) (swp d i2 (i2 - 1)) else swp d i2 (i2 - 1)) else (if i2 - a ≥ 2 then shiftDown ltInt (i2 - 1) (swp d i2 (i2 - 1)) else swp d i2 (i2 - 1)))) := by
  subst h
  rw [partialIns]
end

set_option maxHeartbeats 4000000 in
set_option maxRecDepth 100000 in
theorem pins_u (g off n cap a b : Nat) (d : Array Int) (w : World) (hR : Row w g off n d w) (hab : a < b) (hb : b ≤ n) (hn : n ≤ 1024) :
    Calls Yba.prog 61 #[.slice (some ⟨g, off, none⟩) n cap, .int .i64 a, .int .i64 b] w fun e w' => e = .returned (.bool (Go.Sort.partialInsertionSort ltInt d a b).2) ∧ Row w g off n (Go.Sort.partialInsertionSort ltInt d a b).1 w' := by
  have hT : Go.Sort.partialInsertionSort ltInt d a b = Go.Sort.partialIns ltInt a b 5 (a + 1) d := rfl
  rw [hT]
  clear hT
  obtain ⟨T, hTd⟩ : ∃ T, Go.Sort.partialIns ltInt a b 5 (a + 1) d = T := ⟨_, rfl⟩
  rw [hTd]
  have HTd := hideP hTd
  have HR := hideP hR
  clear hR hTd
  go_enter Yba.func61, Yba.ntmps61
  go_wp2_with fail
  go_loopw [8, 7] (fun vs vi wr => ∃ (s i : Nat) (dk : Array Int), vs = .int .i64 s ∧ vi = .int .i64 i ∧ s ≤ 5 ∧ a < i ∧ i ≤ b ∧ Row w g off n dk wr ∧ Go.Sort.partialIns ltInt a b (5 - s) i dk = T) (fun vs _ _ => 5 - (intOf vs).toNat)
  case atStart => exact ⟨0, a + 1, d, rfl, by go_num, by omega, by omega, by omega, HR.out, HTd.out⟩
  case round =>
    clear HR HTd
    obtain ⟨s', i, dk, rfl, rfl, hs, hai, hib, hRk, hO⟩ := hrel
    have HO := hideP hO
    have HRk := hideP hRk
    clear hRk hO
    by_cases hs5 : s' < 5
    · have ts : decide ((s' : Int) < 5) = true := by simp; omega
      obtain ⟨G, hG⟩ : ∃ G : Nat → Int, ∀ t, G t = dk[t]! := ⟨fun t => dk[t]!, fun _ => rfl⟩
      have HG := hideP hG
      clear hG
      go_wp2_with fail
      go_loopw [7] (fun vi wx => ∃ (i' : Nat), vi = .int .i64 i' ∧ i ≤ i' ∧ i' ≤ b ∧ Row w g off n dk wx ∧ Go.Sort.scanSorted ltInt dk b i' = Go.Sort.scanSorted ltInt dk b i) (fun vi _ => b - (intOf vi).toNat)
      case atStart => exact ⟨i, rfl, Nat.le_refl _, hib, HRk.out, rfl⟩
      case round =>
        clear HRk
        obtain ⟨i', rfl, hii, hib', hRx, hU⟩ := hrel
        have HU := hideP hU
        have hc : ∀ t, t < n → wr.cell? ⟨g, off + t, none⟩ = some (.int .u64 (G t)) := fun t ht => by rw [HG.out]; exact hRx.cell t ht
        have hf : ∀ t, t < n → wr.frozen? ⟨g, off + t, none⟩ = false := hRx.free
        have HRx := hideP hRx
        clear hU hRx
        by_cases hlt : i' < b
        · have tg : decide ((i' : Int) < (b : Int)) = true := by simp; omega
          have j1 : (i' : Int) < (n : Int) := by omega
          have j2 : (0 : Int) ≤ (i' : Int) - 1 := by omega
          have j3 : (i' : Int) - 1 < (n : Int) := by omega
          obtain ⟨L, hL⟩ : ∃ L, ltInt (G i') (G (i' - 1)) = L := ⟨_, rfl⟩
          go_wp2_with fail
          go_quiet (first | (go_at_call 62; refine Calls.quiet_of_same (less_u _ _ _)))
          cases L
          · go_wp2_with fail
            go_roundw
            case rel =>
              refine ⟨i' + 1, by go_num, by omega, by omega, HRx.out.drewN _, ?_⟩
              rw [← HU.out]
              rw [HG.out, HG.out] at hL
              exact (ss_go hlt hL).symm
            case measure => simp [intOf]; omega
          · have hI : Go.Sort.scanSorted ltInt dk b i = i' := by
              rw [← HU.out]
              rw [HG.out, HG.out] at hL
              exact ss_no (Or.inr hL)
            have e := HO.out
            rw [show 5 - s' = 5 - s' - 1 + 1 by omega, pi_eq a b _ i i' dk hI, if_neg (by omega)] at e
            have te : ((i' : Int) == (b : Int)) = false := by simp; omega
            have HRq := hideP (HRx.out.drewN nq)
            have hcq : ∀ t, t < n → (wr.drewN nq).cell? ⟨g, off + t, none⟩ = some (.int .u64 (G t)) := hc
            have hfq : ∀ t, t < n → (wr.drewN nq).frozen? ⟨g, off + t, none⟩ = false := hf
            generalize wr.drewN nq = wq at *
            clear hc hf HRx HU HO
            by_cases h50 : b - a < 50
            · have t50 : decide ((b : Int) - (a : Int) < 50) = true := by simp; omega
              rw [if_pos h50] at e
              have HE := hideP e
              clear e
              go_wp2_with fail
              go_ret
              exact ⟨by rw [← HE.out]; rfl, by rw [← HE.out]; exact HRq.out⟩
            · have t50 : decide ((b : Int) - (a : Int) < 50) = false := by simp; omega
              rw [if_neg h50] at e
              have h1 := HRq.out.swap i' (i' - 1) (by omega) (by omega)
              simp only [← HG.out] at h1
              generalize swp dk i' (i' - 1) = dk1 at *
              have HK1 := hideP e
              have HR1 := hideP h1.drew
              clear e h1 HRq
              by_cases hbi : b - i' ≥ 2
              · have tb : decide ((2 : Int) ≤ (b : Int) - (i' : Int)) = true := by simp; omega
                by_cases hia : i' - a ≥ 2
                · have ta : decide ((2 : Int) ≤ (i' : Int) - (a : Int)) = true := by simp; omega
                  go_wp2_with fail
                  go_region
                  clear hcq hfq
                  go_wp2_with fail
                  go_loopw [9] (fun vj wx => ∃ (j : Nat) (dj : Array Int), vj = .int .i64 j ∧ j ≤ i' - 1 ∧ Row w g off n dj wx ∧ Go.Sort.shiftDown ltInt j dj = Go.Sort.shiftDown ltInt (i' - 1) dk1) (fun vj _ => (intOf vj).toNat)
                  case atStart => exact ⟨i' - 1, dk1, by congr 1; omega, Nat.le_refl _, HR1.out, rfl⟩
                  case round =>
                    clear HR1
                    obtain ⟨jd, dd, rfl, hj1, hRj, hSh⟩ := hrel
                    have HSd := hideP hSh
                    have HRj := hideP hRj
                    obtain ⟨Gd, hGd⟩ : ∃ G : Nat → Int, ∀ t, G t = dd[t]! := ⟨fun t => dd[t]!, fun _ => rfl⟩
                    have HGd := hideP hGd
                    have hcj : ∀ t, t < n → wr.cell? ⟨g, off + t, none⟩ = some (.int .u64 (Gd t)) := fun t ht => by rw [hGd]; exact hRj.cell t ht
                    have hfj : ∀ t, t < n → wr.frozen? ⟨g, off + t, none⟩ = false := hRj.free
                    clear hSh hRj hGd
                    by_cases hj0 : 1 ≤ jd
                    · have tj : decide ((1 : Int) ≤ (jd : Int)) = true := by simp; omega
                      have q1 : (jd : Int) < (n : Int) := by omega
                      have q2 : (jd : Int) - 1 < (n : Int) := by omega
                      have q3 : (0 : Int) ≤ (jd : Int) - 1 := by omega
                      obtain ⟨Ld, hLd⟩ : ∃ L, ltInt (Gd jd) (Gd (jd - 1)) = L := ⟨_, rfl⟩
                      go_wp2_with fail
                      go_quiet (first | (go_at_call 62; refine Calls.quiet_of_same (less_u _ _ _)))
                      cases Ld
                      · have HR2 := hideP (HRj.out.drewN nq)
                        have HK2 : Hid (Go.Sort.partialIns ltInt a b (5 - s' - 1) i' (if b - i' ≥ 2 then Go.Sort.shiftUp ltInt b (i' + 1) dd else dd) = T) := by
                          have e := HK1.out
                          rw [if_pos hia, ← HSd.out] at e
                          rw [HGd.out, HGd.out] at hLd
                          rw [sd_no hj0 hLd] at e
                          exact e
                        go_wp2_with fail
                        generalize wr.drewN nq = wz at *
                        clear hcj hfj HRj HK1 HSd
                        go_loopw [10] (fun vj wx => ∃ (j : Nat) (dj : Array Int), vj = .int .i64 j ∧ i' + 1 ≤ j ∧ j ≤ b ∧ Row w g off n dj wx ∧ Go.Sort.shiftUp ltInt b j dj = Go.Sort.shiftUp ltInt b (i' + 1) dd) (fun vj _ => b - (intOf vj).toNat)
                        case atStart => exact ⟨i' + 1, dd, by go_num, Nat.le_refl _, by omega, HR2.out, rfl⟩
                        case round =>
                          clear HR2
                          obtain ⟨jj, dj, rfl, hj1, hj2, hRj, hSh⟩ := hrel
                          have HSh := hideP hSh
                          have HRj := hideP hRj
                          obtain ⟨Gj, hGj⟩ : ∃ G : Nat → Int, ∀ t, G t = dj[t]! := ⟨fun t => dj[t]!, fun _ => rfl⟩
                          have HGj := hideP hGj
                          have hcj : ∀ t, t < n → wr.cell? ⟨g, off + t, none⟩ = some (.int .u64 (Gj t)) := fun t ht => by rw [hGj]; exact hRj.cell t ht
                          have hfj : ∀ t, t < n → wr.frozen? ⟨g, off + t, none⟩ = false := hRj.free
                          clear hSh hRj hGj
                          by_cases hjb : jj < b
                          · have tj : decide ((jj : Int) < (b : Int)) = true := by simp; omega
                            have q1 : (jj : Int) < (n : Int) := by omega
                            have q2 : (jj : Int) - 1 < (n : Int) := by omega
                            have q3 : (0 : Int) ≤ (jj : Int) - 1 := by omega
                            obtain ⟨Lj, hLj⟩ : ∃ L, ltInt (Gj jj) (Gj (jj - 1)) = L := ⟨_, rfl⟩
                            go_wp2_with fail
                            go_quiet (first | (go_at_call 62; refine Calls.quiet_of_same (less_u _ _ _)))
                            cases Lj
                            · have HR3 := hideP (HRj.out.drewN nq)
                              have HK3 : Hid (Go.Sort.partialIns ltInt a b (5 - s' - 1) i' dj = T) := by
                                have e := HK2.out
                                rw [if_pos hbi, ← HSh.out] at e
                                rw [HGj.out, HGj.out] at hLj
                                rw [show Go.Sort.shiftUp ltInt b jj dj = dj by rw [Go.Sort.shiftUp, if_pos hjb, if_pos (by simp [hLj])]] at e
                                exact e
                              go_wp2_with fail
                              generalize wr.drewN nq = wz at *
                              clear hcj hfj HRj
                              go_roundw
                              case rel => exact ⟨s' + 1, i', dj, by go_num, by first | rfl | (congr 1; omega), by omega, by omega, by omega, HR3.out, by rw [show 5 - (s' + 1) = 5 - s' - 1 by omega]; exact HK3.out⟩
                              case measure => simp [intOf]; omega
                            · go_wp2_with fail
                              go_region
                              go_wp2_with fail
                              go_roundw
                              case rel =>
                                refine ⟨jj + 1, swp dj jj (jj - 1), by go_num, by omega, by omega, ?_, ?_⟩
                                · have h1 := (HRj.out.drewN (nq + 1)).swap jj (jj - 1) (by omega) (by omega)
                                  simp only [← HGj.out] at h1
                                  exact h1
                                · rw [← HSh.out]
                                  rw [HGj.out, HGj.out] at hLj
                                  conv => rhs; rw [Go.Sort.shiftUp, if_pos hjb, if_neg (by simp [hLj])]
                              case measure => simp [intOf]; omega
                          · have tj : decide ((jj : Int) < (b : Int)) = false := by simp; omega
                            have HR3 := hideP HRj.out
                            have HK3 : Hid (Go.Sort.partialIns ltInt a b (5 - s' - 1) i' dj = T) := by
                              have e := HK2.out
                              rw [if_pos hbi, ← HSh.out] at e
                              rw [show Go.Sort.shiftUp ltInt b jj dj = dj by rw [Go.Sort.shiftUp, if_neg hjb]] at e
                              exact e
                            clear hcj hfj HRj
                            go_wp2_with fail
                            go_roundw
                            case rel => exact ⟨s' + 1, i', dj, by go_num, by first | rfl | (congr 1; omega), by omega, by omega, by omega, HR3.out, by rw [show 5 - (s' + 1) = 5 - s' - 1 by omega]; exact HK3.out⟩
                            case measure => simp [intOf]; omega
                      · go_wp2_with fail
                        go_region
                        go_wp2_with fail
                        go_roundw
                        case rel =>
                          refine ⟨jd - 1, swp dd jd (jd - 1), by congr 1; omega, by omega, ?_, ?_⟩
                          · have h1 := (HRj.out.drewN (nq + 1)).swap jd (jd - 1) (by omega) (by omega)
                            simp only [← HGd.out] at h1
                            exact h1
                          · rw [← HSd.out]
                            rw [HGd.out, HGd.out] at hLd
                            exact (sd_go hj0 hLd).symm
                        case measure => simp [intOf]; omega
                    · have tj : decide ((1 : Int) ≤ (jd : Int)) = false := by simp; omega
                      have hz : jd = 0 := by omega
                      have HR2 := hideP HRj.out
                      have HK2 : Hid (Go.Sort.partialIns ltInt a b (5 - s' - 1) i' (if b - i' ≥ 2 then Go.Sort.shiftUp ltInt b (i' + 1) dd else dd) = T) := by
                        have e := HK1.out
                        rw [if_pos hia, ← HSd.out, hz] at e
                        exact e
                      clear hcj hfj HRj HK1 HSd
                      go_wp2_with fail
                      go_loopw [10] (fun vj wx => ∃ (j : Nat) (dj : Array Int), vj = .int .i64 j ∧ i' + 1 ≤ j ∧ j ≤ b ∧ Row w g off n dj wx ∧ Go.Sort.shiftUp ltInt b j dj = Go.Sort.shiftUp ltInt b (i' + 1) dd) (fun vj _ => b - (intOf vj).toNat)
                      case atStart => exact ⟨i' + 1, dd, by go_num, Nat.le_refl _, by omega, HR2.out, rfl⟩
                      case round =>
                        clear HR2
                        obtain ⟨jj, dj, rfl, hj1, hj2, hRj, hSh⟩ := hrel
                        have HSh := hideP hSh
                        have HRj := hideP hRj
                        obtain ⟨Gj, hGj⟩ : ∃ G : Nat → Int, ∀ t, G t = dj[t]! := ⟨fun t => dj[t]!, fun _ => rfl⟩
                        have HGj := hideP hGj
                        have hcj : ∀ t, t < n → wr.cell? ⟨g, off + t, none⟩ = some (.int .u64 (Gj t)) := fun t ht => by rw [hGj]; exact hRj.cell t ht
                        have hfj : ∀ t, t < n → wr.frozen? ⟨g, off + t, none⟩ = false := hRj.free
                        clear hSh hRj hGj
                        by_cases hjb : jj < b
                        · have tj : decide ((jj : Int) < (b : Int)) = true := by simp; omega
                          have q1 : (jj : Int) < (n : Int) := by omega
                          have q2 : (jj : Int) - 1 < (n : Int) := by omega
                          have q3 : (0 : Int) ≤ (jj : Int) - 1 := by omega
                          obtain ⟨Lj, hLj⟩ : ∃ L, ltInt (Gj jj) (Gj (jj - 1)) = L := ⟨_, rfl⟩
                          go_wp2_with fail
                          go_quiet (first | (go_at_call 62; refine Calls.quiet_of_same (less_u _ _ _)))
                          cases Lj
                          · have HR3 := hideP (HRj.out.drewN nq)
                            have HK3 : Hid (Go.Sort.partialIns ltInt a b (5 - s' - 1) i' dj = T) := by
                              have e := HK2.out
                              rw [if_pos hbi, ← HSh.out] at e
                              rw [HGj.out, HGj.out] at hLj
                              rw [show Go.Sort.shiftUp ltInt b jj dj = dj by rw [Go.Sort.shiftUp, if_pos hjb, if_pos (by simp [hLj])]] at e
                              exact e
                            go_wp2_with fail
                            generalize wr.drewN nq = wz at *
                            clear hcj hfj HRj
                            go_roundw
                            case rel => exact ⟨s' + 1, i', dj, by go_num, by first | rfl | (congr 1; omega), by omega, by omega, by omega, HR3.out, by rw [show 5 - (s' + 1) = 5 - s' - 1 by omega]; exact HK3.out⟩
                            case measure => simp [intOf]; omega
                          · go_wp2_with fail
                            go_region
                            go_wp2_with fail
                            go_roundw
                            case rel =>
                              refine ⟨jj + 1, swp dj jj (jj - 1), by go_num, by omega, by omega, ?_, ?_⟩
                              · have h1 := (HRj.out.drewN (nq + 1)).swap jj (jj - 1) (by omega) (by omega)
                                simp only [← HGj.out] at h1
                                exact h1
                              · rw [← HSh.out]
                                rw [HGj.out, HGj.out] at hLj
                                conv => rhs; rw [Go.Sort.shiftUp, if_pos hjb, if_neg (by simp [hLj])]
                            case measure => simp [intOf]; omega
                        · have tj : decide ((jj : Int) < (b : Int)) = false := by simp; omega
                          have HR3 := hideP HRj.out
                          have HK3 : Hid (Go.Sort.partialIns ltInt a b (5 - s' - 1) i' dj = T) := by
                            have e := HK2.out
                            rw [if_pos hbi, ← HSh.out] at e
                            rw [show Go.Sort.shiftUp ltInt b jj dj = dj by rw [Go.Sort.shiftUp, if_neg hjb]] at e
                            exact e
                          clear hcj hfj HRj
                          go_wp2_with fail
                          go_roundw
                          case rel => exact ⟨s' + 1, i', dj, by go_num, by first | rfl | (congr 1; omega), by omega, by omega, by omega, HR3.out, by rw [show 5 - (s' + 1) = 5 - s' - 1 by omega]; exact HK3.out⟩
                          case measure => simp [intOf]; omega
                · have ta : decide ((2 : Int) ≤ (i' : Int) - (a : Int)) = false := by simp; omega
                  have HR2 := hideP HR1.out
                  have HK2 : Hid (Go.Sort.partialIns ltInt a b (5 - s' - 1) i' (if b - i' ≥ 2 then Go.Sort.shiftUp ltInt b (i' + 1) dk1 else dk1) = T) := by
                    have e := HK1.out
                    rw [if_neg hia] at e
                    exact e
                  clear HR1 HK1
                  go_wp2_with fail
                  go_region
                  clear hcq hfq
                  go_wp2_with fail
                  go_loopw [10] (fun vj wx => ∃ (j : Nat) (dj : Array Int), vj = .int .i64 j ∧ i' + 1 ≤ j ∧ j ≤ b ∧ Row w g off n dj wx ∧ Go.Sort.shiftUp ltInt b j dj = Go.Sort.shiftUp ltInt b (i' + 1) dk1) (fun vj _ => b - (intOf vj).toNat)
                  case atStart => exact ⟨i' + 1, dk1, by go_num, Nat.le_refl _, by omega, HR2.out, rfl⟩
                  case round =>
                    clear HR2
                    obtain ⟨jj, dj, rfl, hj1, hj2, hRj, hSh⟩ := hrel
                    have HSh := hideP hSh
                    have HRj := hideP hRj
                    obtain ⟨Gj, hGj⟩ : ∃ G : Nat → Int, ∀ t, G t = dj[t]! := ⟨fun t => dj[t]!, fun _ => rfl⟩
                    have HGj := hideP hGj
                    have hcj : ∀ t, t < n → wr.cell? ⟨g, off + t, none⟩ = some (.int .u64 (Gj t)) := fun t ht => by rw [hGj]; exact hRj.cell t ht
                    have hfj : ∀ t, t < n → wr.frozen? ⟨g, off + t, none⟩ = false := hRj.free
                    clear hSh hRj hGj
                    by_cases hjb : jj < b
                    · have tj : decide ((jj : Int) < (b : Int)) = true := by simp; omega
                      have q1 : (jj : Int) < (n : Int) := by omega
                      have q2 : (jj : Int) - 1 < (n : Int) := by omega
                      have q3 : (0 : Int) ≤ (jj : Int) - 1 := by omega
                      obtain ⟨Lj, hLj⟩ : ∃ L, ltInt (Gj jj) (Gj (jj - 1)) = L := ⟨_, rfl⟩
                      go_wp2_with fail
                      go_quiet (first | (go_at_call 62; refine Calls.quiet_of_same (less_u _ _ _)))
                      cases Lj
                      · have HR3 := hideP (HRj.out.drewN nq)
                        have HK3 : Hid (Go.Sort.partialIns ltInt a b (5 - s' - 1) i' dj = T) := by
                          have e := HK2.out
                          rw [if_pos hbi, ← HSh.out] at e
                          rw [HGj.out, HGj.out] at hLj
                          rw [show Go.Sort.shiftUp ltInt b jj dj = dj by rw [Go.Sort.shiftUp, if_pos hjb, if_pos (by simp [hLj])]] at e
                          exact e
                        go_wp2_with fail
                        generalize wr.drewN nq = wz at *
                        clear hcj hfj HRj
                        go_roundw
                        case rel => exact ⟨s' + 1, i', dj, by go_num, by first | rfl | (congr 1; omega), by omega, by omega, by omega, HR3.out, by rw [show 5 - (s' + 1) = 5 - s' - 1 by omega]; exact HK3.out⟩
                        case measure => simp [intOf]; omega
                      · go_wp2_with fail
                        go_region
                        go_wp2_with fail
                        go_roundw
                        case rel =>
                          refine ⟨jj + 1, swp dj jj (jj - 1), by go_num, by omega, by omega, ?_, ?_⟩
                          · have h1 := (HRj.out.drewN (nq + 1)).swap jj (jj - 1) (by omega) (by omega)
                            simp only [← HGj.out] at h1
                            exact h1
                          · rw [← HSh.out]
                            rw [HGj.out, HGj.out] at hLj
                            conv => rhs; rw [Go.Sort.shiftUp, if_pos hjb, if_neg (by simp [hLj])]
                        case measure => simp [intOf]; omega
                    · have tj : decide ((jj : Int) < (b : Int)) = false := by simp; omega
                      have HR3 := hideP HRj.out
                      have HK3 : Hid (Go.Sort.partialIns ltInt a b (5 - s' - 1) i' dj = T) := by
                        have e := HK2.out
                        rw [if_pos hbi, ← HSh.out] at e
                        rw [show Go.Sort.shiftUp ltInt b jj dj = dj by rw [Go.Sort.shiftUp, if_neg hjb]] at e
                        exact e
                      clear hcj hfj HRj
                      go_wp2_with fail
                      go_roundw
                      case rel => exact ⟨s' + 1, i', dj, by go_num, by first | rfl | (congr 1; omega), by omega, by omega, by omega, HR3.out, by rw [show 5 - (s' + 1) = 5 - s' - 1 by omega]; exact HK3.out⟩
                      case measure => simp [intOf]; omega
              · have tb : decide ((2 : Int) ≤ (b : Int) - (i' : Int)) = false := by simp; omega
                by_cases hia : i' - a ≥ 2
                · have ta : decide ((2 : Int) ≤ (i' : Int) - (a : Int)) = true := by simp; omega
                  go_wp2_with fail
                  go_region
                  clear hcq hfq
                  go_wp2_with fail
                  go_loopw [9] (fun vj wx => ∃ (j : Nat) (dj : Array Int), vj = .int .i64 j ∧ j ≤ i' - 1 ∧ Row w g off n dj wx ∧ Go.Sort.shiftDown ltInt j dj = Go.Sort.shiftDown ltInt (i' - 1) dk1) (fun vj _ => (intOf vj).toNat)
                  case atStart => exact ⟨i' - 1, dk1, by congr 1; omega, Nat.le_refl _, HR1.out, rfl⟩
                  case round =>
                    clear HR1
                    obtain ⟨jd, dd, rfl, hj1, hRj, hSh⟩ := hrel
                    have HSd := hideP hSh
                    have HRj := hideP hRj
                    obtain ⟨Gd, hGd⟩ : ∃ G : Nat → Int, ∀ t, G t = dd[t]! := ⟨fun t => dd[t]!, fun _ => rfl⟩
                    have HGd := hideP hGd
                    have hcj : ∀ t, t < n → wr.cell? ⟨g, off + t, none⟩ = some (.int .u64 (Gd t)) := fun t ht => by rw [hGd]; exact hRj.cell t ht
                    have hfj : ∀ t, t < n → wr.frozen? ⟨g, off + t, none⟩ = false := hRj.free
                    clear hSh hRj hGd
                    by_cases hj0 : 1 ≤ jd
                    · have tj : decide ((1 : Int) ≤ (jd : Int)) = true := by simp; omega
                      have q1 : (jd : Int) < (n : Int) := by omega
                      have q2 : (jd : Int) - 1 < (n : Int) := by omega
                      have q3 : (0 : Int) ≤ (jd : Int) - 1 := by omega
                      obtain ⟨Ld, hLd⟩ : ∃ L, ltInt (Gd jd) (Gd (jd - 1)) = L := ⟨_, rfl⟩
                      go_wp2_with fail
                      go_quiet (first | (go_at_call 62; refine Calls.quiet_of_same (less_u _ _ _)))
                      cases Ld
                      · have HR2 := hideP (HRj.out.drewN nq)
                        have HK2 : Hid (Go.Sort.partialIns ltInt a b (5 - s' - 1) i' (if b - i' ≥ 2 then Go.Sort.shiftUp ltInt b (i' + 1) dd else dd) = T) := by
                          have e := HK1.out
                          rw [if_pos hia, ← HSd.out] at e
                          rw [HGd.out, HGd.out] at hLd
                          rw [sd_no hj0 hLd] at e
                          exact e
                        go_wp2_with fail
                        generalize wr.drewN nq = wz at *
                        clear hcj hfj HRj HK1 HSd
                        have HR3 := hideP HR2.out
                        have HK3 : Hid (Go.Sort.partialIns ltInt a b (5 - s' - 1) i' dd = T) := by
                          have e := HK2.out
                          rw [if_neg hbi] at e
                          exact e
                        clear HR2
                        go_roundw
                        case rel => exact ⟨s' + 1, i', dd, by go_num, by first | rfl | (congr 1; omega), by omega, by omega, by omega, HR3.out, by rw [show 5 - (s' + 1) = 5 - s' - 1 by omega]; exact HK3.out⟩
                        case measure => simp [intOf]; omega
                      · go_wp2_with fail
                        go_region
                        go_wp2_with fail
                        go_roundw
                        case rel =>
                          refine ⟨jd - 1, swp dd jd (jd - 1), by congr 1; omega, by omega, ?_, ?_⟩
                          · have h1 := (HRj.out.drewN (nq + 1)).swap jd (jd - 1) (by omega) (by omega)
                            simp only [← HGd.out] at h1
                            exact h1
                          · rw [← HSd.out]
                            rw [HGd.out, HGd.out] at hLd
                            exact (sd_go hj0 hLd).symm
                        case measure => simp [intOf]; omega
                    · have tj : decide ((1 : Int) ≤ (jd : Int)) = false := by simp; omega
                      have hz : jd = 0 := by omega
                      have HR2 := hideP HRj.out
                      have HK2 : Hid (Go.Sort.partialIns ltInt a b (5 - s' - 1) i' (if b - i' ≥ 2 then Go.Sort.shiftUp ltInt b (i' + 1) dd else dd) = T) := by
                        have e := HK1.out
                        rw [if_pos hia, ← HSd.out, hz] at e
                        exact e
                      clear hcj hfj HRj HK1 HSd
                      go_wp2_with fail
                      have HR3 := hideP HR2.out
                      have HK3 : Hid (Go.Sort.partialIns ltInt a b (5 - s' - 1) i' dd = T) := by
                        have e := HK2.out
                        rw [if_neg hbi] at e
                        exact e
                      clear HR2
                      go_roundw
                      case rel => exact ⟨s' + 1, i', dd, by go_num, by first | rfl | (congr 1; omega), by omega, by omega, by omega, HR3.out, by rw [show 5 - (s' + 1) = 5 - s' - 1 by omega]; exact HK3.out⟩
                      case measure => simp [intOf]; omega
                · exfalso; omega
        · have tg : decide ((i' : Int) < (b : Int)) = false := by simp; omega
          have hib2 : i' = b := by omega
          subst hib2
          have hI : Go.Sort.scanSorted ltInt dk i' i = i' := by
            rw [← HU.out]
            exact ss_no (Or.inl (Nat.le_refl _))
          have e := HO.out
          rw [show 5 - s' = 5 - s' - 1 + 1 by omega, pi_eq a i' _ i i' dk hI, if_pos rfl] at e
          have HE := hideP e
          clear e hc hf HU HO
          go_wp2_with fail
          go_quiet (first | (go_at_call 62; refine Calls.quiet_of_same (less_u _ _ _)))
          go_wp2_with fail
          go_ret
          exact ⟨by rw [← HE.out]; rfl, by rw [← HE.out]; exact HRx.out.drewN _⟩
    · have ts : decide ((s' : Int) < 5) = false := by simp; omega
      have e := HO.out
      rw [show 5 - s' = 0 by omega, Go.Sort.partialIns] at e
      have HE := hideP e
      clear e HO
      go_wp2_with fail
      go_ret
      exact ⟨by rw [← HE.out]; rfl, by rw [← HE.out]; exact HRk.out⟩

end Go.Proofs.Ybulkcghm.So
