import Derived.Test.YbulkcghmSoH
namespace Go.Proofs.Ybulkcghm.So
open Go.RowKit
open Go.Sort (swp size_swp ltInt)
set_option linter.unusedVariables false

set_option maxHeartbeats 4000000 in
set_option maxRecDepth 100000 in
theorem part_u (g off n cap a b pv : Nat) (d : Array Int) (w : World) (hR : Row w g off n d w) (hap : a ≤ pv) (hpb : pv < b) (hb : b ≤ n) (hn : n ≤ 1024) :
    Calls Yba.prog 64 #[.slice (some ⟨g, off, none⟩) n cap, .int .i64 a, .int .i64 b, .int .i64 pv] w fun e w' => e = .returned (.tuple #[.int .i64 ((Go.Sort.partition ltInt d a b pv).1 : Int), .bool (Go.Sort.partition ltInt d a b pv).2.1]) ∧ Row w g off n (Go.Sort.partition ltInt d a b pv).2.2 w' := by
  obtain ⟨r, hr⟩ : ∃ r, Go.Sort.partition ltInt d a b pv = r := ⟨_, rfl⟩
  have HT := hideP hr
  rw [hr]
  clear hr
  unfold Go.Sort.partition at HT
  simp only [gt_iff_lt] at HT
  obtain ⟨G, hG⟩ : ∃ G : Nat → Int, ∀ t, G t = d[t]! := ⟨fun t => d[t]!, fun _ => rfl⟩
  have hc : ∀ t, t < n → w.cell? ⟨g, off + t, none⟩ = some (.int .u64 (G t)) := fun t ht => by rw [hG]; exact hR.cell t ht
  have hf : ∀ t, t < n → w.frozen? ⟨g, off + t, none⟩ = false := hR.free
  obtain ⟨v', hy'⟩ := cell_set_some' (w := w) (p := ⟨g, off + a, none⟩) (x := .int .u64 (G pv)) (hc pv (by omega))
  have h1 := hR.swap a pv (by omega) (by omega)
  simp only [← hG] at h1
  have HRk := hideP h1.drew
  have i1 : (a : Int) < (n : Int) := by omega
  have i2 : (pv : Int) < (n : Int) := by omega
  clear h1 hG hR
  generalize swp d a pv = dk at *
  go_enter Yba.func64, Yba.ntmps64
  go_wp2_with fail
  go_region
  go_wp2_with fail
  clear hc hf hy' i2
  obtain ⟨G, hG⟩ : ∃ G : Nat → Int, ∀ t, G t = dk[t]! := ⟨fun t => dk[t]!, fun _ => rfl⟩
  have HG := hideP hG
  clear hG
  go_loopw [10] (fun vi wx => ∃ (i' : Nat), vi = .int .i64 i' ∧ a + 1 ≤ i' ∧ (i' ≤ b - 1 + 1 ∨ i' = a + 1) ∧ Row w g off n dk wx ∧ Go.Sort.scanUp (fun x => ltInt x dk[a]!) dk (b - 1) i' = Go.Sort.scanUp (fun x => ltInt x dk[a]!) dk (b - 1) (a + 1)) (fun vi _ => (b - 1 + 3) - (intOf vi).toNat)
  case atStart => exact ⟨a + 1, by go_num, Nat.le_refl _, Or.inr rfl, HRk.out, rfl⟩
  case round =>
    clear HRk
    obtain ⟨i', rfl, hii, hib, hRx, hU⟩ := hrel
    have HU := hideP hU
    have hc : ∀ t, t < n → wr.cell? ⟨g, off + t, none⟩ = some (.int .u64 (G t)) := fun t ht => by rw [HG.out]; exact hRx.cell t ht
    have HRx := hideP hRx
    clear hU hRx
    have OUT : Hid ((b - 1 < i' ∨ ltInt (G i') (G a) = false) → Go.Sort.scanUp (fun x => ltInt x dk[a]!) dk (b - 1) (a + 1) = i') := fun hs => by
      rw [← HU.out]
      refine up_no ?_
      rcases hs with hs | hs
      · exact Or.inl hs
      · refine Or.inr ?_
        rw [HG.out, HG.out] at hs
        exact hs
    by_cases hle : i' ≤ b - 1
    · have tg : decide ((i' : Int) ≤ ((b : Int) - 1)) = true := by simp; omega
      have j1 : (i' : Int) < (n : Int) := by omega
      obtain ⟨L, hL⟩ : ∃ L, ltInt (G i') (G a) = L := ⟨_, rfl⟩
      go_wp2_with fail
      go_quiet (first | (go_at_call 62; refine Calls.quiet_of_same (less_u _ _ _)))
      cases L
      · go_wp2_with fail
        have hI := OUT.out (Or.inr hL)
        have HRx' := hideP (HRx.out.drewN nq)
        generalize wr.drewN nq = wq at *
        clear hc HRx OUT HU
        go_loopw [11] (fun vj wx => ∃ (j' : Nat), vj = .int .i64 j' ∧ j' ≤ b - 1 ∧ Row w g off n dk wx ∧ Go.Sort.scanDown (fun x => !ltInt x dk[a]!) dk i' j' = Go.Sort.scanDown (fun x => !ltInt x dk[a]!) dk i' (b - 1) ∧ a ≤ j') (fun vj _ => (intOf vj).toNat)
        case atStart => exact ⟨b - 1, by congr 1; omega, Nat.le_refl _, HRx'.out, rfl, by omega⟩
        case round =>
          clear HRx'
          obtain ⟨j', rfl, hjj, hRy, hD, haj⟩ := hrel
          have hcy : ∀ t, t < n → wr.cell? ⟨g, off + t, none⟩ = some (.int .u64 (G t)) := fun t ht => by rw [HG.out]; exact hRy.cell t ht
          have hfy : ∀ t, t < n → wr.frozen? ⟨g, off + t, none⟩ = false := hRy.free
          have HRy := hideP hRy
          have HD := hideP hD
          clear hRy hD
          have OUT2 : Hid ((j' < i' ∨ ltInt (G j') (G a) = true) → Go.Sort.scanDown (fun x => !ltInt x dk[a]!) dk i' (b - 1) = j') := fun hs => by
            rw [← HD.out]
            refine dn_no ?_
            rcases hs with hs | hs
            · exact Or.inl hs
            · refine Or.inr ?_
              rw [HG.out, HG.out] at hs
              simp [hs]
          by_cases hle2 : i' ≤ j'
          · have tg2 : decide ((i' : Int) ≤ (j' : Int)) = true := by simp; omega
            have q0 : (j' : Int) < (n : Int) := by omega
            obtain ⟨L, hL2⟩ : ∃ L, ltInt (G j') (G a) = L := ⟨_, rfl⟩
            go_wp2_with fail
            go_quiet (first | (go_at_call 62; refine Calls.quiet_of_same (less_u _ _ _)))
            cases L
            · go_wp2_with fail
              go_roundw
              case rel =>
                refine ⟨j' - 1, by congr 1; omega, by omega, HRy.out.drewN _, ?_⟩
                rw [← HD.out]
                rw [HG.out, HG.out] at hL2
                exact ⟨(dn_go (p := fun x => !ltInt x dk[a]!) (d := dk) hle2 (by omega) (show (!ltInt dk[j']! dk[a]!) = true by rw [hL2]; rfl)).symm, by omega⟩
              case measure => simp [intOf]; omega
            · go_wp2_with fail
              have hJ := OUT2.out (Or.inr hL2)
              have HRz := hideP (HRy.out.drewN nq)
              have hcz : ∀ t, t < n → (wr.drewN nq).cell? ⟨g, off + t, none⟩ = some (.int .u64 (G t)) := hcy
              have hfz : ∀ t, t < n → (wr.drewN nq).frozen? ⟨g, off + t, none⟩ = false := hfy
              generalize wr.drewN nq = wz at *
              clear hcy hfy HRy
              have hgt : ¬ j' < i' := by omega
              have tq : decide ((j' : Int) < (i' : Int)) = false := by simp; omega
              have q1 : (i' : Int) < (n : Int) := by omega
              have q2 : (j' : Int) < (n : Int) := by omega
              obtain ⟨v', hy'⟩ := cell_set_some' (w := wz) (p := ⟨g, off + i', none⟩) (x := .int .u64 (G j')) (hcz j' (by omega))
              have h1 := HRz.out.swap i' j' (by omega) (by omega)
              simp only [← HG.out] at h1
              have e := HT.out
              simp only [hI, hJ] at e
              rw [if_neg hgt] at e
              have HT2 := hideP e
              have H1 := hideP h1.drew
              clear h1 HT e
              go_wp2_with fail
              go_region
              go_wp2_with fail
              clear hcz hfz hy' HG
              obtain ⟨i3, hi3⟩ : ∃ x, x = i' + 1 := ⟨_, rfl⟩
              obtain ⟨j3, hj3⟩ : ∃ x, x = j' - 1 := ⟨_, rfl⟩
              rw [← hi3, ← hj3] at HT2
              have f1 : a < i3 := by omega
              have f2 : i3 ≤ j3 + 2 := by omega
              have f3 : j3 < b := by omega
              have f4 : a ≤ j3 := by omega
              have g1 : (i' : Int) + 1 = (i3 : Int) := by omega
              have g2 : (j' : Int) - 1 = (j3 : Int) := by omega
              rw [g1, g2]
              generalize swp dk i' j' = d3 at *
              clear hi3 hj3 g1 g2 hI hJ tq q1 q2 hgt hle2 tg2 tg j1 q0 hL hL2
              go_loopw [10, 11] (fun vi vj wr => ∃ (i j : Nat) (dk : Array Int), vi = .int .i64 i ∧ vj = .int .i64 j ∧ a < i ∧ i ≤ j + 2 ∧ j < b ∧ a ≤ j ∧ Row w g off n dk wr ∧ Go.Sort.partLoop ltInt a i j dk = Go.Sort.partLoop ltInt a i3 j3 d3) (fun vi vj _ => (intOf vj + 2 - intOf vi).toNat)
              case atStart => exact ⟨i3, j3, d3, rfl, rfl, f1, f2, f3, f4, H1.out, rfl⟩
              case round =>
                clear H1
                rename_i i0 j0 dk0
                obtain ⟨i, j, dk, rfl, rfl, hai, hij, hjb, haj0, hRk, hO⟩ := hrel
                obtain ⟨G, hG⟩ : ∃ G : Nat → Int, ∀ t, G t = dk[t]! := ⟨fun t => dk[t]!, fun _ => rfl⟩
                have HG := hideP hG
                have HO := hideP hO
                have HRk := hideP hRk
                have HT := hideP HT2.out
                clear hRk hO hG HT2
                go_wp2_with fail
                go_loopw [10] (fun vi wx => ∃ (i' : Nat), vi = .int .i64 i' ∧ i ≤ i' ∧ (i' ≤ j + 1 ∨ i' = i) ∧ Row w g off n dk wx ∧ Go.Sort.scanUp (fun x => ltInt x dk[a]!) dk (j) i' = Go.Sort.scanUp (fun x => ltInt x dk[a]!) dk (j) (i)) (fun vi _ => (j + 3) - (intOf vi).toNat)
                case atStart => exact ⟨i, by go_num, Nat.le_refl _, Or.inr rfl, HRk.out, rfl⟩
                case round =>
                  clear HRk
                  obtain ⟨i', rfl, hii, hib, hRx, hU⟩ := hrel
                  have HU := hideP hU
                  have hc : ∀ t, t < n → wr.cell? ⟨g, off + t, none⟩ = some (.int .u64 (G t)) := fun t ht => by rw [HG.out]; exact hRx.cell t ht
                  have HRx := hideP hRx
                  clear hU hRx
                  have OUT : Hid ((j < i' ∨ ltInt (G i') (G a) = false) → Go.Sort.scanUp (fun x => ltInt x dk[a]!) dk (j) (i) = i') := fun hs => by
                    rw [← HU.out]
                    refine up_no ?_
                    rcases hs with hs | hs
                    · exact Or.inl hs
                    · refine Or.inr ?_
                      rw [HG.out, HG.out] at hs
                      exact hs
                  by_cases hle : i' ≤ j
                  · have tg : decide ((i' : Int) ≤ (j : Int)) = true := by simp; omega
                    have j1 : (i' : Int) < (n : Int) := by omega
                    obtain ⟨L, hL⟩ : ∃ L, ltInt (G i') (G a) = L := ⟨_, rfl⟩
                    go_wp2_with fail
                    go_quiet (first | (go_at_call 62; refine Calls.quiet_of_same (less_u _ _ _)))
                    cases L
                    · go_wp2_with fail
                      have hI := OUT.out (Or.inr hL)
                      have HRx' := hideP (HRx.out.drewN nq)
                      generalize wr.drewN nq = wq at *
                      clear hc HRx OUT HU
                      go_loopw [11] (fun vj wx => ∃ (j' : Nat), vj = .int .i64 j' ∧ j' ≤ j ∧ Row w g off n dk wx ∧ Go.Sort.scanDown (fun x => !ltInt x dk[a]!) dk i' j' = Go.Sort.scanDown (fun x => !ltInt x dk[a]!) dk i' (j) ∧ a ≤ j') (fun vj _ => (intOf vj).toNat)
                      case atStart => exact ⟨j, by rfl, Nat.le_refl _, HRx'.out, rfl, by omega⟩
                      case round =>
                        clear HRx'
                        obtain ⟨j', rfl, hjj, hRy, hD, haj⟩ := hrel
                        have hcy : ∀ t, t < n → wr.cell? ⟨g, off + t, none⟩ = some (.int .u64 (G t)) := fun t ht => by rw [HG.out]; exact hRy.cell t ht
                        have hfy : ∀ t, t < n → wr.frozen? ⟨g, off + t, none⟩ = false := hRy.free
                        have HRy := hideP hRy
                        have HD := hideP hD
                        clear hRy hD
                        have OUT2 : Hid ((j' < i' ∨ ltInt (G j') (G a) = true) → Go.Sort.scanDown (fun x => !ltInt x dk[a]!) dk i' (j) = j') := fun hs => by
                          rw [← HD.out]
                          refine dn_no ?_
                          rcases hs with hs | hs
                          · exact Or.inl hs
                          · refine Or.inr ?_
                            rw [HG.out, HG.out] at hs
                            simp [hs]
                        by_cases hle2 : i' ≤ j'
                        · have tg2 : decide ((i' : Int) ≤ (j' : Int)) = true := by simp; omega
                          have q0 : (j' : Int) < (n : Int) := by omega
                          obtain ⟨L, hL2⟩ : ∃ L, ltInt (G j') (G a) = L := ⟨_, rfl⟩
                          go_wp2_with fail
                          go_quiet (first | (go_at_call 62; refine Calls.quiet_of_same (less_u _ _ _)))
                          cases L
                          · go_wp2_with fail
                            go_roundw
                            case rel =>
                              refine ⟨j' - 1, by congr 1; omega, by omega, HRy.out.drewN _, ?_⟩
                              rw [← HD.out]
                              rw [HG.out, HG.out] at hL2
                              exact ⟨(dn_go (p := fun x => !ltInt x dk[a]!) (d := dk) hle2 (by omega) (show (!ltInt dk[j']! dk[a]!) = true by rw [hL2]; rfl)).symm, by omega⟩
                            case measure => simp [intOf]; omega
                          · go_wp2_with fail
                            have hJ := OUT2.out (Or.inr hL2)
                            have HRz := hideP (HRy.out.drewN nq)
                            have hcz : ∀ t, t < n → (wr.drewN nq).cell? ⟨g, off + t, none⟩ = some (.int .u64 (G t)) := hcy
                            have hfz : ∀ t, t < n → (wr.drewN nq).frozen? ⟨g, off + t, none⟩ = false := hfy
                            generalize wr.drewN nq = wz at *
                            clear hcy hfy HRy
                            have hgt : ¬ j' < i' := by omega
                            have tq : decide ((j' : Int) < (i' : Int)) = false := by simp; omega
                            have q1 : (i' : Int) < (n : Int) := by omega
                            have q2 : (j' : Int) < (n : Int) := by omega
                            obtain ⟨v', hy'⟩ := cell_set_some' (w := wz) (p := ⟨g, off + i', none⟩) (x := .int .u64 (G j')) (hcz j' (by omega))
                            have h1 := HRz.out.swap i' j' (by omega) (by omega)
                            simp only [← HG.out] at h1
                            have H1 := hideP h1
                            clear h1
                            go_wp2_with fail
                            go_region
                            go_wp2_with fail
                            go_roundw
                            case rel =>
                              refine ⟨i' + 1, j' - 1, swp dk i' j', by go_num, by congr 1; omega, by omega, by omega, by omega, by omega, H1.out.drew, ?_⟩
                              have e := HO.out
                              rw [Go.Sort.partLoop_eq, hI, hJ, if_neg hgt] at e
                              exact e
                            case measure => simp [intOf]; omega
                        · have tg2 : decide ((i' : Int) ≤ (j' : Int)) = false := by simp; omega
                          go_wp2_with fail
                          go_quiet (first | (go_at_call 62; refine Calls.quiet_of_same (less_u _ _ _)))
                          go_wp2_with fail
                          have hJ := OUT2.out (Or.inl (by omega))
                          have HRz := hideP (HRy.out.drewN nq)
                          have hcz : ∀ t, t < n → (wr.drewN nq).cell? ⟨g, off + t, none⟩ = some (.int .u64 (G t)) := hcy
                          have hfz : ∀ t, t < n → (wr.drewN nq).frozen? ⟨g, off + t, none⟩ = false := hfy
                          generalize wr.drewN nq = wz at *
                          clear hcy hfy HRy
                          have hgt : j' < i' := by omega
                          have tq : decide ((j' : Int) < (i' : Int)) = true := by simp; omega
                          have q1 : (j' : Int) < (n : Int) := by omega
                          obtain ⟨v', hy'⟩ := cell_set_some' (w := wz) (p := ⟨g, off + j', none⟩) (x := .int .u64 (G a)) (hcz a (by omega))
                          have h1 := HRz.out.swap j' a (by omega) (by omega)
                          simp only [← HG.out] at h1
                          have H1 := hideP h1
                          clear h1
                          go_wp2_with fail
                          go_region
                          go_wp2_with fail
                          go_ret2
                          have e := HO.out
                          rw [Go.Sort.partLoop_eq, hI, hJ, if_pos hgt] at e
                          have e2 := HT.out
                          rw [← e] at e2
                          refine ⟨?_, ?_⟩
                          · rw [← e2]; rfl
                          · rw [← e2]; exact H1.out.drew
                    · go_wp2_with fail
                      go_roundw
                      case rel =>
                        refine ⟨i' + 1, by go_num, by omega, Or.inl (by omega), HRx.out.drewN _, ?_⟩
                        rw [← HU.out]
                        rw [HG.out, HG.out] at hL
                        exact (up_go hle hL).symm
                      case measure => simp [intOf]; omega
                  · have tg : decide ((i' : Int) ≤ (j : Int)) = false := by simp; omega
                    go_wp2_with fail
                    go_quiet (first | (go_at_call 62; refine Calls.quiet_of_same (less_u _ _ _)))
                    go_wp2_with fail
                    have hI := OUT.out (Or.inl (by omega))
                    have HRx' := hideP (HRx.out.drewN nq)
                    generalize wr.drewN nq = wq at *
                    clear hc HRx OUT HU
                    go_loopw [11] (fun vj wx => ∃ (j' : Nat), vj = .int .i64 j' ∧ j' ≤ j ∧ Row w g off n dk wx ∧ Go.Sort.scanDown (fun x => !ltInt x dk[a]!) dk i' j' = Go.Sort.scanDown (fun x => !ltInt x dk[a]!) dk i' (j) ∧ a ≤ j') (fun vj _ => (intOf vj).toNat)
                    case atStart => exact ⟨j, by rfl, Nat.le_refl _, HRx'.out, rfl, by omega⟩
                    case round =>
                      clear HRx'
                      obtain ⟨j', rfl, hjj, hRy, hD, haj⟩ := hrel
                      have hcy : ∀ t, t < n → wr.cell? ⟨g, off + t, none⟩ = some (.int .u64 (G t)) := fun t ht => by rw [HG.out]; exact hRy.cell t ht
                      have hfy : ∀ t, t < n → wr.frozen? ⟨g, off + t, none⟩ = false := hRy.free
                      have HRy := hideP hRy
                      have HD := hideP hD
                      clear hRy hD
                      have OUT2 : Hid ((j' < i' ∨ ltInt (G j') (G a) = true) → Go.Sort.scanDown (fun x => !ltInt x dk[a]!) dk i' (j) = j') := fun hs => by
                        rw [← HD.out]
                        refine dn_no ?_
                        rcases hs with hs | hs
                        · exact Or.inl hs
                        · refine Or.inr ?_
                          rw [HG.out, HG.out] at hs
                          simp [hs]
                      by_cases hle2 : i' ≤ j'
                      · exfalso; omega
                      · have tg2 : decide ((i' : Int) ≤ (j' : Int)) = false := by simp; omega
                        go_wp2_with fail
                        go_quiet (first | (go_at_call 62; refine Calls.quiet_of_same (less_u _ _ _)))
                        go_wp2_with fail
                        have hJ := OUT2.out (Or.inl (by omega))
                        have HRz := hideP (HRy.out.drewN nq)
                        have hcz : ∀ t, t < n → (wr.drewN nq).cell? ⟨g, off + t, none⟩ = some (.int .u64 (G t)) := hcy
                        have hfz : ∀ t, t < n → (wr.drewN nq).frozen? ⟨g, off + t, none⟩ = false := hfy
                        generalize wr.drewN nq = wz at *
                        clear hcy hfy HRy
                        have hgt : j' < i' := by omega
                        have tq : decide ((j' : Int) < (i' : Int)) = true := by simp; omega
                        have q1 : (j' : Int) < (n : Int) := by omega
                        obtain ⟨v', hy'⟩ := cell_set_some' (w := wz) (p := ⟨g, off + j', none⟩) (x := .int .u64 (G a)) (hcz a (by omega))
                        have h1 := HRz.out.swap j' a (by omega) (by omega)
                        simp only [← HG.out] at h1
                        have H1 := hideP h1
                        clear h1
                        go_wp2_with fail
                        go_region
                        go_wp2_with fail
                        go_ret2
                        have e := HO.out
                        rw [Go.Sort.partLoop_eq, hI, hJ, if_pos hgt] at e
                        have e2 := HT.out
                        rw [← e] at e2
                        refine ⟨?_, ?_⟩
                        · rw [← e2]; rfl
                        · rw [← e2]; exact H1.out.drew
          · have tg2 : decide ((i' : Int) ≤ (j' : Int)) = false := by simp; omega
            go_wp2_with fail
            go_quiet (first | (go_at_call 62; refine Calls.quiet_of_same (less_u _ _ _)))
            go_wp2_with fail
            have hJ := OUT2.out (Or.inl (by omega))
            have HRz := hideP (HRy.out.drewN nq)
            have hcz : ∀ t, t < n → (wr.drewN nq).cell? ⟨g, off + t, none⟩ = some (.int .u64 (G t)) := hcy
            have hfz : ∀ t, t < n → (wr.drewN nq).frozen? ⟨g, off + t, none⟩ = false := hfy
            generalize wr.drewN nq = wz at *
            clear hcy hfy HRy
            have hgt : j' < i' := by omega
            have tq : decide ((j' : Int) < (i' : Int)) = true := by simp; omega
            have q1 : (j' : Int) < (n : Int) := by omega
            obtain ⟨v', hy'⟩ := cell_set_some' (w := wz) (p := ⟨g, off + j', none⟩) (x := .int .u64 (G a)) (hcz a (by omega))
            have h1 := HRz.out.swap j' a (by omega) (by omega)
            simp only [← HG.out] at h1
            have H1 := hideP h1
            clear h1
            go_wp2_with fail
            go_region
            go_wp2_with fail
            go_ret2
            have e := HT.out
            simp only [hI, hJ] at e
            rw [if_pos hgt] at e
            refine ⟨?_, ?_⟩
            · rw [← e]; rfl
            · rw [← e]; exact H1.out.drew
      · go_wp2_with fail
        go_roundw
        case rel =>
          refine ⟨i' + 1, by go_num, by omega, Or.inl (by omega), HRx.out.drewN _, ?_⟩
          rw [← HU.out]
          rw [HG.out, HG.out] at hL
          exact (up_go hle hL).symm
        case measure => simp [intOf]; omega
    · have tg : decide ((i' : Int) ≤ ((b : Int) - 1)) = false := by simp; omega
      go_wp2_with fail
      go_quiet (first | (go_at_call 62; refine Calls.quiet_of_same (less_u _ _ _)))
      go_wp2_with fail
      have hI := OUT.out (Or.inl (by omega))
      have HRx' := hideP (HRx.out.drewN nq)
      generalize wr.drewN nq = wq at *
      clear hc HRx OUT HU
      go_loopw [11] (fun vj wx => ∃ (j' : Nat), vj = .int .i64 j' ∧ j' ≤ b - 1 ∧ Row w g off n dk wx ∧ Go.Sort.scanDown (fun x => !ltInt x dk[a]!) dk i' j' = Go.Sort.scanDown (fun x => !ltInt x dk[a]!) dk i' (b - 1) ∧ a ≤ j') (fun vj _ => (intOf vj).toNat)
      case atStart => exact ⟨b - 1, by congr 1; omega, Nat.le_refl _, HRx'.out, rfl, by omega⟩
      case round =>
        clear HRx'
        obtain ⟨j', rfl, hjj, hRy, hD, haj⟩ := hrel
        have hcy : ∀ t, t < n → wr.cell? ⟨g, off + t, none⟩ = some (.int .u64 (G t)) := fun t ht => by rw [HG.out]; exact hRy.cell t ht
        have hfy : ∀ t, t < n → wr.frozen? ⟨g, off + t, none⟩ = false := hRy.free
        have HRy := hideP hRy
        have HD := hideP hD
        clear hRy hD
        have OUT2 : Hid ((j' < i' ∨ ltInt (G j') (G a) = true) → Go.Sort.scanDown (fun x => !ltInt x dk[a]!) dk i' (b - 1) = j') := fun hs => by
          rw [← HD.out]
          refine dn_no ?_
          rcases hs with hs | hs
          · exact Or.inl hs
          · refine Or.inr ?_
            rw [HG.out, HG.out] at hs
            simp [hs]
        by_cases hle2 : i' ≤ j'
        · exfalso; omega
        · have tg2 : decide ((i' : Int) ≤ (j' : Int)) = false := by simp; omega
          go_wp2_with fail
          go_quiet (first | (go_at_call 62; refine Calls.quiet_of_same (less_u _ _ _)))
          go_wp2_with fail
          have hJ := OUT2.out (Or.inl (by omega))
          have HRz := hideP (HRy.out.drewN nq)
          have hcz : ∀ t, t < n → (wr.drewN nq).cell? ⟨g, off + t, none⟩ = some (.int .u64 (G t)) := hcy
          have hfz : ∀ t, t < n → (wr.drewN nq).frozen? ⟨g, off + t, none⟩ = false := hfy
          generalize wr.drewN nq = wz at *
          clear hcy hfy HRy
          have hgt : j' < i' := by omega
          have tq : decide ((j' : Int) < (i' : Int)) = true := by simp; omega
          have q1 : (j' : Int) < (n : Int) := by omega
          obtain ⟨v', hy'⟩ := cell_set_some' (w := wz) (p := ⟨g, off + j', none⟩) (x := .int .u64 (G a)) (hcz a (by omega))
          have h1 := HRz.out.swap j' a (by omega) (by omega)
          simp only [← HG.out] at h1
          have H1 := hideP h1
          clear h1
          go_wp2_with fail
          go_region
          go_wp2_with fail
          go_ret2
          have e := HT.out
          simp only [hI, hJ] at e
          rw [if_pos hgt] at e
          refine ⟨?_, ?_⟩
          · rw [← e]; rfl
          · rw [← e]; exact H1.out.drew

end Go.Proofs.Ybulkcghm.So
