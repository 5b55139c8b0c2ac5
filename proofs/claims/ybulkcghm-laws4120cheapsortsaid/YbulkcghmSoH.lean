import Derived.Test.YbulkcghmSoA
namespace Go.Proofs.Ybulkcghm.So
open Go.RowKit
open Go.Sort (swp size_swp ltInt)
set_option linter.unusedVariables false

section
open Go.Sort
theorem up_go {p : Int → Bool} {d : Array Int} {j i : Nat} (h : i ≤ j) (hp : p d[i]! = true) : scanUp p d j i = scanUp p d j (i + 1) := by
  rw [scanUp, if_pos (by simp [h, hp])]
theorem up_no {p : Int → Bool} {d : Array Int} {j i : Nat} (h : j < i ∨ p d[i]! = false) : scanUp p d j i = i := by
  rw [scanUp, if_neg]
  rcases h with h | h
  · simp; omega
  · simp [h]
theorem dn_go {p : Int → Bool} {d : Array Int} {i j : Nat} (h : i ≤ j) (h0 : 1 ≤ j) (hp : p d[j]! = true) : scanDown p d i j = scanDown p d i (j - 1) := by
  cases j with
  | zero => omega
  | succ k => rw [scanDown, if_pos (by simp [h, hp])]; rfl
theorem dn_no {p : Int → Bool} {d : Array Int} {i j : Nat} (h : j < i ∨ p d[j]! = false) : scanDown p d i j = j := by
  cases j with
  | zero => rw [scanDown]
  | succ k =>
    rw [scanDown, if_neg]
    rcases h with h | h
    · simp; omega
    · simp [h]
end

theorem cell_set_some' {w : World} {p q : Addr} {x v : Value} (h : w.cell? q = some v) : ∃ v', (w.setCell p x).cell? q = some v' := by
  by_cases e : p = q
  · subst e; exact ⟨x, World.cell?_setCell_same _ _ _ h⟩
  · exact ⟨v, (World.cell?_setCell_other _ _ _ _ e).trans h⟩

set_option maxHeartbeats 2000000 in
set_option maxRecDepth 100000 in
theorem partEq_u (g off n cap a b pv : Nat) (d : Array Int) (w : World) (hR : Row w g off n d w) (hap : a ≤ pv) (hpb : pv < b) (hb : b ≤ n) (hn : n ≤ 1024) :
    Calls Yba.prog 63 #[.slice (some ⟨g, off, none⟩) n cap, .int .i64 a, .int .i64 b, .int .i64 pv] w fun e w' => e = .returned (.int .i64 ((Go.Sort.partitionEqual ltInt d a b pv).1 : Int)) ∧ Row w g off n (Go.Sort.partitionEqual ltInt d a b pv).2 w' := by
  have hT : Go.Sort.partitionEqual ltInt d a b pv = Go.Sort.partEqLoop ltInt a (a + 1) (b - 1) (swp d a pv) := rfl
  rw [hT]
  clear hT
  obtain ⟨G, hG⟩ : ∃ G : Nat → Int, ∀ t, G t = d[t]! := ⟨fun t => d[t]!, fun _ => rfl⟩
  have hc : ∀ t, t < n → w.cell? ⟨g, off + t, none⟩ = some (.int .u64 (G t)) := fun t ht => by rw [hG]; exact hR.cell t ht
  have hf : ∀ t, t < n → w.frozen? ⟨g, off + t, none⟩ = false := hR.free
  obtain ⟨v', hy'⟩ := cell_set_some' (w := w) (p := ⟨g, off + a, none⟩) (x := .int .u64 (G pv)) (hc pv (by omega))
  have h1 := hR.swap a pv (by omega) (by omega)
  simp only [← hG] at h1
  have H1 := hideP h1
  have i1 : (a : Int) < (n : Int) := by omega
  have i2 : (pv : Int) < (n : Int) := by omega
  clear h1 hG hR
  go_enter Yba.func63, Yba.ntmps63
  go_wp2_with fail
  go_region
  go_wp2_with fail
  clear hc hf hy' i2
  go_loopw [9, 10] (fun vi vj wr => ∃ (i j : Nat) (dk : Array Int), vi = .int .i64 i ∧ vj = .int .i64 j ∧ a < i ∧ i ≤ j + 2 ∧ j < b ∧ Row w g off n dk wr ∧ Go.Sort.partEqLoop ltInt a i j dk = Go.Sort.partEqLoop ltInt a (a + 1) (b - 1) (swp d a pv)) (fun vi vj _ => (intOf vj + 2 - intOf vi).toNat)
  case atStart => exact ⟨a + 1, b - 1, swp d a pv, by go_num, by congr 1; omega, by omega, by omega, by omega, H1.out.drew, rfl⟩
  case round =>
    clear H1
    obtain ⟨i, j, dk, rfl, rfl, hai, hij, hjb, hRk, hO⟩ := hrel
    obtain ⟨G, hG⟩ : ∃ G : Nat → Int, ∀ t, G t = dk[t]! := ⟨fun t => dk[t]!, fun _ => rfl⟩
    have HG := hideP hG
    have HO := hideP hO
    have HRk := hideP hRk
    clear hRk hO hG
    go_wp2_with fail
    go_loopw [9] (fun vi wx => ∃ (i' : Nat), vi = .int .i64 i' ∧ i ≤ i' ∧ (i' ≤ j + 1 ∨ i' = i) ∧ Row w g off n dk wx ∧ Go.Sort.scanUp (fun x => !ltInt dk[a]! x) dk j i' = Go.Sort.scanUp (fun x => !ltInt dk[a]! x) dk j i) (fun vi _ => (j + 3) - (intOf vi).toNat)
    case atStart => exact ⟨i, rfl, Nat.le_refl _, Or.inr rfl, HRk.out, rfl⟩
    case round =>
      clear HRk
      obtain ⟨i', rfl, hii, hib, hRx, hU⟩ := hrel
      have HU := hideP hU
      have hc : ∀ t, t < n → wr.cell? ⟨g, off + t, none⟩ = some (.int .u64 (G t)) := fun t ht => by rw [HG.out]; exact hRx.cell t ht
      have HRx := hideP hRx
      clear hU hRx
      have OUT : Hid ((j < i' ∨ ltInt (G a) (G i') = true) → Go.Sort.scanUp (fun x => !ltInt dk[a]! x) dk j i = i') := fun hs => by
        rw [← HU.out]
        refine up_no ?_
        rcases hs with hs | hs
        · exact Or.inl hs
        · refine Or.inr ?_
          rw [HG.out, HG.out] at hs
          simp [hs]
      by_cases hle : i' ≤ j
      · have tg : decide ((i' : Int) ≤ (j : Int)) = true := by simp; omega
        have j1 : (i' : Int) < (n : Int) := by omega
        obtain ⟨L, hL⟩ : ∃ L, ltInt (G a) (G i') = L := ⟨_, rfl⟩
        go_wp2_with fail
        go_quiet (first | (go_at_call 62; refine Calls.quiet_of_same (less_u _ _ _)))
        cases L
        · go_wp2_with fail
          go_roundw
          case rel =>
            refine ⟨i' + 1, by go_num, by omega, Or.inl (by omega), HRx.out.drewN _, ?_⟩
            rw [← HU.out]
            rw [HG.out, HG.out] at hL
            exact (up_go hle (by simp [hL])).symm
          case measure => simp [intOf]; omega
        · go_wp2_with fail
          have hI := OUT.out (Or.inr hL)
          have HRx' := hideP (HRx.out.drewN nq)
          generalize wr.drewN nq = wq at *
          clear hc HRx OUT HU
          go_loopw [10] (fun vj wx => ∃ (j' : Nat), vj = .int .i64 j' ∧ j' ≤ j ∧ Row w g off n dk wx ∧ Go.Sort.scanDown (fun x => ltInt dk[a]! x) dk i' j' = Go.Sort.scanDown (fun x => ltInt dk[a]! x) dk i' j) (fun vj _ => (intOf vj).toNat)
          case atStart => exact ⟨j, rfl, Nat.le_refl _, HRx'.out, rfl⟩
          case round =>
            clear HRx'
            obtain ⟨j', rfl, hjj, hRy, hD⟩ := hrel
            have hcy : ∀ t, t < n → wr.cell? ⟨g, off + t, none⟩ = some (.int .u64 (G t)) := fun t ht => by rw [HG.out]; exact hRy.cell t ht
            have hfy : ∀ t, t < n → wr.frozen? ⟨g, off + t, none⟩ = false := hRy.free
            have HRy := hideP hRy
            have HD := hideP hD
            clear hRy hD
            have OUT2 : Hid ((j' < i' ∨ ltInt (G a) (G j') = false) → Go.Sort.scanDown (fun x => ltInt dk[a]! x) dk i' j = j') := fun hs => by
              rw [← HD.out]
              refine dn_no ?_
              rcases hs with hs | hs
              · exact Or.inl hs
              · refine Or.inr ?_
                rw [HG.out, HG.out] at hs
                exact hs
            by_cases hle2 : i' ≤ j'
            · have tg2 : decide ((i' : Int) ≤ (j' : Int)) = true := by simp; omega
              have q0 : (j' : Int) < (n : Int) := by omega
              obtain ⟨L, hL2⟩ : ∃ L, ltInt (G a) (G j') = L := ⟨_, rfl⟩
              go_wp2_with fail
              go_quiet (first | (go_at_call 62; refine Calls.quiet_of_same (less_u _ _ _)))
              cases L
              · go_wp2_with fail
                have hJ := OUT2.out (Or.inr hL2)
                have HRz := hideP (HRy.out.drewN nq)
                have hcz : ∀ t, t < n → (wr.drewN nq).cell? ⟨g, off + t, none⟩ = some (.int .u64 (G t)) := hcy
                have hfz : ∀ t, t < n → (wr.drewN nq).frozen? ⟨g, off + t, none⟩ = false := hfy
                generalize wr.drewN nq = wz at *
                clear hcy hfy HRy
                have hgt : ¬ j' < i' := by omega
                have tq : decide ((j' : Int) < (i' : Int)) = false := by simp; omega
                have q1 : (i' : Int) < (n : Int) := by omega
                have q2 : (j' : Int) < (n : Int) := by omega
                obtain ⟨v', hy'⟩ := cell_set_some' (w := wz) (p := ⟨g, off + i', none⟩) (x := .int .u64 (G j')) (hcz j' (by omega))
                have h1 := HRz.out.swap i' j' (by omega) (by omega)
                simp only [← HG.out] at h1
                have H1 := hideP h1
                clear h1
                go_wp2_with fail
                go_region
                go_wp2_with fail
                go_roundw
                case rel =>
                  refine ⟨i' + 1, j' - 1, swp dk i' j', by go_num, by congr 1; omega, by omega, by omega, by omega, H1.out.drew, ?_⟩
                  have e := HO.out
                  rw [Go.Sort.partEqLoop_eq, hI, hJ, if_neg hgt] at e
                  exact e
                case measure => simp [intOf]; omega
              · go_wp2_with fail
                go_roundw
                case rel =>
                  refine ⟨j' - 1, by congr 1; omega, by omega, HRy.out.drewN _, ?_⟩
                  rw [← HD.out]
                  rw [HG.out, HG.out] at hL2
                  exact (dn_go hle2 (by omega) hL2).symm
                case measure => simp [intOf]; omega
            · have tg2 : decide ((i' : Int) ≤ (j' : Int)) = false := by simp; omega
              go_wp2_with fail
              go_quiet (first | (go_at_call 62; refine Calls.quiet_of_same (less_u _ _ _)))
              go_wp2_with fail
              have hJ := OUT2.out (Or.inl (by omega))
              have HRz := hideP (HRy.out.drewN nq)
              have hcz : ∀ t, t < n → (wr.drewN nq).cell? ⟨g, off + t, none⟩ = some (.int .u64 (G t)) := hcy
              have hfz : ∀ t, t < n → (wr.drewN nq).frozen? ⟨g, off + t, none⟩ = false := hfy
              generalize wr.drewN nq = wz at *
              clear hcy hfy HRy
              have hgt : j' < i' := by omega
              have tq : decide ((j' : Int) < (i' : Int)) = true := by simp; omega
              go_wp2_with fail
              go_ret
              refine ⟨?_, ?_⟩
              · rw [← HO.out, Go.Sort.partEqLoop_eq, hI, hJ, if_pos hgt]; rfl
              · rw [← HO.out, Go.Sort.partEqLoop_eq, hI, hJ, if_pos hgt]
                exact HRz.out
      · have tg : decide ((i' : Int) ≤ (j : Int)) = false := by simp; omega
        go_wp2_with fail
        go_quiet (first | (go_at_call 62; refine Calls.quiet_of_same (less_u _ _ _)))
        go_wp2_with fail
        have hI := OUT.out (Or.inl (by omega))
        have HRx' := hideP (HRx.out.drewN nq)
        generalize wr.drewN nq = wq at *
        clear hc HRx OUT HU
        go_loopw [10] (fun vj wx => ∃ (j' : Nat), vj = .int .i64 j' ∧ j' ≤ j ∧ Row w g off n dk wx ∧ Go.Sort.scanDown (fun x => ltInt dk[a]! x) dk i' j' = Go.Sort.scanDown (fun x => ltInt dk[a]! x) dk i' j) (fun vj _ => (intOf vj).toNat)
        case atStart => exact ⟨j, rfl, Nat.le_refl _, HRx'.out, rfl⟩
        case round =>
          clear HRx'
          obtain ⟨j', rfl, hjj, hRy, hD⟩ := hrel
          have hcy : ∀ t, t < n → wr.cell? ⟨g, off + t, none⟩ = some (.int .u64 (G t)) := fun t ht => by rw [HG.out]; exact hRy.cell t ht
          have hfy : ∀ t, t < n → wr.frozen? ⟨g, off + t, none⟩ = false := hRy.free
          have HRy := hideP hRy
          have HD := hideP hD
          clear hRy hD
          have OUT2 : Hid ((j' < i' ∨ ltInt (G a) (G j') = false) → Go.Sort.scanDown (fun x => ltInt dk[a]! x) dk i' j = j') := fun hs => by
            rw [← HD.out]
            refine dn_no ?_
            rcases hs with hs | hs
            · exact Or.inl hs
            · refine Or.inr ?_
              rw [HG.out, HG.out] at hs
              exact hs
          by_cases hle2 : i' ≤ j'
          · exfalso; omega
          · have tg2 : decide ((i' : Int) ≤ (j' : Int)) = false := by simp; omega
            go_wp2_with fail
            go_quiet (first | (go_at_call 62; refine Calls.quiet_of_same (less_u _ _ _)))
            go_wp2_with fail
            have hJ := OUT2.out (Or.inl (by omega))
            have HRz := hideP (HRy.out.drewN nq)
            have hcz : ∀ t, t < n → (wr.drewN nq).cell? ⟨g, off + t, none⟩ = some (.int .u64 (G t)) := hcy
            have hfz : ∀ t, t < n → (wr.drewN nq).frozen? ⟨g, off + t, none⟩ = false := hfy
            generalize wr.drewN nq = wz at *
            clear hcy hfy HRy
            have hgt : j' < i' := by omega
            have tq : decide ((j' : Int) < (i' : Int)) = true := by simp; omega
            go_wp2_with fail
            go_ret
            refine ⟨?_, ?_⟩
            · rw [← HO.out, Go.Sort.partEqLoop_eq, hI, hJ, if_pos hgt]; rfl
            · rw [← HO.out, Go.Sort.partEqLoop_eq, hI, hJ, if_pos hgt]
              exact HRz.out

end Go.Proofs.Ybulkcghm.So
