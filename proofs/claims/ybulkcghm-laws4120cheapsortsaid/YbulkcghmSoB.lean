import Derived.Test.YbulkcghmSoA
namespace Go.Proofs.Ybulkcghm.So
open Go.RowKit
open Go.Sort (swp size_swp ltInt)
set_option linter.unusedVariables false

section
open Go.Sort
theorem sift_end {hi first r : Nat} {d : Array Int} (h : hi ≤ 2 * r + 1) : siftDown ltInt hi first r d = d := by rw [siftDown, dif_pos h]
theorem sift_go {hi first r c : Nat} {d : Array Int} (h : 2 * r + 1 < hi) (hc : (c = 2 * r + 2 ∧ 2 * r + 2 < hi ∧ ltInt d[first + (2 * r + 1)]! d[first + (2 * r + 2)]! = true) ∨ (c = 2 * r + 1 ∧ (hi ≤ 2 * r + 2 ∨ ltInt d[first + (2 * r + 1)]! d[first + (2 * r + 2)]! = false))) :
    siftDown ltInt hi first r d = if ltInt d[first + r]! d[first + c]! then siftDown ltInt hi first c (swp d (first + r) (first + c)) else d := by
  rw [siftDown, dif_neg (by omega)]
  rcases hc with ⟨rfl, h1, h2⟩ | ⟨rfl, h1⟩
  · rw [if_pos (by simp only [Bool.and_eq_true, decide_eq_true_eq]; exact ⟨by omega, h2⟩), dif_pos h1]
    cases ltInt d[first + r]! d[first + (2 * r + 2)]! <;> rfl
  · rw [if_neg (by simp only [Bool.and_eq_true, decide_eq_true_eq, not_and]; intro h3; rcases h1 with h1 | h1; · omega
                   · intro h4; have h5 : ltInt d[first + (2 * r + 1)]! d[first + (2 * r + 2)]! = true := h4; rw [h1] at h5; cases h5)]
    cases ltInt d[first + r]! d[first + (2 * r + 1)]! <;> rfl
end

set_option maxHeartbeats 4000000 in
set_option maxRecDepth 100000 in
theorem sift (g off n cap root hi first : Nat) (d : Array Int) (w : World) (hR : Row w g off n d w) (hroot : root ≤ 1024) (hhi : first + hi ≤ n) (hn : n ≤ 1024) :
    Calls Yba.prog 83 #[.slice (some ⟨g, off, none⟩) n cap, .int .i64 root, .int .i64 hi, .int .i64 first] w fun e w' => e = .returned (.tuple #[]) ∧ Row w g off n (Go.Sort.siftDown ltInt hi first root d) w' := by
  have HR := hideP hR
  clear hR
  have hfi : first ≤ 1024 := by omega
  have hhi2 : hi ≤ 1024 := by omega
  go_enter Yba.func83, Yba.ntmps83
  go_wp2_with fail
  go_loopw [8] (fun vi wr => ∃ (r : Nat) (dk : Array Int), vi = .int .i64 r ∧ r ≤ 1024 ∧ Row w g off n dk wr ∧ Go.Sort.siftDown ltInt hi first r dk = Go.Sort.siftDown ltInt hi first root d) (fun vi _ => hi - (intOf vi).toNat)
  case atStart => exact ⟨root, d, rfl, hroot, HR.out, rfl⟩
  case round =>
    obtain ⟨r, dk, rfl, hr, hRk, hO⟩ := hrel
    obtain ⟨G, hG⟩ : ∃ G : Nat → Int, ∀ t, G t = dk[t]! := ⟨fun t => dk[t]!, fun _ => rfl⟩
    have hc : ∀ t, t < n → wr.cell? ⟨g, off + t, none⟩ = some (.int .u64 (G t)) := fun t ht => by rw [hG]; exact hRk.cell t ht
    have hf : ∀ t, t < n → wr.frozen? ⟨g, off + t, none⟩ = false := hRk.free
    have HO := hideP hO
    have HRk := hideP hRk
    have HG := hideP hG
    clear hO hRk HR hG
    have KEY : Hid (∀ c L2, (c = 2 * r + 2 ∧ 2 * r + 2 < hi ∧ ltInt (G (first + 2 * r + 1)) (G (first + 2 * r + 2)) = true) ∨ (c = 2 * r + 1 ∧ (hi ≤ 2 * r + 2 ∨ ltInt (G (first + 2 * r + 1)) (G (first + 2 * r + 2)) = false)) → ltInt (G (first + r)) (G (first + c)) = L2 → 2 * r + 1 < hi →
        (if L2 then Go.Sort.siftDown ltInt hi first c (swp dk (first + r) (first + c)) else dk) = Go.Sort.siftDown ltInt hi first root d) := fun c L2 h1 h2 h3 => by
      have e := sift_go (hi := hi) (first := first) (r := r) (c := c) (d := dk) h3 (by rw [← HG.out, ← HG.out]; exact h1)
      rw [← HG.out, ← HG.out, h2] at e
      rw [← HO.out, e]
    by_cases hend : hi ≤ 2 * r + 1
    · have t1 : decide ((hi : Int) ≤ 2 * (r : Int) + 1) = true := by simp; omega
      go_wp2_with fail
      go_end0
      refine ⟨rfl, ?_⟩
      rw [← HO.out, sift_end (by omega)]
      exact HRk.out
    · have t1 : decide ((hi : Int) ≤ 2 * (r : Int) + 1) = false := by simp; omega
      clear HO
      by_cases hg1 : 2 * r + 2 < hi
      · have t2 : decide (2 * (r : Int) + 1 + 1 < (hi : Int)) = true := by simp; omega
        have j1 : (first : Int) + (2 * (r : Int) + 1) < (n : Int) := by omega
        have j2 : (first : Int) + (2 * (r : Int) + 1) + 1 < (n : Int) := by omega
        obtain ⟨L1, hL1⟩ : ∃ L, ltInt (G (first + 2 * r + 1)) (G (first + 2 * r + 2)) = L := ⟨_, rfl⟩
        go_wp2_with fail
        go_quiet (first | (go_at_call 62; refine Calls.quiet_of_same (less_u _ _ _)))
        cases L1
        · go_wp2_with fail
          have HRq := hideP (HRk.out.drewN nq)
          have hcq : ∀ t, t < n → (wr.drewN nq).cell? ⟨g, off + t, none⟩ = some (.int .u64 (G t)) := hc
          have hfq : ∀ t, t < n → (wr.drewN nq).frozen? ⟨g, off + t, none⟩ = false := hf
          generalize wr.drewN nq = wq at *
          clear hc hf HRk
          obtain ⟨L2, hL2⟩ : ∃ L, ltInt (G (first + r)) (G (first + 2 * r + 1)) = L := ⟨_, rfl⟩
          have i0 : (0 : Int) ≤ (first : Int) + (r : Int) := by omega
          have i1 : (first : Int) + (r : Int) < (n : Int) := by omega
          have i2 : (first : Int) + (2 * (r : Int) + 1) < (n : Int) := by omega
          go_quiet (first | (go_at_call 62; refine Calls.quiet_of_same (less_u _ _ _)))
          cases L2
          · go_wp2_with fail
            refine bodyPost_ret (results_none rfl _ _ _) rfl ?_
            refine ⟨rfl, ?_⟩
            have e := KEY.out (2 * r + 1) false (Or.inr ⟨rfl, Or.inr hL1⟩) hL2 (by omega)
            simp only [Bool.false_eq_true, if_false] at e
            rw [← e]
            exact HRq.out.drewN _
          · go_wp2_with fail
            go_region
            go_wp2_with fail
            go_roundw
            case rel =>
              refine ⟨2 * r + 1, swp dk (first + r) (first + (2 * r + 1)), by go_num, by omega, ?_, ?_⟩
              · have h1 := (HRq.out.drewN (nq + 1)).swap (first + r) (first + (2 * r + 1)) (by omega) (by omega)
                simp only [← HG.out] at h1
                exact h1
              · have e := KEY.out (2 * r + 1) true (Or.inr ⟨rfl, Or.inr hL1⟩) hL2 (by omega)
                simp only [if_true] at e
                exact e
            case measure => simp [intOf]; omega
        · go_wp2_with fail
          have HRq := hideP (HRk.out.drewN nq)
          have hcq : ∀ t, t < n → (wr.drewN nq).cell? ⟨g, off + t, none⟩ = some (.int .u64 (G t)) := hc
          have hfq : ∀ t, t < n → (wr.drewN nq).frozen? ⟨g, off + t, none⟩ = false := hf
          generalize wr.drewN nq = wq at *
          clear hc hf HRk
          obtain ⟨L2, hL2⟩ : ∃ L, ltInt (G (first + r)) (G (first + 2 * r + 2)) = L := ⟨_, rfl⟩
          have i0 : (0 : Int) ≤ (first : Int) + (r : Int) := by omega
          have i1 : (first : Int) + (r : Int) < (n : Int) := by omega
          have i2 : (first : Int) + (2 * (r : Int) + 1 + 1) < (n : Int) := by omega
          go_quiet (first | (go_at_call 62; refine Calls.quiet_of_same (less_u _ _ _)))
          cases L2
          · go_wp2_with fail
            refine bodyPost_ret (results_none rfl _ _ _) rfl ?_
            refine ⟨rfl, ?_⟩
            have e := KEY.out (2 * r + 2) false (Or.inl ⟨rfl, hg1, hL1⟩) hL2 (by omega)
            simp only [Bool.false_eq_true, if_false] at e
            rw [← e]
            exact HRq.out.drewN _
          · go_wp2_with fail
            go_region
            go_wp2_with fail
            go_roundw
            case rel =>
              refine ⟨2 * r + 2, swp dk (first + r) (first + (2 * r + 2)), by go_num, by omega, ?_, ?_⟩
              · have h1 := (HRq.out.drewN (nq + 1)).swap (first + r) (first + (2 * r + 2)) (by omega) (by omega)
                simp only [← HG.out] at h1
                exact h1
              · have e := KEY.out (2 * r + 2) true (Or.inl ⟨rfl, hg1, hL1⟩) hL2 (by omega)
                simp only [if_true] at e
                exact e
            case measure => simp [intOf]; omega
      · have t2 : decide (2 * (r : Int) + 1 + 1 < (hi : Int)) = false := by simp; omega
        go_wp2_with fail
        go_quiet (first | (go_at_call 62; refine Calls.quiet_of_same (less_u _ _ _)))
        go_wp2_with fail
        have HRq := hideP (HRk.out.drewN nq)
        have hcq : ∀ t, t < n → (wr.drewN nq).cell? ⟨g, off + t, none⟩ = some (.int .u64 (G t)) := hc
        have hfq : ∀ t, t < n → (wr.drewN nq).frozen? ⟨g, off + t, none⟩ = false := hf
        generalize wr.drewN nq = wq at *
        clear hc hf HRk
        obtain ⟨L2, hL2⟩ : ∃ L, ltInt (G (first + r)) (G (first + 2 * r + 1)) = L := ⟨_, rfl⟩
        have i0 : (0 : Int) ≤ (first : Int) + (r : Int) := by omega
        have i1 : (first : Int) + (r : Int) < (n : Int) := by omega
        have i2 : (first : Int) + (2 * (r : Int) + 1) < (n : Int) := by omega
        go_quiet (first | (go_at_call 62; refine Calls.quiet_of_same (less_u _ _ _)))
        cases L2
        · go_wp2_with fail
          refine bodyPost_ret (results_none rfl _ _ _) rfl ?_
          refine ⟨rfl, ?_⟩
          have e := KEY.out (2 * r + 1) false (Or.inr ⟨rfl, Or.inl (by omega)⟩) hL2 (by omega)
          simp only [Bool.false_eq_true, if_false] at e
          rw [← e]
          exact HRq.out.drewN _
        · go_wp2_with fail
          go_region
          go_wp2_with fail
          go_roundw
          case rel =>
            refine ⟨2 * r + 1, swp dk (first + r) (first + (2 * r + 1)), by go_num, by omega, ?_, ?_⟩
            · have h1 := (HRq.out.drewN (nq + 1)).swap (first + r) (first + (2 * r + 1)) (by omega) (by omega)
              simp only [← HG.out] at h1
              exact h1
            · have e := KEY.out (2 * r + 1) true (Or.inr ⟨rfl, Or.inl (by omega)⟩) hL2 (by omega)
              simp only [if_true] at e
              exact e
          case measure => simp [intOf]; omega

end Go.Proofs.Ybulkcghm.So
