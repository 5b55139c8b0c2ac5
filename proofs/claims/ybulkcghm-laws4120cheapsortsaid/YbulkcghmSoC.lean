import Derived.Test.YbulkcghmSoB
namespace Go.Proofs.Ybulkcghm.So
open Go.RowKit
open Go.Sort (swp size_swp ltInt)
set_option linter.unusedVariables false

theorem half (hi : Nat) : ((hi : Int) - 1).tdiv 2 = (((hi - 1) / 2 : Nat) : Int) := by
  cases hi with
  | zero => rfl
  | succ k =>
    have e : ((k + 1 : Nat) : Int) - 1 = (k : Int) := by omega
    rw [e, Int.tdiv_eq_ediv_of_nonneg (by omega)]
    simp

set_option maxHeartbeats 4000000 in
set_option maxRecDepth 100000 in
theorem heap_sort (g off n cap a b : Nat) (d : Array Int) (w : World) (hR : Row w g off n d w) (hab : a ≤ b) (hb : b ≤ n) (hn : n ≤ 1024) :
    Calls Yba.prog 57 #[.slice (some ⟨g, off, none⟩) n cap, .int .i64 a, .int .i64 b] w fun e w' => e = .returned (.tuple #[]) ∧ Row w g off n (Go.Sort.heapSort ltInt d a b) w' := by
  obtain ⟨hi, rfl⟩ : ∃ hi, b = a + hi := ⟨b - a, by omega⟩
  have hT : Go.Sort.heapSort ltInt d a (a + hi) = Go.Sort.heapPop ltInt a hi (Go.Sort.heapBuild ltInt hi a ((hi - 1) / 2 + 1) d) := by
    unfold Go.Sort.heapSort
    rw [show a + hi - a = hi by omega]
  rw [hT]
  clear hT
  have HR := hideP hR
  clear hR
  have ha2 : a ≤ 1024 := by omega
  have hh2 : hi ≤ 1024 := by omega
  go_enter Yba.func57, Yba.ntmps57
  go_upto_region 2 with (fail)
  go_cut [8] (fun s8 wx => s8 = .int .i64 (hi : Int) ∧ wx = w)
  case first =>
    go_wp2_with fail
    go_meet
    exact ⟨by congr 1; omega, rfl⟩
  case rest =>
    obtain ⟨rfl, rfl⟩ := hcut
    go_upto_region 3 with (fail)
    go_cut [9] (fun s9 wx => s9 = .int .i64 ((((hi - 1) / 2 : Nat)) : Int) ∧ wx = wc)
    case first =>
      go_wp2_with fail
      go_meet
      exact ⟨by rw [half], rfl⟩
    case rest =>
      obtain ⟨rfl, rfl⟩ := hcut
      go_wp2_with fail
      go_loopw [9] (fun vi wr => ∃ (k : Nat) (dk : Array Int), vi = .int .i64 ((k : Int) - 1) ∧ k ≤ 1024 ∧ Row wc g off n dk wr ∧ Go.Sort.heapBuild ltInt hi a k dk = Go.Sort.heapBuild ltInt hi a ((hi - 1) / 2 + 1) d) (fun vi _ => (intOf vi + 1).toNat)
      case atStart => exact ⟨(hi - 1) / 2 + 1, d, by congr 1; omega, by omega, HR.out, rfl⟩
      case round =>
        obtain ⟨k, dk, rfl, hk, hRk, hO⟩ := hrel
        clear HR
        cases k with
        | succ k =>
          have e : ((k + 1 : Nat) : Int) - 1 = (k : Int) := by omega
          rw [e]
          have HS := hideP (sift g off n cap k hi a dk wr hRk.self (by omega) (by omega) hn)
          have HRk := hideP hRk
          have HO := hideP hO
          clear hRk hO e
          go_wp2_with fail
          refine Calls.mono HS.out ?_
          rintro e w2 ⟨rfl, hR2⟩
          have HR2 := hideP (HRk.out.trans hR2)
          clear hR2 HS HRk
          go_wp2_with fail
          go_roundw
          case rel => (repeat apply Exists.intro); exact ⟨⟨k, _, rfl, by omega, HR2.out, HO.out⟩, rfl⟩
          case measure => simp [intOf]
        | zero =>
          have e : ((0 : Nat) : Int) - 1 = -1 := by omega
          rw [e]
          have hB : dk = Go.Sort.heapBuild ltInt hi a ((hi - 1) / 2 + 1) d := hO
          have HRk := hideP hRk
          have HB := hideP hB
          clear hRk hB hO e
          go_wp2_with fail
          go_loopw [10] (fun vi wr2 => ∃ (k : Nat) (dk' : Array Int), vi = .int .i64 ((k : Int) - 1) ∧ k ≤ hi ∧ Row wc g off n dk' wr2 ∧ Go.Sort.heapPop ltInt a k dk' = Go.Sort.heapPop ltInt a hi (Go.Sort.heapBuild ltInt hi a ((hi - 1) / 2 + 1) d)) (fun vi _ => (intOf vi + 1).toNat)
          case atStart => exact ⟨hi, dk, rfl, Nat.le_refl _, HRk.out, by rw [HB.out]⟩
          case round =>
            clear HRk HB
            obtain ⟨k, dj, rfl, hk, hRk, hO⟩ := hrel
            have HO := hideP hO
            cases k with
            | zero =>
              have e : ((0 : Nat) : Int) - 1 = -1 := by omega
              rw [e]
              have HRk := hideP hRk
              clear hRk hO
              go_wp2_with fail
              go_end0
              refine ⟨rfl, ?_⟩
              have := HO.out
              rw [Go.Sort.heapPop] at this
              rw [← this]
              exact HRk.out
            | succ k =>
              have e : ((k + 1 : Nat) : Int) - 1 = (k : Int) := by omega
              rw [e]
              obtain ⟨G, hG⟩ : ∃ G : Nat → Int, ∀ t, G t = dj[t]! := ⟨fun t => dj[t]!, fun _ => rfl⟩
              have hc : ∀ t, t < n → wr.cell? ⟨g, off + t, none⟩ = some (.int .u64 (G t)) := fun t ht => by rw [hG]; exact hRk.cell t ht
              have hf : ∀ t, t < n → wr.frozen? ⟨g, off + t, none⟩ = false := hRk.free
              have HG := hideP hG
              have HRk := hideP hRk
              have j1 : (a : Int) < (n : Int) := by omega
              have j2 : (a : Int) + (k : Int) < (n : Int) := by omega
              clear hG hRk hO e
              by_cases hk0 : k = 0
              · subst hk0
                go_wp2_with fail
                go_region
                have h1 := HRk.out.swap a (a + 0) (by omega) (by omega)
                simp only [← HG.out, Nat.add_zero] at h1
                have H2 := hideP h1.drew
                clear h1
                go_wp2_with fail
                refine (sift g off n cap 0 0 a (swp dj a (a + 0)) _ H2.out.self (by omega) (by omega) hn).mono ?_
                rintro e w2 ⟨rfl, hR2⟩
                have HR2 := hideP (H2.out.trans hR2)
                clear hR2 H2 HRk hc hf
                go_wp2_with fail
                go_roundw
                case rel =>
                  (repeat apply Exists.intro)
                  exact ⟨⟨0, _, rfl, by omega, HR2.out, HO.out⟩, rfl⟩
                case measure => simp [intOf]
              · have hka : ¬ a = a + k := by omega
                go_wp2_with fail
                go_region
                have h1 := HRk.out.swap a (a + k) (by omega) (by omega)
                simp only [← HG.out] at h1
                have H2 := hideP h1.drew
                clear h1
                go_wp2_with fail
                refine (sift g off n cap 0 k a (swp dj a (a + k)) _ H2.out.self (by omega) (by omega) hn).mono ?_
                rintro e w2 ⟨rfl, hR2⟩
                have HR2 := hideP (H2.out.trans hR2)
                clear hR2 H2 HRk hc hf
                go_wp2_with fail
                go_roundw
                case rel =>
                  (repeat apply Exists.intro)
                  exact ⟨⟨k, _, rfl, by omega, HR2.out, HO.out⟩, rfl⟩
                case measure => simp [intOf]

end Go.Proofs.Ybulkcghm.So
