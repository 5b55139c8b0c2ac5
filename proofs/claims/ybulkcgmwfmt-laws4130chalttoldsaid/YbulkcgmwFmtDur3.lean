import Derived.Test.YbulkcgmwFmtDur2
namespace Go.Proofs.YbulkcgmwFmt.Du
open Go.RowKit Go.Deep
set_option linter.unusedVariables false
set_option linter.unusedSimpArgs false

theorem Size.ways {d u : Int} (hd : Size d u) (h0 : 0 ≤ u) : (d = u ∧ decide (u < 0) = false ∧ u ≤ 9223372036854775807) ∨ (d = -u ∧ decide (-u < 0) = true ∧ IntKind.u64.wrap (-u) = 18446744073709551616 - u ∧ IntKind.u64.wrap (-(18446744073709551616 - u)) = u ∧ u ≤ 9223372036854775808) := by
  rcases hd with ⟨e, h2⟩ | ⟨e, h2, h3⟩
  · exact .inl ⟨e, by simp; omega, h2⟩
  · refine .inr ⟨e, by simp; omega, ?_, ?_, h3⟩
    · rw [IntKind.wrap_u64]; omega
    · rw [IntKind.wrap_u64]; omega

set_option maxHeartbeats 1600000 in
set_option maxRecDepth 100000 in
theorem format_0 (B b : Nat) (w : World) (hB : B ≤ b) (h : Buf w b) :
    Calls Ybaf.prog 12 #[.int .i64 0, .pointer (some ⟨b, 0, none⟩)] w fun e w' => ∃ m : Nat, e = .returned (.int .i64 m) ∧ m < 32 ∧ Below B w w' ∧ Buf w' b := by
  obtain ⟨x, hx⟩ := h.cell 31 (by omega)
  have hf := h.frozen 31
  have hl := h.lt
  have hb2 := h.set 31 115 (by omega) (by omega)
  obtain ⟨x2, hx2⟩ := hb2.cell 30 (by omega)
  have hf2 := hb2.frozen 30
  have HF := hideP (And.intro (Below.setCell (Below.refl B w) (p := ⟨b, 31, none⟩) hB (.int .u8 115)) hb2)
  clear h hb2
  go_enter Ybaf.func12, Ybaf.ntmps12
  go_wp2_with fail
  go_ret
  exact ⟨30, rfl, by omega, HF.out.1.setCell (p := ⟨b, 30, none⟩) hB _, HF.out.2.set _ _ (by omega) (by omega)⟩

set_option maxHeartbeats 1600000 in
set_option maxRecDepth 100000 in
theorem format_ns (B b : Nat) (d u : Int) (w : World) (hB : B ≤ b) (h : Buf w b) (hd : Size d u) (hs : 1 ≤ u) (hs2 : u < 1000) :
    Calls Ybaf.prog 12 #[.int .i64 d, .pointer (some ⟨b, 0, none⟩)] w fun e w' => ∃ m : Nat, e = .returned (.int .i64 m) ∧ m < 32 ∧ Below B w w' ∧ Buf w' b := by
  have h1 : decide (u < 1000000000) = true := by simp; omega
  have hz : ¬ u = 0 := by omega
  have ha : decide (u < 1000) = true := by simp; omega
  obtain ⟨x, hx⟩ := h.cell 31 (by omega)
  have hf := h.frozen 31
  have hl := h.lt
  have hb2 := h.set 31 115 (by omega) (by omega)
  have hbe := Below.setCell (Below.refl B w) (p := ⟨b, 31, none⟩) hB (.int .u8 115)
  obtain ⟨x2, hx2⟩ := hb2.cell 30 (by omega)
  have hf2 := hb2.frozen 30
  have HB := hideP (And.intro (hbe.setCell (p := ⟨b, 30, none⟩) hB (.int .u8 110)) (hb2.set 30 110 (by omega) (by omega)))
  clear h hb2 hbe
  rcases hd.ways (by omega) with ⟨e, h2, hu⟩ | ⟨e, h2, hwa, hwb, hu⟩
  all_goals (
    have e' := e.symm
    clear e hd
    subst e'
    go_enter Ybaf.func12, Ybaf.ntmps12
    go_wp2_with fail
    refine (fmtFracZ B b 30 32 0 u 1 _ hB HB.out.2 (by omega) (by omega) (by omega) (by omega) (by decide)).mono ?_
    rintro e w1 ⟨m1, rfl, m1a, m1b, b1, B1⟩
    have b1' := HB.out.1.trans b1
    have hv1 : 0 ≤ u / 1 ∧ u / 1 ≤ 999 := by omega
    generalize u / 1 = v at *
    obtain ⟨hv1a, hv1b⟩ := hv1
    clear HB hx hf b1 hx2 hf2
    have HB1 := hideP (And.intro b1' B1)
    clear b1' B1
    have HI := hideP (fmtIntZ B b m1 32 3 v w1 hB HB1.out.2 (by omega) (by omega) (by omega) (by omega) (by simp; omega) (by omega))
    have hsl := slice_to b m1 (by omega)
    go_wp2_with fail
    refine Calls.mono HI.out ?_
    rintro e w2 ⟨m2, rfl, m2a, m2b, b2, B2⟩
    have b2' := HB1.out.1.trans b2
    clear HB1 HI b2 hsl
    obtain ⟨m3, rfl⟩ : ∃ m3, m2 = m3 + 1 := ⟨m2 - 1, by omega⟩
    obtain ⟨x3, hx3⟩ := B2.cell m3 (by omega)
    have hf3 := B2.frozen m3
    have hl3 := B2.lt
    have HF := hideP (And.intro b2' B2)
    clear b2' B2
    go_wp2_with fail
    go_ret
    first
      | exact ⟨m3 + 1, by go_num, by omega, HF.out.1, HF.out.2⟩
      | exact ⟨m3, by go_num, by omega, HF.out.1.setCell (p := ⟨b, m3, none⟩) hB _, HF.out.2.set _ _ (by omega) (by omega)⟩
  )

set_option maxHeartbeats 1600000 in
set_option maxRecDepth 100000 in
theorem format_ms (B b : Nat) (d u : Int) (w : World) (hB : B ≤ b) (h : Buf w b) (hd : Size d u) (hs : 1000000 ≤ u) (hs2 : u < 1000000000) :
    Calls Ybaf.prog 12 #[.int .i64 d, .pointer (some ⟨b, 0, none⟩)] w fun e w' => ∃ m : Nat, e = .returned (.int .i64 m) ∧ m < 32 ∧ Below B w w' ∧ Buf w' b := by
  have h1 : decide (u < 1000000000) = true := by simp; omega
  have hz : ¬ u = 0 := by omega
  have ha : decide (u < 1000) = false := by simp; omega
  have hb : decide (u < 1000000) = false := by simp; omega
  obtain ⟨x, hx⟩ := h.cell 31 (by omega)
  have hf := h.frozen 31
  have hl := h.lt
  have hb2 := h.set 31 115 (by omega) (by omega)
  have hbe := Below.setCell (Below.refl B w) (p := ⟨b, 31, none⟩) hB (.int .u8 115)
  obtain ⟨x2, hx2⟩ := hb2.cell 30 (by omega)
  have hf2 := hb2.frozen 30
  have HB := hideP (And.intro (hbe.setCell (p := ⟨b, 30, none⟩) hB (.int .u8 109)) (hb2.set 30 109 (by omega) (by omega)))
  clear h hb2 hbe
  rcases hd.ways (by omega) with ⟨e, h2, hu⟩ | ⟨e, h2, hwa, hwb, hu⟩
  all_goals (
    have e' := e.symm
    clear e hd
    subst e'
    go_enter Ybaf.func12, Ybaf.ntmps12
    go_wp2_with fail
    refine (fmtFracZ B b 30 32 6 u 1000000 _ hB HB.out.2 (by omega) (by omega) (by omega) (by omega) (by decide)).mono ?_
    rintro e w1 ⟨m1, rfl, m1a, m1b, b1, B1⟩
    have b1' := HB.out.1.trans b1
    have hv1 : 0 ≤ u / 1000000 ∧ u / 1000000 ≤ 999 := by omega
    generalize u / 1000000 = v at *
    obtain ⟨hv1a, hv1b⟩ := hv1
    clear HB hx hf b1 hx2 hf2
    have HB1 := hideP (And.intro b1' B1)
    clear b1' B1
    have HI := hideP (fmtIntZ B b m1 32 3 v w1 hB HB1.out.2 (by omega) (by omega) (by omega) (by omega) (by simp; omega) (by omega))
    have hsl := slice_to b m1 (by omega)
    go_wp2_with fail
    refine Calls.mono HI.out ?_
    rintro e w2 ⟨m2, rfl, m2a, m2b, b2, B2⟩
    have b2' := HB1.out.1.trans b2
    clear HB1 HI b2 hsl
    obtain ⟨m3, rfl⟩ : ∃ m3, m2 = m3 + 1 := ⟨m2 - 1, by omega⟩
    obtain ⟨x3, hx3⟩ := B2.cell m3 (by omega)
    have hf3 := B2.frozen m3
    have hl3 := B2.lt
    have HF := hideP (And.intro b2' B2)
    clear b2' B2
    go_wp2_with fail
    go_ret
    first
      | exact ⟨m3 + 1, by go_num, by omega, HF.out.1, HF.out.2⟩
      | exact ⟨m3, by go_num, by omega, HF.out.1.setCell (p := ⟨b, m3, none⟩) hB _, HF.out.2.set _ _ (by omega) (by omega)⟩
  )

set_option maxHeartbeats 1600000 in
set_option maxRecDepth 100000 in
theorem format_us (B b : Nat) (d u : Int) (w : World) (hB : B ≤ b) (h : Buf w b) (hd : Size d u) (hs : 1000 ≤ u) (hs2 : u < 1000000) :
    Calls Ybaf.prog 12 #[.int .i64 d, .pointer (some ⟨b, 0, none⟩)] w fun e w' => ∃ m : Nat, e = .returned (.int .i64 m) ∧ m < 32 ∧ Below B w w' ∧ Buf w' b := by
  have h1 : decide (u < 1000000000) = true := by simp; omega
  have hz : ¬ u = 0 := by omega
  have ha : decide (u < 1000) = false := by simp; omega
  have hb : decide (u < 1000000) = true := by simp; omega
  obtain ⟨x, hx⟩ := h.cell 31 (by omega)
  have hf := h.frozen 31
  have hl := h.lt
  have hb2 := h.set 31 115 (by omega) (by omega)
  have hbe := Below.setCell (Below.refl B w) (p := ⟨b, 31, none⟩) hB (.int .u8 115)
  have hx2 := hb2.frozen 29
  have hf2 := hb2.frozen 30
  obtain ⟨w5, hcp, hbe5, hb5⟩ : ∃ w5, (Builtin.copy_ #[51, 9] 3 #[.slice (some ⟨b, 29, none⟩) 3 3, .string ⟨#[194, 181]⟩]).run Ybaf.prog (w.setCell ⟨b, 31, none⟩ (.int .u8 115)) = .ok (goInt 2) w5 ∧ Below B w w5 ∧ Buf w5 b := by
    refine ⟨_, run_copy_string (P := Ybaf.prog) _ 51 9 3 5 b 29 3 3 ⟨#[194, 181]⟩ Ybaf.underlying51 size5 (by decide) ?_ ?_, ?_, ?_⟩
    · intro j hj
      have hj2 : j < 2 := hj
      obtain ⟨y, hy⟩ := hb2.cell (29 + j) (by omega)
      rw [hy]; rfl
    · intro j hj
      exact hb2.frozen (29 + j)
    · exact below_setCells hB _ _ _ hbe
    · exact (hb2.set 29 194 (by omega) (by omega)).set 30 181 (by omega) (by omega)
  have HB := hideP (And.intro hbe5 hb5)
  clear h hb2 hbe hbe5 hb5
  rcases hd.ways (by omega) with ⟨e, h2, hu⟩ | ⟨e, h2, hwa, hwb, hu⟩
  all_goals (
    have e' := e.symm
    clear e hd
    subst e'
    go_enter Ybaf.func12, Ybaf.ntmps12
    go_wp2_with fail
    refine (fmtFracZ B b 29 32 3 u 1000 _ hB HB.out.2 (by omega) (by omega) (by omega) (by omega) (by decide)).mono ?_
    rintro e w1 ⟨m1, rfl, m1a, m1b, b1, B1⟩
    have b1' := HB.out.1.trans b1
    have hv1 : 0 ≤ u / 1000 ∧ u / 1000 ≤ 999 := by omega
    generalize u / 1000 = v at *
    obtain ⟨hv1a, hv1b⟩ := hv1
    clear HB hx hf b1 hx2 hf2
    have HB1 := hideP (And.intro b1' B1)
    clear b1' B1
    have HI := hideP (fmtIntZ B b m1 32 3 v w1 hB HB1.out.2 (by omega) (by omega) (by omega) (by omega) (by simp; omega) (by omega))
    have hsl := slice_to b m1 (by omega)
    go_wp2_with fail
    refine Calls.mono HI.out ?_
    rintro e w2 ⟨m2, rfl, m2a, m2b, b2, B2⟩
    have b2' := HB1.out.1.trans b2
    clear HB1 HI b2 hsl
    obtain ⟨m3, rfl⟩ : ∃ m3, m2 = m3 + 1 := ⟨m2 - 1, by omega⟩
    obtain ⟨x3, hx3⟩ := B2.cell m3 (by omega)
    have hf3 := B2.frozen m3
    have hl3 := B2.lt
    have HF := hideP (And.intro b2' B2)
    clear b2' B2
    go_wp2_with fail
    go_ret
    first
      | exact ⟨m3 + 1, by go_num, by omega, HF.out.1, HF.out.2⟩
      | exact ⟨m3, by go_num, by omega, HF.out.1.setCell (p := ⟨b, m3, none⟩) hB _, HF.out.2.set _ _ (by omega) (by omega)⟩
  )

theorem format_any (B b : Nat) (d : Int) (w : World) (hB : B ≤ b) (h : Buf w b) (h1 : -9223372036854775808 ≤ d) (h2 : d ≤ 9223372036854775807) :
    Calls Ybaf.prog 12 #[.int .i64 d, .pointer (some ⟨b, 0, none⟩)] w fun e w' => ∃ m : Nat, e = .returned (.int .i64 m) ∧ m < 32 ∧ Below B w w' ∧ Buf w' b := by
  obtain ⟨u, hu, h0⟩ : ∃ u : Int, Size d u ∧ 0 ≤ u := by
    by_cases hd : d < 0
    · exact ⟨-d, .inr ⟨by omega, by omega, by omega⟩, by omega⟩
    · exact ⟨d, .inl ⟨rfl, h2⟩, by omega⟩
  by_cases a : u = 0
  · obtain rfl : d = 0 := by rcases hu with ⟨e, _⟩ | ⟨e, _, _⟩ <;> omega
    exact format_0 B b w hB h
  · by_cases a1 : u < 1000
    · exact format_ns B b d u w hB h hu (by omega) a1
    · by_cases a2 : u < 1000000
      · exact format_us B b d u w hB h hu (by omega) a2
      · by_cases a3 : u < 1000000000
        · exact format_ms B b d u w hB h hu (by omega) a3
        · exact format_s B b d u w hB h hu (by omega)

end Go.Proofs.YbulkcgmwFmt.Du
