import Derived.Test.YbulkcgmwFmtDur
import Derived.Lib.LazyBuf
import Derived.Deep.Cut
namespace Go.Proofs.YbulkcgmwFmt.Du
open Go.RowKit Go.Deep
set_option linter.unusedVariables false
set_option linter.unusedSimpArgs false

theorem fmtIntZ (B b n cap k : Nat) (v : Int) (w : World) (hB : B ≤ b) (h : Buf w b) (hn : n ≤ 32) (hk : k ≤ n) (hk1 : 1 ≤ k) (h0 : 0 ≤ v) (hv : v < ((10 ^ k : Nat) : Int)) (hk19 : k ≤ 19) :
    Calls Ybaf.prog 14 #[.slice (some ⟨b, 0, none⟩) n cap, .int .u64 v] w fun e w' => ∃ m : Nat, e = .returned (.int .i64 m) ∧ n ≤ m + k ∧ m ≤ n ∧ Below B w w' ∧ Buf w' b := by
  have e : v = (v.toNat : Int) := by omega
  rw [e]
  exact fmtInt_any B b n cap k v.toNat w hB h hn hk hk1 (by omega) hk19

theorem fmtFracZ (B b n cap p : Nat) (v K : Int) (w : World) (hB : B ≤ b) (h : Buf w b) (hn : n ≤ 32) (hp : p + 1 ≤ n) (h0 : 0 ≤ v) (hv : v < 18446744073709551616) (hK : K = ((10 ^ p : Nat) : Int)) :
    Calls Ybaf.prog 13 #[.slice (some ⟨b, 0, none⟩) n cap, .int .u64 v, .int .i64 p] w fun e w' => ∃ m : Nat, e = .returned (.tuple #[.int .i64 m, .int .u64 (v / K)]) ∧ n ≤ m + p + 1 ∧ m ≤ n ∧ Below B w w' ∧ Buf w' b := by
  have e : v = (v.toNat : Int) := by omega
  rw [e, hK]
  have := fmtFrac_any B b n cap p v.toNat w hB h hn hp (by omega)
  rw [Int.natCast_ediv] at this
  exact this

theorem size5 (W : World) : (Go.sizeOf 5).run Ybaf.prog W = .ok 1 W := by kernel_rfl

theorem len48 : Ybaf.prog.arrayLen 48 = 32 := by kernel_rfl

/-- 'buf[:m]'. -/
theorem slice_to (b m : Nat) (hm : m ≤ 32) (W : World) : (Instr.sliceAt 48 (.pointer (some ⟨b, 0, none⟩)) none (some (.int .i64 (m : Int))) none).run Ybaf.prog W = .ok (.slice (some ⟨b, 0, none⟩) m 32) W := by
  rw [run_sliceAt_array_h W 48 ⟨b, 0, none⟩ (by kernel_rfl) .i64 (m : Int) (by omega) (by rw [len48]; omega), len48]
  rw [show Ybaf.prog.elem 48 = 5 from by kernel_rfl, size5]
  simp [slicedAt, Addr.add, Result.andThen]

/-- 'buf[m:]'. -/
theorem slice_from (b m : Nat) (hm : m < 32) (W : World) : (Instr.sliceAt 48 (.pointer (some ⟨b, 0, none⟩)) (some (.int .i64 (m : Int))) none none).run Ybaf.prog W = .ok (.slice (some ⟨b, m, none⟩) (32 - m) (32 - m)) W := by
  rw [run_sliceAt_array_l W 48 ⟨b, 0, none⟩ (by kernel_rfl) .i64 (m : Int) (by omega) (by rw [len48]; omega), len48]
  rw [show Ybaf.prog.elem 48 = 5 from by kernel_rfl, size5]
  have : ¬ 32 = m := by omega
  simp [slicedAt, Addr.add, this, Result.andThen]
  omega

/-- The sign: u is the size of d. -/
def Size (d u : Int) : Prop := (d = u ∧ u ≤ 9223372036854775807) ∨ (d = -u ∧ 0 < u ∧ u ≤ 9223372036854775808)

set_option maxHeartbeats 1600000 in
set_option maxRecDepth 100000 in
theorem format_s (B b : Nat) (d u : Int) (w : World) (hB : B ≤ b) (h : Buf w b) (hd : Size d u) (hs : 1000000000 ≤ u) :
    Calls Ybaf.prog 12 #[.int .i64 d, .pointer (some ⟨b, 0, none⟩)] w fun e w' => ∃ m : Nat, e = .returned (.int .i64 m) ∧ m < 32 ∧ Below B w w' ∧ Buf w' b := by
  have h1 : decide (u < 1000000000) = false := by simp; omega
  obtain ⟨x, hx⟩ := h.cell 31 (by omega)
  have hf := h.frozen 31
  have hl := h.lt
  have HB := hideP (And.intro (Below.setCell (Below.refl B w) (p := ⟨b, 31, none⟩) hB (.int .u8 115)) (h.set 31 115 (by omega) (by omega)))
  clear h
  have hw : (d = u ∧ decide (u < 0) = false ∧ u ≤ 9223372036854775807) ∨ (d = -u ∧ decide (-u < 0) = true ∧ IntKind.u64.wrap (-u) = 18446744073709551616 - u ∧ IntKind.u64.wrap (-(18446744073709551616 - u)) = u ∧ u ≤ 9223372036854775808) := by
    rcases hd with ⟨e, h2⟩ | ⟨e, h2, h3⟩
    · exact .inl ⟨e, by simp; omega, h2⟩
    · refine .inr ⟨e, by simp; omega, ?_, ?_, h3⟩
      · rw [IntKind.wrap_u64]; omega
      · rw [IntKind.wrap_u64]; omega
  clear hd
  rcases hw with ⟨e, h2, hu⟩ | ⟨e, h2, hwa, hwb, hu⟩
  all_goals (
    have e' := e.symm
    clear e
    subst e'
    go_enter Ybaf.func12, Ybaf.ntmps12
    go_wp2_with fail
    refine (fmtFracZ B b 31 32 9 u 1000000000 _ hB HB.out.2 (by omega) (by omega) (by omega) (by omega) (by decide)).mono ?_
    rintro e w1 ⟨m1, rfl, m1a, m1b, b1, B1⟩
    have b1' := HB.out.1.trans b1
    have hv1 : 1 ≤ u / 1000000000 ∧ u / 1000000000 ≤ 9223372036 := by omega
    generalize u / 1000000000 = v at *
    obtain ⟨hv1a, hv1b⟩ := hv1
    clear HB hx hf b1
    have HB1 := hideP (And.intro b1' B1)
    clear b1' B1
    have HI := hideP (fmtIntZ B b m1 32 2 (v % 60) w1 hB HB1.out.2 (by omega) (by omega) (by omega) (by omega) (by simp; omega) (by omega))
    have hsl := slice_to b m1 (by omega)
    go_wp2_with fail
    refine Calls.mono HI.out ?_
    rintro e w2 ⟨m2, rfl, m2a, m2b, b2, B2⟩
    have b2' := HB1.out.1.trans b2
    clear HB1 HI b2 hsl
    have h60 : (0 : Int) ≤ v / 60 ∧ v / 60 ≤ 153722867 := by omega
    obtain ⟨m3, rfl⟩ : ∃ m3, m2 = m3 + 1 := ⟨m2 - 1, by omega⟩
    obtain ⟨x3, hx3⟩ := B2.cell m3 (by omega)
    have hf3 := B2.frozen m3
    have hl3 := B2.lt
    have HF := hideP (And.intro b2' B2)
    clear b2' B2
    go_upto_region 30 with (fail)
    generalize v / 60 = v2 at *
    obtain ⟨h60a, h60b⟩ := h60
    by_cases hm : v2 = 0
    · subst hm
      clear hv1a hv1b
      go_wp2_with fail
      go_ret
      first
        | exact ⟨m3 + 1, by go_num, by omega, HF.out.1, HF.out.2⟩
        | exact ⟨m3, by go_num, by omega, HF.out.1.setCell (p := ⟨b, m3, none⟩) hB _, HF.out.2.set _ _ (by omega) (by omega)⟩
    · have hpos : decide ((0 : Int) < v2) = true := by simp; omega
      have HI3 := hideP (fmtIntZ B b m3 32 2 (v2 % 60) _ hB (HF.out.2.set m3 109 (by omega) (by omega)) (by omega) (by omega) (by omega) (by omega) (by simp; omega) (by omega))
      have hsl3 := slice_to b m3 (by omega)
      go_wp2_with fail
      refine Calls.mono HI3.out ?_
      rintro e w4 ⟨m4, rfl, m4a, m4b, b4, B4⟩
      have b4' := (HF.out.1.setCell (p := ⟨b, m3, none⟩) hB (.int .u8 109)).trans b4
      clear HF HI3 hsl3 hx3 hf3 hl3 b4
      have h3600 : (0 : Int) ≤ v2 / 60 ∧ v2 / 60 ≤ 2562047 := by omega
      obtain ⟨m5, rfl⟩ : ∃ m5, m4 = m5 + 1 := ⟨m4 - 1, by omega⟩
      obtain ⟨x5, hx5⟩ := B4.cell m5 (by omega)
      have hf5 := B4.frozen m5
      have hl5 := B4.lt
      have HF := hideP (And.intro b4' B4)
      clear b4' B4
      go_upto_region 35 with (fail)
      generalize v2 / 60 = v3 at *
      obtain ⟨h3600a, h3600b⟩ := h3600
      by_cases hh : v3 = 0
      · subst hh
        go_wp2_with fail
        go_ret
        first
          | exact ⟨m5 + 1, by go_num, by omega, HF.out.1, HF.out.2⟩
          | exact ⟨m5, by go_num, by omega, HF.out.1.setCell (p := ⟨b, m5, none⟩) hB _, HF.out.2.set _ _ (by omega) (by omega)⟩
      · have hpos3 : decide ((0 : Int) < v3) = true := by simp; omega
        have HI5 := hideP (fmtIntZ B b m5 32 7 v3 _ hB (HF.out.2.set m5 104 (by omega) (by omega)) (by omega) (by omega) (by omega) (by omega) (by simp; omega) (by omega))
        have hsl5 := slice_to b m5 (by omega)
        go_wp2_with fail
        refine Calls.mono HI5.out ?_
        rintro e w6 ⟨m6, rfl, m6a, m6b, b6, B6⟩
        have b6' := (HF.out.1.setCell (p := ⟨b, m5, none⟩) hB (.int .u8 104)).trans b6
        clear HF HI5 hsl5 hx5 hf5 hl5 b6
        obtain ⟨m7, rfl⟩ : ∃ m7, m6 = m7 + 1 := ⟨m6 - 1, by omega⟩
        obtain ⟨x7, hx7⟩ := B6.cell m7 (by omega)
        have hf7 := B6.frozen m7
        have hl7 := B6.lt
        have HF := hideP (And.intro b6' B6)
        clear b6' B6
        go_wp2_with fail
        go_ret
        first
          | exact ⟨m7 + 1, by go_num, by omega, HF.out.1, HF.out.2⟩
          | exact ⟨m7, by go_num, by omega, HF.out.1.setCell (p := ⟨b, m7, none⟩) hB _, HF.out.2.set _ _ (by omega) (by omega)⟩
  )

end Go.Proofs.YbulkcgmwFmt.Du
