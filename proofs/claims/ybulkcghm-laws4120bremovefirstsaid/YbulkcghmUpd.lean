import Derived.Test.YbulkcghmTab
namespace Go.Proofs.Ybulkcghm.Bk
open Go.RowKit Go.Deep
open Go.Proofs.Ybulkcghm.Flt (F)
open Go.Proofs.Ybulkcghm.Avl
set_option linter.unusedVariables false
attribute [local go_sem] run_store_float

set_option maxHeartbeats 2000000 in
set_option maxRecDepth 100000 in
theorem update_any (p g len cap root fr i : Nat) (N : Nat → Nd) (w : World) (hT : Tab w g len cap N) (hH : Hdr w p g len cap root fr)
    (hi : i < len) (hl : (N i).l < len) (hr : (N i).r < len) (hil : (N i).l ≠ i) (hir : (N i).r ≠ i)
    (bl : (N (N i).l).h ≤ 1000000000000 ∧ (N (N i).l).c ≤ 1000000000000 ∧ (N (N i).l).s ≤ 1000000000000) (br : (N (N i).r).h ≤ 1000000000000 ∧ (N (N i).r).c ≤ 1000000000000 ∧ (N (N i).r).s ≤ 1000000000000) (bt : (N i).tok ≤ 1000000000000) :
    Calls Yba.prog 53 #[.pointer (some ⟨p, 0, none⟩), .int .i64 i] w fun e w' =>
      e = .returned (.tuple #[]) ∧ Only g w w' ∧ Tab w' g len cap (upd N i) := by
  have h0 := hH.nodes
  unfold upd
  have HU : Hid (updNd N i = { N i with h := 1 + max (N (N i).l).h (N (N i).r).h, s := (N (N i).l).s + (N (N i).r).s + (N i).tok, c := (N (N i).l).c + (N (N i).r).c + 1 }) := rfl
  have hT0 : Tab w g len cap (put N i (N i)) := by rw [put_self]; exact hT
  clear hT
  generalize updNd N i = u at *
  generalize N i = x at *
  have c6 := hT0.cell_eq (k := 6) hi (by omega)
  have c7 := hT0.cell_eq (k := 7) hi (by omega)
  have c8 := hT0.cell_eq (k := 8) hi (by omega)
  simp only [fld] at c6 c7 c8
  obtain ⟨id, t, tok, l, r, h, s, c⟩ := x
  simp only at *
  have l8 := hT0.cell_ne (k := 8) hl hil (by omega)
  have r8 := hT0.cell_ne (k := 8) hr hir (by omega)
  have f8 := hT0.free (i * 15 + 8)
  have O0 := Only.refl g w
  simp only [fld] at l8 r8
  obtain ⟨xl, hxl⟩ : ∃ x, N l = x := ⟨_, rfl⟩
  obtain ⟨xr, hxr⟩ : ∃ x, N r = x := ⟨_, rfl⟩
  rw [hxl] at l8 bl HU
  rw [hxr] at r8 br HU
  have HL : Hid (N l = xl) := hxl
  have HR : Hid (N r = xr) := hxr
  clear hxl hxr
  obtain ⟨m, hm⟩ : ∃ m, m = max xl.h xr.h := ⟨_, rfl⟩
  rw [← hm] at HU
  have hm1 : (if (xl.h : Int) < xr.h then (xr.h : Int) else xl.h) = m := by omega
  have hm2 : (if xl.h < xr.h then (xr.h : Int) else xl.h) = m := by omega
  have hm3 : m ≤ 1000000000000 := by omega
  clear hm
  obtain ⟨bl1, bl2, bl3⟩ := bl
  obtain ⟨br1, br2, br3⟩ := br
  go_enter Yba.func53, Yba.ntmps53
  go_wp2
  go_quiet (fail)
  go_wp2
  go_region
  have hT1 := (hT0.drewN (nq + 1)).sth hi (1 + m)
  have O1 := (O0.drewN (nq + 1)).set (i * 15 + 8) (.int .i64 ((1 + m : Nat) : Int))
  have e1 : (((1 + m : Nat) : Int)) = 1 + (m : Int) := by omega
  rw [e1] at hT1 O1
  clear e1 hT0 O0 c6 c7 c8 l8 r8 f8 hm1 hm2
  generalize (w.drewN (nq + 1)).setCell ⟨g, i * 15 + 8, none⟩ (.int .i64 (1 + (m : Int))) = w1 at *
  -- region 3: standing := left.standing + right.standing
  have l9 := hT1.cell_ne (k := 9) hl hil (by omega)
  have r9 := hT1.cell_ne (k := 9) hr hir (by omega)
  rw [HL.out] at l9
  rw [HR.out] at r9
  have c9 := hT1.cell_eq (k := 9) hi (by omega)
  have f9 := hT1.free (i * 15 + 9)
  simp only [fld] at l9 r9 c9
  have ha := run_F_add xl.s xr.s (by omega) (by omega)
  go_wp2
  go_region
  have hT2 := (hT1.sts hi (xl.s + xr.s)).drew
  have O2 := (O1.set (i * 15 + 9) (.float .f64 (F (xl.s + xr.s)))).drew
  clear ha l9 r9 c9 f9 hT1 O1
  generalize (w1.setCell ⟨g, i * 15 + 9, none⟩ (.float .f64 (F (xl.s + xr.s)))).drew = w2 at *
  -- region 4: nStanding
  have l10 := hT2.cell_ne (k := 10) hl hil (by omega)
  have r10 := hT2.cell_ne (k := 10) hr hir (by omega)
  rw [HL.out] at l10
  rw [HR.out] at r10
  have c10 := hT2.cell_eq (k := 10) hi (by omega)
  have f10 := hT2.free (i * 15 + 10)
  simp only [fld] at l10 r10 c10
  go_wp2
  go_region
  have hT3 := (hT2.stc hi (xl.c + xr.c)).drew
  have O3 := (O2.set (i * 15 + 10) (.int .i64 ((xl.c + xr.c : Nat) : Int))).drew
  have e3 : (((xl.c + xr.c : Nat) : Int)) = (xl.c : Int) + xr.c := by omega
  rw [e3] at hT3 O3
  clear e3 l10 r10 c10 f10 hT2 O2
  generalize (w2.setCell ⟨g, i * 15 + 10, none⟩ (.int .i64 ((xl.c : Int) + xr.c))).drew = w3 at *
  -- region 5: nWithdrawn
  have l11 := hT3.cell_ne (k := 11) hl hil (by omega)
  have r11 := hT3.cell_ne (k := 11) hr hir (by omega)
  have c11 := hT3.cell_eq (k := 11) hi (by omega)
  have f11 := hT3.free (i * 15 + 11)
  simp only [fld] at l11 r11 c11
  go_wp2
  go_region
  have hT4 := (hT3.stx hi (k := 11) (by omega) (.int .i64 0) (by simp only [fld])).drew
  have O4 := (O3.set (i * 15 + 11) (.int .i64 0)).drew
  clear l11 r11 c11 f11 hT3 O3
  generalize (w3.setCell ⟨g, i * 15 + 11, none⟩ (.int .i64 0)).drew = w4 at *
  -- region 6: the state; region 8: standing += tokens
  have c5 := hT4.cell_eq (k := 5) hi (by omega)
  have c4 := hT4.cell_eq (k := 4) hi (by omega)
  have c9 := hT4.cell_eq (k := 9) hi (by omega)
  have f9 := hT4.free (i * 15 + 9)
  simp only [fld] at c5 c4 c9
  have ha := run_F_add (xl.s + xr.s) tok (by omega) (by omega)
  go_wp2
  go_region
  have hT5 := (hT4.sts hi (xl.s + xr.s + tok)).drew
  have O5 := (O4.set (i * 15 + 9) (.float .f64 (F (xl.s + xr.s + tok)))).drew
  clear ha c5 c4 c9 f9 hT4 O4
  generalize (w4.setCell ⟨g, i * 15 + 9, none⟩ (.float .f64 (F (xl.s + xr.s + tok)))).drew = w5 at *
  -- region 9: nStanding++
  have c10 := hT5.cell_eq (k := 10) hi (by omega)
  have f10 := hT5.free (i * 15 + 10)
  have hT6 := (hT5.stc hi (xl.c + xr.c + 1))
  have O6 := (O5.set (i * 15 + 10) (.int .i64 ((xl.c + xr.c + 1 : Nat) : Int)))
  have e3 : (((xl.c + xr.c : Nat) : Int)) = (xl.c : Int) + xr.c := by omega
  have e4 : (((xl.c + xr.c + 1 : Nat) : Int)) = (xl.c : Int) + xr.c + 1 := by omega
  simp only [fld] at c10
  rw [e4] at hT6 O6
  rw [e3] at c10
  clear e3 e4
  have c14 := hT6.cell_eq (k := 14) hi (by omega)
  have f14 := hT6.free (i * 15 + 14)
  simp only [fld] at c14
  have hT7 := (hT6.stx hi (k := 14) (by omega) (.bool false) (by simp only [fld]))
  have O7 := (O6.set (i * 15 + 14) (.bool false))
  clear hT5 O5 hT6 O6
  go_wp2
  go_end0
  refine ⟨rfl, O7, ?_⟩
  rw [HU.out]
  exact hT7

end Go.Proofs.Ybulkcghm.Bk
