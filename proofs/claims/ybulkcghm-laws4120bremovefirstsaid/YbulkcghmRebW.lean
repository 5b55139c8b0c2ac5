import Derived.Test.YbulkcghmReb
namespace Go.Proofs.Ybulkcghm.Bk
open Go.RowKit Go.Deep
open Go.Proofs.Ybulkcghm.Flt (F)
open Go.Proofs.Ybulkcghm.Avl
set_option linter.unusedVariables false
attribute [local go_sem] run_store_float

set_option maxHeartbeats 2000000 in
set_option maxRecDepth 100000 in
theorem reb_mid (p g len cap root fr i : Nat) (N : Nat → Nd) (w : World) (hT : Tab w g len cap N) (hH : Hdr w p g len cap root fr) (U : UpdPre N len i)
    (b1 : (N (N i).l).h ≤ (N (N i).r).h + 1) (b2 : (N (N i).r).h ≤ (N (N i).l).h + 1) :
    Calls Yba.prog 55 #[.pointer (some ⟨p, 0, none⟩), .int .i64 i] w fun e w' => e = .returned (.int .i64 i) ∧ Only g w w' ∧ Tab w' g len cap (upd N i) := by
  have HX : Hid (∀ W, Tab W g len cap N → Hdr W p g len cap root fr → Calls Yba.prog 53 #[.pointer (some ⟨p, 0, none⟩), .int .i64 i] W fun e w' => e = .returned (.tuple #[]) ∧ Only g W w' ∧ Tab w' g len cap (upd N i)) :=
    fun W a b => update_pre p g len cap root fr i N W a b U
  have h0 := hH.nodes
  have hi := U.hi
  have hl := U.hl
  have hr := U.hr
  have c6 := hT.cell (k := 6) hi (by omega)
  have c7 := hT.cell (k := 7) hi (by omega)
  have l8 := hT.cell (k := 8) hl (by omega)
  have r8 := hT.cell (k := 8) hr (by omega)
  simp only [fld] at c6 c7 l8 r8
  obtain ⟨ql, -, -⟩ := U.bl
  obtain ⟨qr, -, -⟩ := U.br
  clear U
  generalize upd N i = N' at *
  generalize (N i).l = l at *
  generalize (N i).r = r at *
  generalize (N l).h = lh at *
  generalize (N r).h = rh at *
  have t1 : decide ((1 : Int) < (lh : Int) - rh) = false := by simp; omega
  have t2 : decide ((lh : Int) - rh < -1) = false := by simp; omega
  go_enter Yba.func55, Yba.ntmps55
  go_wp2_with fail
  go_quiet (fail)
  go_wp2_with fail
  go_quiet (fail)
  go_wp2_with fail
  refine (HX.out _ (hT.drewN _) hH).mono ?_
  rintro e w3 ⟨rfl, O3, hT3⟩
  have O : Only g w w3 := ((Only.refl g w).drewN _).trans O3
  clear O3 h0 c6 c7 l8 r8 t1 t2
  go_wp2
  go_ret
  exact ⟨rfl, O, hT3⟩

set_option maxHeartbeats 2000000 in
set_option maxRecDepth 100000 in
theorem reb_R2 (p g len cap root fr i L : Nat) (N : Nat → Nd) (w : World) (hT : Tab w g len cap N) (hH : Hdr w p g len cap root fr) (U : RotPre N len i L)
    (b1 : (N (N i).r).h + 1 < (N L).h) (bL : (N L).h ≤ 1000000000) (b2 : ¬ (N (N L).l).h < (N (N L).r).h) :
    Calls Yba.prog 55 #[.pointer (some ⟨p, 0, none⟩), .int .i64 i] w fun e w' => e = .returned (.int .i64 L) ∧ Only g w w' ∧ Tab w' g len cap (rotR N i L) := by
  have HX : Hid (∀ W, Tab W g len cap N → Hdr W p g len cap root fr → Calls Yba.prog 82 #[.pointer (some ⟨p, 0, none⟩), .int .i64 i] W fun e w' => e = .returned (.int .i64 L) ∧ Only g W w' ∧ Tab w' g len cap (rotR N i L)) :=
    fun W a b => rotR_any p g len cap root fr i L N W a b U
  have h0 := hH.nodes
  have hi := U.hi
  have hl := U.hl
  have hr := U.c1
  have hll := U.a1
  have hlr := U.b1
  have c6 := hT.cell (k := 6) hi (by omega)
  have c7 := hT.cell (k := 7) hi (by omega)
  have l8 := hT.cell (k := 8) hl (by omega)
  have r8 := hT.cell (k := 8) hr (by omega)
  have l6 := hT.cell (k := 6) hl (by omega)
  have l7 := hT.cell (k := 7) hl (by omega)
  have ll8 := hT.cell (k := 8) hll (by omega)
  have lr8 := hT.cell (k := 8) hlr (by omega)
  simp only [fld] at c6 c7 l8 r8 l6 l7 ll8 lr8
  rw [U.eL] at c6
  obtain ⟨qr, -, -⟩ := U.qc
  obtain ⟨qll, -, -⟩ := U.qa
  obtain ⟨qlr, -, -⟩ := U.qb
  clear U
  generalize rotR N i L = N' at *
  generalize (N L).l = ll at *
  generalize (N L).r = lr at *
  generalize (N i).r = r at *
  generalize (N L).h = lh at *
  generalize (N r).h = rh at *
  generalize (N ll).h = llh at *
  generalize (N lr).h = lrh at *
  have t1 : decide ((1 : Int) < (lh : Int) - rh) = true := by simp; omega
  have t2 : decide ((llh : Int) < lrh) = false := by simp; omega
  go_enter Yba.func55, Yba.ntmps55
  go_wp2_with fail
  go_quiet (fail)
  go_wp2_with fail
  go_quiet (fail)
  go_wp2_with fail
  go_quiet (fail)
  go_wp2_with fail
  refine (HX.out _ (hT.drewN _) hH).mono ?_
  rintro e w3 ⟨rfl, O3, hT3⟩
  have O : Only g w w3 := ((Only.refl g w).drewN _).trans O3
  clear O3 h0 c6 c7 l8 r8 t1 t2 l6 l7 ll8 lr8
  go_wp2
  go_ret
  exact ⟨rfl, O, hT3⟩

set_option maxHeartbeats 2000000 in
set_option maxRecDepth 100000 in
theorem reb_R1 (p g len cap root fr i L R : Nat) (N : Nat → Nd) (w : World) (hT : Tab w g len cap N) (hH : Hdr w p g len cap root fr) (hi : i < len) (hL : (N i).l = L) (hr : (N i).r < len) (qr : (N (N i).r).h ≤ 1000000000)
    (V : RotPreL N len L R) (e1 : rotL N L R i = N i) (U : RotPre (put (rotL N L R) i { N i with l := R }) len i R)
    (b1 : (N (N i).r).h + 1 < (N L).h) (bL : (N L).h ≤ 1000000000) (b2 : (N (N L).l).h < (N R).h) (qR : (N R).h ≤ 1000000000) :
    Calls Yba.prog 55 #[.pointer (some ⟨p, 0, none⟩), .int .i64 i] w fun e w' => e = .returned (.int .i64 R) ∧ Only g w w' ∧ Tab w' g len cap (dblR N i L R) := by
  have hpg := hH.ne hT
  have HX : Hid (∀ W, Tab W g len cap N → Hdr W p g len cap root fr → Calls Yba.prog 81 #[.pointer (some ⟨p, 0, none⟩), .int .i64 L] W fun e w' => e = .returned (.int .i64 R) ∧ Only g W w' ∧ Tab w' g len cap (rotL N L R)) :=
    fun W a b => rotL_any p g len cap root fr L R N W a b V
  have HY : Hid (∀ W, Tab W g len cap (put (rotL N L R) i { N i with l := R }) → Hdr W p g len cap root fr → Calls Yba.prog 82 #[.pointer (some ⟨p, 0, none⟩), .int .i64 i] W fun e w' => e = .returned (.int .i64 R) ∧ Only g W w' ∧ Tab w' g len cap (dblR N i L R)) := by
    intro W a b
    have := rotR_any p g len cap root fr i R _ W a b U
    unfold dblR
    rw [e1]
    exact this
  have HS : Hid (∀ W, Tab W g len cap (rotL N L R) → W.cell? ⟨g, i * 15 + 6, none⟩ = some (.int .i64 (L : Int)) ∧ Tab (W.setCell ⟨g, i * 15 + 6, none⟩ (.int .i64 (R : Int))) g len cap (put (rotL N L R) i { N i with l := R })) := by
    intro W a
    have c := a.cell (k := 6) hi (by omega)
    rw [e1] at c
    simp only [fld, hL] at c
    refine ⟨c, ?_⟩
    have h : Tab W g len cap (put (rotL N L R) i (rotL N L R i)) := by rw [put_self]; exact a
    have := h.stl hi R
    rwa [e1] at this
  have h0 := hH.nodes
  have hl := V.hi
  have hll := V.c1
  have hlr := V.hl
  have eR := V.eL
  have c6 := hT.cell (k := 6) hi (by omega)
  have c7 := hT.cell (k := 7) hi (by omega)
  have l8 := hT.cell (k := 8) hl (by omega)
  have r8 := hT.cell (k := 8) hr (by omega)
  have l6 := hT.cell (k := 6) hl (by omega)
  have l7 := hT.cell (k := 7) hl (by omega)
  have ll8 := hT.cell (k := 8) hll (by omega)
  have lr8 := hT.cell (k := 8) hlr (by omega)
  simp only [fld] at c6 c7 l8 r8 l6 l7 ll8 lr8
  rw [hL] at c6
  rw [eR] at l7
  obtain ⟨qll, -, -⟩ := V.qc
  clear U V e1
  generalize put (rotL N L R) i { N i with l := R } = N2 at *
  generalize rotL N L R = N1 at *
  generalize dblR N i L R = N3 at *
  clear eR hL
  generalize (N i).r = r at *
  generalize (N L).l = ll at *
  generalize (N L).h = lh at *
  generalize (N r).h = rh at *
  generalize (N ll).h = llh at *
  generalize (N R).h = lrh at *
  have t1 : decide ((1 : Int) < (lh : Int) - rh) = true := by simp; omega
  have t2 : decide ((llh : Int) < lrh) = true := by simp; omega
  go_enter Yba.func55, Yba.ntmps55
  go_wp2_with fail
  go_quiet (fail)
  go_wp2_with fail
  go_quiet (fail)
  go_wp2_with fail
  go_quiet (fail)
  go_wp2_with fail
  refine (HX.out _ (hT.drewN _) hH).mono ?_
  rintro e w3 ⟨rfl, O3, hT3⟩
  have O : Only g w w3 := ((Only.refl g w).drewN _).trans O3
  obtain ⟨d6, hT4⟩ := HS.out _ hT3
  have f6 := hT3.free (i * 15 + 6)
  have O4 := O.set (i * 15 + 6) (.int .i64 (R : Int))
  clear O3 h0 c6 c7 l8 r8 t1 t2 l6 l7 ll8 lr8
  go_wp2_with fail
  refine (HY.out _ hT4 (hH.kept O4 hpg)).mono ?_
  rintro e w5 ⟨rfl, O5, hT5⟩
  have O6 := O4.trans O5
  clear d6 f6
  go_wp2
  go_ret
  exact ⟨rfl, O6, hT5⟩

set_option maxHeartbeats 2000000 in
set_option maxRecDepth 100000 in
theorem reb_L2 (p g len cap root fr i L : Nat) (N : Nat → Nd) (w : World) (hT : Tab w g len cap N) (hH : Hdr w p g len cap root fr) (U : RotPreL N len i L)
    (b1 : (N (N i).l).h + 1 < (N L).h) (bL : (N L).h ≤ 1000000000) (b2 : ¬ (N (N L).r).h < (N (N L).l).h) :
    Calls Yba.prog 55 #[.pointer (some ⟨p, 0, none⟩), .int .i64 i] w fun e w' => e = .returned (.int .i64 L) ∧ Only g w w' ∧ Tab w' g len cap (rotL N i L) := by
  have HX : Hid (∀ W, Tab W g len cap N → Hdr W p g len cap root fr → Calls Yba.prog 81 #[.pointer (some ⟨p, 0, none⟩), .int .i64 i] W fun e w' => e = .returned (.int .i64 L) ∧ Only g W w' ∧ Tab w' g len cap (rotL N i L)) :=
    fun W a b => rotL_any p g len cap root fr i L N W a b U
  have h0 := hH.nodes
  have hi := U.hi
  have hl := U.hl
  have hr := U.c1
  have hll := U.a1
  have hlr := U.b1
  have c6 := hT.cell (k := 6) hi (by omega)
  have c7 := hT.cell (k := 7) hi (by omega)
  have l8 := hT.cell (k := 8) hl (by omega)
  have r8 := hT.cell (k := 8) hr (by omega)
  have l6 := hT.cell (k := 6) hl (by omega)
  have l7 := hT.cell (k := 7) hl (by omega)
  have ll8 := hT.cell (k := 8) hll (by omega)
  have lr8 := hT.cell (k := 8) hlr (by omega)
  simp only [fld] at c6 c7 l8 r8 l6 l7 ll8 lr8
  rw [U.eL] at c7
  obtain ⟨qr, -, -⟩ := U.qc
  obtain ⟨qll, -, -⟩ := U.qa
  obtain ⟨qlr, -, -⟩ := U.qb
  clear U
  generalize rotL N i L = N' at *
  generalize (N L).r = ll at *
  generalize (N L).l = lr at *
  generalize (N i).l = r at *
  generalize (N L).h = lh at *
  generalize (N r).h = rh at *
  generalize (N ll).h = llh at *
  generalize (N lr).h = lrh at *
  have t0 : decide ((1 : Int) < (rh : Int) - lh) = false := by simp; omega
  have t1 : decide ((rh : Int) - lh < -1) = true := by simp; omega
  have t2 : decide ((llh : Int) < lrh) = false := by simp; omega
  go_enter Yba.func55, Yba.ntmps55
  go_wp2_with fail
  go_quiet (fail)
  go_wp2_with fail
  go_quiet (fail)
  go_wp2_with fail
  go_quiet (fail)
  go_wp2_with fail
  refine (HX.out _ (hT.drewN _) hH).mono ?_
  rintro e w3 ⟨rfl, O3, hT3⟩
  have O : Only g w w3 := ((Only.refl g w).drewN _).trans O3
  clear O3 h0 c6 c7 l8 r8 t1 t2 l6 l7 ll8 lr8
  go_wp2
  go_ret
  exact ⟨rfl, O, hT3⟩

set_option maxHeartbeats 2000000 in
set_option maxRecDepth 100000 in
theorem reb_L1 (p g len cap root fr i L R : Nat) (N : Nat → Nd) (w : World) (hT : Tab w g len cap N) (hH : Hdr w p g len cap root fr) (hi : i < len) (hL : (N i).r = L) (hr : (N i).l < len) (qr : (N (N i).l).h ≤ 1000000000)
    (V : RotPre N len L R) (e1 : rotR N L R i = N i) (U : RotPreL (put (rotR N L R) i { N i with r := R }) len i R)
    (b1 : (N (N i).l).h + 1 < (N L).h) (bL : (N L).h ≤ 1000000000) (b2 : (N (N L).r).h < (N R).h) (qR : (N R).h ≤ 1000000000) :
    Calls Yba.prog 55 #[.pointer (some ⟨p, 0, none⟩), .int .i64 i] w fun e w' => e = .returned (.int .i64 R) ∧ Only g w w' ∧ Tab w' g len cap (dblL N i L R) := by
  have hpg := hH.ne hT
  have HX : Hid (∀ W, Tab W g len cap N → Hdr W p g len cap root fr → Calls Yba.prog 82 #[.pointer (some ⟨p, 0, none⟩), .int .i64 L] W fun e w' => e = .returned (.int .i64 R) ∧ Only g W w' ∧ Tab w' g len cap (rotR N L R)) :=
    fun W a b => rotR_any p g len cap root fr L R N W a b V
  have HY : Hid (∀ W, Tab W g len cap (put (rotR N L R) i { N i with r := R }) → Hdr W p g len cap root fr → Calls Yba.prog 81 #[.pointer (some ⟨p, 0, none⟩), .int .i64 i] W fun e w' => e = .returned (.int .i64 R) ∧ Only g W w' ∧ Tab w' g len cap (dblL N i L R)) := by
    intro W a b
    have := rotL_any p g len cap root fr i R _ W a b U
    unfold dblL
    rw [e1]
    exact this
  have HS : Hid (∀ W, Tab W g len cap (rotR N L R) → W.cell? ⟨g, i * 15 + 7, none⟩ = some (.int .i64 (L : Int)) ∧ Tab (W.setCell ⟨g, i * 15 + 7, none⟩ (.int .i64 (R : Int))) g len cap (put (rotR N L R) i { N i with r := R })) := by
    intro W a
    have c := a.cell (k := 7) hi (by omega)
    rw [e1] at c
    simp only [fld, hL] at c
    refine ⟨c, ?_⟩
    have h : Tab W g len cap (put (rotR N L R) i (rotR N L R i)) := by rw [put_self]; exact a
    have := h.str hi R
    rwa [e1] at this
  have h0 := hH.nodes
  have hl := V.hi
  have hll := V.c1
  have hlr := V.hl
  have eR := V.eL
  have c6 := hT.cell (k := 6) hi (by omega)
  have c7 := hT.cell (k := 7) hi (by omega)
  have l8 := hT.cell (k := 8) hl (by omega)
  have r8 := hT.cell (k := 8) hr (by omega)
  have l6 := hT.cell (k := 6) hl (by omega)
  have l7 := hT.cell (k := 7) hl (by omega)
  have ll8 := hT.cell (k := 8) hll (by omega)
  have lr8 := hT.cell (k := 8) hlr (by omega)
  simp only [fld] at c6 c7 l8 r8 l6 l7 ll8 lr8
  rw [hL] at c7
  rw [eR] at l6
  obtain ⟨qll, -, -⟩ := V.qc
  clear U V e1
  generalize put (rotR N L R) i { N i with r := R } = N2 at *
  generalize rotR N L R = N1 at *
  generalize dblL N i L R = N3 at *
  clear eR hL
  generalize (N i).l = r at *
  generalize (N L).r = ll at *
  generalize (N L).h = lh at *
  generalize (N r).h = rh at *
  generalize (N ll).h = llh at *
  generalize (N R).h = lrh at *
  have t0 : decide ((1 : Int) < (rh : Int) - lh) = false := by simp; omega
  have t1 : decide ((rh : Int) - lh < -1) = true := by simp; omega
  have t2 : decide ((llh : Int) < lrh) = true := by simp; omega
  go_enter Yba.func55, Yba.ntmps55
  go_wp2_with fail
  go_quiet (fail)
  go_wp2_with fail
  go_quiet (fail)
  go_wp2_with fail
  go_quiet (fail)
  go_wp2_with fail
  refine (HX.out _ (hT.drewN _) hH).mono ?_
  rintro e w3 ⟨rfl, O3, hT3⟩
  have O : Only g w w3 := ((Only.refl g w).drewN _).trans O3
  obtain ⟨d6, hT4⟩ := HS.out _ hT3
  have f6 := hT3.free (i * 15 + 7)
  have O4 := O.set (i * 15 + 7) (.int .i64 (R : Int))
  clear O3 h0 c6 c7 l8 r8 t1 t2 l6 l7 ll8 lr8
  go_wp2_with fail
  refine (HY.out _ hT4 (hH.kept O4 hpg)).mono ?_
  rintro e w5 ⟨rfl, O5, hT5⟩
  have O6 := O4.trans O5
  clear d6 f6
  go_wp2
  go_ret
  exact ⟨rfl, O6, hT5⟩

end Go.Proofs.Ybulkcghm.Bk
