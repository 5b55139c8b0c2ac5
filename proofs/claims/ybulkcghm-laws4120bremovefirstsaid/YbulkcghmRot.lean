import Derived.Test.YbulkcghmUpd
namespace Go.Proofs.Ybulkcghm.Bk
open Go.RowKit Go.Deep
open Go.Proofs.Ybulkcghm.Flt (F)
open Go.Proofs.Ybulkcghm.Avl
set_option linter.unusedVariables false
attribute [local go_sem] run_store_float

/-- What a node's sums may come to. -/
def Bq (q : Nat) (x : Nd) : Prop := x.h ≤ q ∧ x.c ≤ q ∧ x.s ≤ q

/-- What update asks. -/
structure UpdPre (N : Nat → Nd) (len i : Nat) : Prop where
  hi : i < len
  hl : (N i).l < len
  hr : (N i).r < len
  hil : (N i).l ≠ i
  hir : (N i).r ≠ i
  bl : Bq 1000000000000 (N (N i).l)
  br : Bq 1000000000000 (N (N i).r)
  bt : (N i).tok ≤ 1000000000000

theorem update_pre (p g len cap root fr i : Nat) (N : Nat → Nd) (w : World) (hT : Tab w g len cap N) (hH : Hdr w p g len cap root fr) (h : UpdPre N len i) :
    Calls Yba.prog 53 #[.pointer (some ⟨p, 0, none⟩), .int .i64 i] w fun e w' => e = .returned (.tuple #[]) ∧ Only g w w' ∧ Tab w' g len cap (upd N i) :=
  update_any p g len cap root fr i N w hT hH h.hi h.hl h.hr h.hil h.hir h.bl h.br h.bt

/-- What a turn to the right asks. -/
structure RotPre (N : Nat → Nd) (len i l : Nat) : Prop where
  hi : i < len
  hl : l < len
  eL : (N i).l = l
  hli : l ≠ i
  a1 : (N l).l < len
  a2 : (N l).l ≠ i
  a3 : (N l).l ≠ l
  b1 : (N l).r < len
  b2 : (N l).r ≠ i
  b3 : (N l).r ≠ l
  c1 : (N i).r < len
  c2 : (N i).r ≠ i
  c3 : (N i).r ≠ l
  qa : Bq 1000000000 (N (N l).l)
  qb : Bq 1000000000 (N (N l).r)
  qc : Bq 1000000000 (N (N i).r)
  qi : (N i).tok ≤ 1000000000
  ql : (N l).tok ≤ 1000000000

theorem Bq.mono {q q' : Nat} {x : Nd} (h : Bq q x) (hq : q ≤ q') : Bq q' x := ⟨Nat.le_trans h.1 hq, Nat.le_trans h.2.1 hq, Nat.le_trans h.2.2 hq⟩

theorem RotPre.upds {N : Nat → Nd} {len i l : Nat} (h : RotPre N len i l) :
    UpdPre (put (put N i { N i with l := (N l).r }) l { N l with r := i }) len i ∧ UpdPre (upd (put (put N i { N i with l := (N l).r }) l { N l with r := i }) i) len l := by
  have h1 : i ≠ l := Ne.symm h.hli
  have hli := h.hli
  generalize hN2 : put (put N i { N i with l := (N l).r }) l { N l with r := i } = N2
  have e1 : N2 i = { N i with l := (N l).r } := by rw [← hN2, put_ne _ _ h1, put_same]
  have e2 : N2 l = { N l with r := i } := by rw [← hN2, put_same]
  have eo : ∀ j, j ≠ i → j ≠ l → N2 j = N j := fun j h1 h2 => by rw [← hN2, put_ne _ _ h2, put_ne _ _ h1]
  have qa := h.qa
  have qb := h.qb
  have qc := h.qc
  have qi := h.qi
  have ql := h.ql
  refine ⟨⟨h.hi, by rw [e1]; exact h.b1, by rw [e1]; exact h.c1, by rw [e1]; exact h.b2, by rw [e1]; exact h.c2, ?_, ?_, by rw [e1]; exact Nat.le_trans h.qi (by omega)⟩, ?_⟩
  · rw [e1]; show Bq _ (N2 (N l).r); rw [eo _ h.b2 h.b3]; exact h.qb.mono (by omega)
  · rw [e1]; show Bq _ (N2 (N i).r); rw [eo _ h.c2 h.c3]; exact h.qc.mono (by omega)
  have u1 : upd N2 i l = { N l with r := i } := by rw [upd, put_ne _ _ hli, e2]
  have u2 : ∀ j, j ≠ i → j ≠ l → upd N2 i j = N j := fun j h1 h2 => by rw [upd, put_ne _ _ h1, eo j h1 h2]
  have u3 : upd N2 i i = updNd N2 i := put_same _ _ _
  refine ⟨h.hl, by rw [u1]; exact h.a1, by rw [u1]; exact h.hi, by rw [u1]; exact h.a3, by rw [u1]; exact h1, ?_, ?_, by rw [u1]; exact Nat.le_trans h.ql (by omega)⟩
  · rw [u1]; show Bq _ (upd N2 i (N l).l); rw [u2 _ h.a2 h.a3]; exact h.qa.mono (by omega)
  · rw [u1]; show Bq _ (upd N2 i i); rw [u3]
    unfold Bq updNd at *
    simp only [e1, eo _ h.b2 h.b3, eo _ h.c2 h.c3]
    omega

set_option maxHeartbeats 2000000 in
set_option maxRecDepth 100000 in
theorem rotR_any (p g len cap root fr i l : Nat) (N : Nat → Nd) (w : World) (hT : Tab w g len cap N) (hH : Hdr w p g len cap root fr) (h : RotPre N len i l) :
    Calls Yba.prog 82 #[.pointer (some ⟨p, 0, none⟩), .int .i64 i] w fun e w' =>
      e = .returned (.int .i64 l) ∧ Only g w w' ∧ Tab w' g len cap (rotR N i l) := by
  obtain ⟨U1, U2⟩ := h.upds
  obtain ⟨hi, hl, eL, hli, -, -, -, b1, -, -, -, -, -, -, -, -, -, -⟩ := h
  have hpg := hH.ne hT
  have h0 := hH.nodes
  have c6 := hT.cell (k := 6) hi (by omega)
  have f6 := hT.free (i * 15 + 6)
  have l7 := hT.cell (k := 7) hl (by omega)
  simp only [fld] at c6 l7
  rw [eL] at c6
  have hT1 : Tab (w.setCell ⟨g, i * 15 + 6, none⟩ (.int .i64 ((N l).r : Int))).drew g len cap (put N i { N i with l := (N l).r }) := by
    have h : Tab w g len cap (put N i (N i)) := by rw [put_self]; exact hT
    exact (h.stl hi (N l).r).drew
  have O1 : Only g w (w.setCell ⟨g, i * 15 + 6, none⟩ (.int .i64 ((N l).r : Int))).drew := ((Only.refl g w).set _ _).drew
  have n1l : put N i { N i with l := (N l).r } l = N l := put_ne _ _ hli
  have HR : Hid (rotR N i l = upd (upd (put (put N i { N i with l := (N l).r }) l { N l with r := i }) i) l) := rfl
  have HN : Hid (put N i { N i with l := (N l).r } l = N l) := n1l
  clear n1l eL
  generalize rotR N i l = RR at *
  generalize put N i { N i with l := (N l).r } = N1 at *
  generalize N l = xl at *
  generalize xl.r = lr at *
  go_enter Yba.func82, Yba.ntmps82
  go_wp2
  go_region
  generalize (w.setCell ⟨g, i * 15 + 6, none⟩ (.int .i64 (lr : Int))).drew = w1 at *
  have hp := hH.lt
  have h01 := (O1.cell (o := 0) hp hpg).trans h0
  have l71 := hT1.cell (k := 7) hl (by omega)
  have fr7 := hT1.free (l * 15 + 7)
  rw [HN.out] at l71
  simp only [fld] at l71
  have hT2 : Tab (w1.setCell ⟨g, l * 15 + 7, none⟩ (.int .i64 (i : Int))) g len cap (put N1 l { xl with r := i }) := by
    have h : Tab w1 g len cap (put N1 l (N1 l)) := by rw [put_self]; exact hT1
    have := h.str hl i
    rwa [HN.out] at this
  have O2 := O1.set (l * 15 + 7) (.int .i64 (i : Int))
  clear h0 c6 l7 f6
  go_wp2_with fail
  refine (update_pre p g len cap root fr i _ _ hT2 (hH.kept O2 hpg) U1).mono ?_
  rintro e w3 ⟨rfl, O3, hT3⟩
  have O23 := O2.trans O3
  clear O2 O3 hT2 O1 hT1 h01 l71 fr7
  go_wp2_with fail
  refine (update_pre p g len cap root fr l _ _ hT3 (hH.kept O23 hpg) U2).mono ?_
  rintro e w4 ⟨rfl, O4, hT4⟩
  have O24 := O23.trans O4
  clear O4 O23 hT3
  go_wp2
  go_ret
  refine ⟨rfl, O24, ?_⟩
  rw [HR.out]
  exact hT4

/-- What a turn to the left asks. -/
structure RotPreL (N : Nat → Nd) (len i l : Nat) : Prop where
  hi : i < len
  hl : l < len
  eL : (N i).r = l
  hli : l ≠ i
  a1 : (N l).r < len
  a2 : (N l).r ≠ i
  a3 : (N l).r ≠ l
  b1 : (N l).l < len
  b2 : (N l).l ≠ i
  b3 : (N l).l ≠ l
  c1 : (N i).l < len
  c2 : (N i).l ≠ i
  c3 : (N i).l ≠ l
  qa : Bq 1000000000 (N (N l).r)
  qb : Bq 1000000000 (N (N l).l)
  qc : Bq 1000000000 (N (N i).l)
  qi : (N i).tok ≤ 1000000000
  ql : (N l).tok ≤ 1000000000

theorem RotPreL.upds {N : Nat → Nd} {len i l : Nat} (h : RotPreL N len i l) :
    UpdPre (put (put N i { N i with r := (N l).l }) l { N l with l := i }) len i ∧ UpdPre (upd (put (put N i { N i with r := (N l).l }) l { N l with l := i }) i) len l := by
  have h1 : i ≠ l := Ne.symm h.hli
  have hli := h.hli
  generalize hN2 : put (put N i { N i with r := (N l).l }) l { N l with l := i } = N2
  have e1 : N2 i = { N i with r := (N l).l } := by rw [← hN2, put_ne _ _ h1, put_same]
  have e2 : N2 l = { N l with l := i } := by rw [← hN2, put_same]
  have eo : ∀ j, j ≠ i → j ≠ l → N2 j = N j := fun j h1 h2 => by rw [← hN2, put_ne _ _ h2, put_ne _ _ h1]
  have qa := h.qa
  have qb := h.qb
  have qc := h.qc
  have qi := h.qi
  have ql := h.ql
  refine ⟨⟨h.hi, by rw [e1]; exact h.c1, by rw [e1]; exact h.b1, by rw [e1]; exact h.c2, by rw [e1]; exact h.b2, ?_, ?_, by rw [e1]; exact Nat.le_trans h.qi (by omega)⟩, ?_⟩
  · rw [e1]; show Bq _ (N2 (N i).l); rw [eo _ h.c2 h.c3]; exact h.qc.mono (by omega)
  · rw [e1]; show Bq _ (N2 (N l).l); rw [eo _ h.b2 h.b3]; exact h.qb.mono (by omega)
  have u1 : upd N2 i l = { N l with l := i } := by rw [upd, put_ne _ _ hli, e2]
  have u2 : ∀ j, j ≠ i → j ≠ l → upd N2 i j = N j := fun j h1 h2 => by rw [upd, put_ne _ _ h1, eo j h1 h2]
  have u3 : upd N2 i i = updNd N2 i := put_same _ _ _
  refine ⟨h.hl, by rw [u1]; exact h.hi, by rw [u1]; exact h.a1, by rw [u1]; exact h1, by rw [u1]; exact h.a3, ?_, ?_, by rw [u1]; exact Nat.le_trans h.ql (by omega)⟩
  · rw [u1]; show Bq _ (upd N2 i i); rw [u3]
    unfold Bq updNd at *
    simp only [e1, eo _ h.b2 h.b3, eo _ h.c2 h.c3]
    omega
  · rw [u1]; show Bq _ (upd N2 i (N l).r); rw [u2 _ h.a2 h.a3]; exact h.qa.mono (by omega)

set_option maxHeartbeats 2000000 in
set_option maxRecDepth 100000 in
theorem rotL_any (p g len cap root fr i l : Nat) (N : Nat → Nd) (w : World) (hT : Tab w g len cap N) (hH : Hdr w p g len cap root fr) (h : RotPreL N len i l) :
    Calls Yba.prog 81 #[.pointer (some ⟨p, 0, none⟩), .int .i64 i] w fun e w' =>
      e = .returned (.int .i64 l) ∧ Only g w w' ∧ Tab w' g len cap (rotL N i l) := by
  obtain ⟨U1, U2⟩ := h.upds
  obtain ⟨hi, hl, eL, hli, -, -, -, b1, -, -, -, -, -, -, -, -, -, -⟩ := h
  have hpg := hH.ne hT
  have h0 := hH.nodes
  have c6 := hT.cell (k := 7) hi (by omega)
  have f6 := hT.free (i * 15 + 7)
  have l7 := hT.cell (k := 6) hl (by omega)
  simp only [fld] at c6 l7
  rw [eL] at c6
  have hT1 : Tab (w.setCell ⟨g, i * 15 + 7, none⟩ (.int .i64 ((N l).l : Int))).drew g len cap (put N i { N i with r := (N l).l }) := by
    have h : Tab w g len cap (put N i (N i)) := by rw [put_self]; exact hT
    exact (h.str hi (N l).l).drew
  have O1 : Only g w (w.setCell ⟨g, i * 15 + 7, none⟩ (.int .i64 ((N l).l : Int))).drew := ((Only.refl g w).set _ _).drew
  have n1l : put N i { N i with r := (N l).l } l = N l := put_ne _ _ hli
  have HR : Hid (rotL N i l = upd (upd (put (put N i { N i with r := (N l).l }) l { N l with l := i }) i) l) := rfl
  have HN : Hid (put N i { N i with r := (N l).l } l = N l) := n1l
  clear n1l eL
  generalize rotL N i l = RR at *
  generalize put N i { N i with r := (N l).l } = N1 at *
  generalize N l = xl at *
  generalize xl.l = lr at *
  go_enter Yba.func81, Yba.ntmps81
  go_wp2
  go_region
  generalize (w.setCell ⟨g, i * 15 + 7, none⟩ (.int .i64 (lr : Int))).drew = w1 at *
  have hp := hH.lt
  have h01 := (O1.cell (o := 0) hp hpg).trans h0
  have l71 := hT1.cell (k := 6) hl (by omega)
  have fr7 := hT1.free (l * 15 + 6)
  rw [HN.out] at l71
  simp only [fld] at l71
  have hT2 : Tab (w1.setCell ⟨g, l * 15 + 6, none⟩ (.int .i64 (i : Int))) g len cap (put N1 l { xl with l := i }) := by
    have h : Tab w1 g len cap (put N1 l (N1 l)) := by rw [put_self]; exact hT1
    have := h.stl hl i
    rwa [HN.out] at this
  have O2 := O1.set (l * 15 + 6) (.int .i64 (i : Int))
  clear h0 c6 l7 f6
  go_wp2_with fail
  refine (update_pre p g len cap root fr i _ _ hT2 (hH.kept O2 hpg) U1).mono ?_
  rintro e w3 ⟨rfl, O3, hT3⟩
  have O23 := O2.trans O3
  clear O2 O3 hT2 O1 hT1 h01 l71 fr7
  go_wp2_with fail
  refine (update_pre p g len cap root fr l _ _ hT3 (hH.kept O23 hpg) U2).mono ?_
  rintro e w4 ⟨rfl, O4, hT4⟩
  have O24 := O23.trans O4
  clear O4 O23 hT3
  go_wp2
  go_ret
  refine ⟨rfl, O24, ?_⟩
  rw [HR.out]
  exact hT4

end Go.Proofs.Ybulkcghm.Bk
