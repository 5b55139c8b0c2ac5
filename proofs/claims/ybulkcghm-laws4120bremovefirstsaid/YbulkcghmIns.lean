import Derived.Test.YbulkcghmReb2
import Derived.Deep.RegionWith
namespace Go.Proofs.Ybulkcghm.Bk
open Go.RowKit Go.Deep
open Go.Proofs.Ybulkcghm.Flt (F)
open Go.Proofs.Ybulkcghm.Avl
set_option linter.unusedVariables false

theorem Tab.alloc {w : World} {g len cap : Nat} {N : Nat → Nd} (h : Tab w g len cap N) (o : Obj) : Tab (w.alloc o) g len cap N := h.of_block (blk_alloc_lt _ _ _ h.lt)

set_option maxHeartbeats 4000000 in
set_option maxRecDepth 100000 in
theorem insertAt_left (p g len cap root fr i x : Nat) (N : Nat → Nd) (w : World) (hT : Tab w g len cap N) (hH : Hdr w p g len cap root fr) (hi : i < len) (hi0 : i ≠ 0) (hx : x < len) (ht : (N x).t < (N i).t)
    (Q1 Q3 : (Nat → Nd) → Nat → Prop)
    (HI : ∀ W, Tab W g len cap N → Hdr W p g len cap root fr → Calls Yba.prog 54 #[.pointer (some ⟨p, 0, none⟩), .int .i64 ((N i).l : Nat), .int .i64 x] W fun e w' => ∃ N1 i1, e = .returned (.int .i64 (i1 : Nat)) ∧ Only g W w' ∧ Tab w' g len cap N1 ∧ Q1 N1 i1)
    (HQ : ∀ N1 i1, Q1 N1 i1 → N1 i = N i)
    (HR : ∀ N1 i1, Q1 N1 i1 → ∀ W, Tab W g len cap (put N1 i { N i with l := i1 }) → Hdr W p g len cap root fr →
      Calls Yba.prog 55 #[.pointer (some ⟨p, 0, none⟩), .int .i64 i] W fun e w' => ∃ N3 i3, e = .returned (.int .i64 (i3 : Nat)) ∧ Only g W w' ∧ Tab w' g len cap N3 ∧ Q3 N3 i3) :
    Calls Yba.prog 54 #[.pointer (some ⟨p, 0, none⟩), .int .i64 i, .int .i64 x] w fun e w' => ∃ N3 i3, e = .returned (.int .i64 (i3 : Nat)) ∧ Only g w w' ∧ Tab w' g len cap N3 ∧ Q3 N3 i3 := by
  have h0 := hH.nodes
  have hpg := hH.ne hT
  have hgl := hT.lt
  have hpl := hH.lt
  have i1' := hT.cell (k := 1) hi (by omega)
  have i2 := hT.cell (k := 2) hi (by omega)
  have i3 := hT.cell (k := 3) hi (by omega)
  have x1 := hT.cell (k := 1) hx (by omega)
  have x2 := hT.cell (k := 2) hx (by omega)
  have x3 := hT.cell (k := 3) hx (by omega)
  have i6 := hT.cell (k := 6) hi (by omega)
  simp only [fld] at i1' i2 i3 x1 x2 x3 i6
  have hb := Tm.before_any (N x).t (N i).t
  simp only [Tm.tv, decide_eq_true ht] at hb
  have HB : Hid (∀ w, _) := hb
  clear hb ht
  have HI' : Hid (∀ W, _) := HI
  have HR' : Hid (∀ W, _) := HR
  have HQ' : Hid (∀ W, _) := HQ
  clear HI HR HQ
  have n0 : ((i : Int) == 0) = false := by simp [hi0]
  generalize (N x).t % 1000000000 = xa at *
  generalize (N x).t / 1000000000 = xb at *
  generalize (N i).t % 1000000000 = ia at *
  generalize (N i).t / 1000000000 = ib at *
  go_enter Yba.func54, Yba.ntmps54
  go_wp2_with fail
  go_region_with (go_at_call 75; refine (HB.out _).mono ?_; rintro e w2 ⟨rfl, rfl⟩)
  all_goals
    have O1 : Only g w ((w.alloc (Obj.cells (Tm.tc (N x).t) 31)).alloc (Obj.cells (Tm.tc (N i).t) 31)).drew := (((Only.refl g w).alloc _).alloc _).drew
    have hT1 : Tab ((w.alloc (Obj.cells (Tm.tc (N x).t) 31)).alloc (Obj.cells (Tm.tc (N i).t) 31)).drew g len cap N := ((hT.alloc _).alloc _).drew
    generalize ((w.alloc (Obj.cells (Tm.tc (N x).t) 31)).alloc (Obj.cells (Tm.tc (N i).t) 31)).drew = w1 at *
    have j6 := hT1.cell (k := 6) hi (by omega)
    simp only [fld] at j6
    clear i1' i2 i3 x1 x2 x3 HB i6
    go_wp2_with fail
    refine (HI'.out _ hT1 (hH.kept O1 hpg)).mono ?_
    rintro e w3 ⟨N1, m, rfl, O3, hT3, q1⟩
    have O13 := O1.trans O3
    have hq := HQ'.out _ _ q1
    have k6 := hT3.cell (k := 6) hi (by omega)
    have k6f := hT3.free (i * 15 + 6)
    have hT4 : Tab (w3.setCell ⟨g, i * 15 + 6, none⟩ (.int .i64 (m : Int))) g len cap (put N1 i { N i with l := m }) := by
      have h : Tab w3 g len cap (put N1 i (N1 i)) := by rw [put_self]; exact hT3
      have := h.stl hi m
      rwa [hq] at this
    have O4 := O13.set (i * 15 + 6) (.int .i64 (m : Int))
    simp only [fld] at k6
    clear hq j6 hT1 O1 O3 O13
    go_wp2_with fail
    refine (HR'.out _ _ q1 _ hT4 (hH.kept O4 hpg)).mono ?_
    rintro e w5 ⟨N3, m3, rfl, O5, hT5, q3⟩
    have O45 := O4.trans O5
    clear O5 O4 k6 k6f
    go_wp2_with fail
    go_ret
    exact ⟨N3, m3, rfl, O45, hT5, q3⟩

set_option maxHeartbeats 4000000 in
set_option maxRecDepth 100000 in
theorem insertAt_right (p g len cap root fr i x : Nat) (N : Nat → Nd) (w : World) (hT : Tab w g len cap N) (hH : Hdr w p g len cap root fr) (hi : i < len) (hi0 : i ≠ 0) (hx : x < len) (ht : ¬ (N x).t < (N i).t)
    (Q1 Q3 : (Nat → Nd) → Nat → Prop)
    (HI : ∀ W, Tab W g len cap N → Hdr W p g len cap root fr → Calls Yba.prog 54 #[.pointer (some ⟨p, 0, none⟩), .int .i64 ((N i).r : Nat), .int .i64 x] W fun e w' => ∃ N1 i1, e = .returned (.int .i64 (i1 : Nat)) ∧ Only g W w' ∧ Tab w' g len cap N1 ∧ Q1 N1 i1)
    (HQ : ∀ N1 i1, Q1 N1 i1 → N1 i = N i)
    (HR : ∀ N1 i1, Q1 N1 i1 → ∀ W, Tab W g len cap (put N1 i { N i with r := i1 }) → Hdr W p g len cap root fr →
      Calls Yba.prog 55 #[.pointer (some ⟨p, 0, none⟩), .int .i64 i] W fun e w' => ∃ N3 i3, e = .returned (.int .i64 (i3 : Nat)) ∧ Only g W w' ∧ Tab w' g len cap N3 ∧ Q3 N3 i3) :
    Calls Yba.prog 54 #[.pointer (some ⟨p, 0, none⟩), .int .i64 i, .int .i64 x] w fun e w' => ∃ N3 i3, e = .returned (.int .i64 (i3 : Nat)) ∧ Only g w w' ∧ Tab w' g len cap N3 ∧ Q3 N3 i3 := by
  have h0 := hH.nodes
  have hpg := hH.ne hT
  have hgl := hT.lt
  have hpl := hH.lt
  have i1' := hT.cell (k := 1) hi (by omega)
  have i2 := hT.cell (k := 2) hi (by omega)
  have i3 := hT.cell (k := 3) hi (by omega)
  have x1 := hT.cell (k := 1) hx (by omega)
  have x2 := hT.cell (k := 2) hx (by omega)
  have x3 := hT.cell (k := 3) hx (by omega)
  have i6 := hT.cell (k := 7) hi (by omega)
  simp only [fld] at i1' i2 i3 x1 x2 x3 i6
  have hb := Tm.before_any (N x).t (N i).t
  simp only [Tm.tv, decide_eq_false ht] at hb
  have HB : Hid (∀ w, _) := hb
  clear hb ht
  have HI' : Hid (∀ W, _) := HI
  have HR' : Hid (∀ W, _) := HR
  have HQ' : Hid (∀ W, _) := HQ
  clear HI HR HQ
  have n0 : ((i : Int) == 0) = false := by simp [hi0]
  generalize (N x).t % 1000000000 = xa at *
  generalize (N x).t / 1000000000 = xb at *
  generalize (N i).t % 1000000000 = ia at *
  generalize (N i).t / 1000000000 = ib at *
  go_enter Yba.func54, Yba.ntmps54
  go_wp2_with fail
  go_region_with (go_at_call 75; refine (HB.out _).mono ?_; rintro e w2 ⟨rfl, rfl⟩)
  all_goals
    have O1 : Only g w ((w.alloc (Obj.cells (Tm.tc (N x).t) 31)).alloc (Obj.cells (Tm.tc (N i).t) 31)).drew := (((Only.refl g w).alloc _).alloc _).drew
    have hT1 : Tab ((w.alloc (Obj.cells (Tm.tc (N x).t) 31)).alloc (Obj.cells (Tm.tc (N i).t) 31)).drew g len cap N := ((hT.alloc _).alloc _).drew
    generalize ((w.alloc (Obj.cells (Tm.tc (N x).t) 31)).alloc (Obj.cells (Tm.tc (N i).t) 31)).drew = w1 at *
    have j6 := hT1.cell (k := 7) hi (by omega)
    simp only [fld] at j6
    clear i1' i2 i3 x1 x2 x3 HB i6
    go_wp2_with fail
    refine (HI'.out _ hT1 (hH.kept O1 hpg)).mono ?_
    rintro e w3 ⟨N1, m, rfl, O3, hT3, q1⟩
    have O13 := O1.trans O3
    have hq := HQ'.out _ _ q1
    have k6 := hT3.cell (k := 7) hi (by omega)
    have k6f := hT3.free (i * 15 + 7)
    have hT4 : Tab (w3.setCell ⟨g, i * 15 + 7, none⟩ (.int .i64 (m : Int))) g len cap (put N1 i { N i with r := m }) := by
      have h : Tab w3 g len cap (put N1 i (N1 i)) := by rw [put_self]; exact hT3
      have := h.str hi m
      rwa [hq] at this
    have O4 := O13.set (i * 15 + 7) (.int .i64 (m : Int))
    simp only [fld] at k6
    clear hq j6 hT1 O1 O3 O13
    go_wp2_with fail
    refine (HR'.out _ _ q1 _ hT4 (hH.kept O4 hpg)).mono ?_
    rintro e w5 ⟨N3, m3, rfl, O5, hT5, q3⟩
    have O45 := O4.trans O5
    clear O5 O4 k6 k6f
    go_wp2_with fail
    go_ret
    exact ⟨N3, m3, rfl, O45, hT5, q3⟩

end Go.Proofs.Ybulkcghm.Bk
