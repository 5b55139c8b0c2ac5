import Derived.Test.YbulkcghmRebW
namespace Go.Proofs.Ybulkcghm.Bk
open Go.RowKit Go.Deep
open Go.Proofs.Ybulkcghm.Flt (F)
open Go.Proofs.Ybulkcghm.Avl
set_option linter.unusedVariables false

theorem Post.weaken {N N' : Nat → Nd} {i' : Nat} {l : List Nat} {lo hi lo' hi' : Nat} (h : Post N N' i' l lo hi) (h1 : lo' ≤ lo) (h2 : hi ≤ hi') : Post N N' i' l lo' hi' :=
  ⟨h.tree, h.nz, h.frame, h.id, h.t, h.tok, Nat.le_trans h1 h.lo, Nat.le_trans h.hi h2⟩

theorem rebalance_any (p g len cap root fr i : Nat) (N : Nat → Nd) (w : World) (l1 l2 : List Nat) (hT : Tab w g len cap N) (hH : Hdr w p g len cap root fr) (hi : i ≠ 0)
    (t1 : T N (N i).l l1) (t2 : T N (N i).r l2) (nd : (l1 ++ i :: l2).Nodup) (f : Fine N len (l1 ++ i :: l2)) (hb1 : (N (N i).l).h ≤ (N (N i).r).h + 2) (hb2 : (N (N i).r).h ≤ (N (N i).l).h + 2) :
    Calls Yba.prog 55 #[.pointer (some ⟨p, 0, none⟩), .int .i64 i] w fun e w' => ∃ N' i', e = .returned (.int .i64 (i' : Nat)) ∧ Only g w w' ∧ Tab w' g len cap N' ∧
      Post N N' i' (l1 ++ i :: l2) (max (N (N i).l).h (N (N i).r).h) (1 + max (N (N i).l).h (N (N i).r).h) ∧
      ((N (N i).l).h ≤ (N (N i).r).h + 1 → (N (N i).r).h ≤ (N (N i).l).h + 1 → (N' i').h = 1 + max (N (N i).l).h (N (N i).r).h) := by
  have q1 := T.bq t1 f.left 1000000000 (by omega)
  have q2 := T.bq t2 f.right 1000000000 (by omega)
  have z := f.z
  rcases Nat.lt_or_ge ((N (N i).r).h + 1) (N (N i).l).h with hlt | hge
  · -- the left side is too high
    have hL : (N i).l ≠ 0 := by intro e; rw [e, z] at hlt; simp [nul] at hlt
    obtain ⟨a, b, rfl, ta, tb, ok⟩ := t1.nonzero hL
    have okh := ok.h
    have ok1 := ok.b1
    have ok2 := ok.b2
    by_cases hd : (N (N (N i).l).l).h < (N (N (N i).l).r).h
    · have hR : (N (N i).l).r ≠ 0 := by intro e; rw [e, z] at hd; simp [nul] at hd
      obtain ⟨b1, b2, rfl, tb1, tb2, okR⟩ := tb.nonzero hR
      have r1 := okR.h
      have r2 := okR.b1
      have r3 := okR.b2
      have qR := T.bq tb f.left.right 1000000000 (by omega)
      have nd' : (a ++ (N i).l :: (b1 ++ (N (N i).l).r :: b2)).Nodup := (List.nodup_append.1 nd).1
      obtain ⟨e1, U⟩ := dblR_pre hi hL hR ta tb1 tb2 t2 nd f
      have V := rotL_pre (len := len) hL hR rfl ta tb1 tb2 nd' f.left
      have P := post_dblR hi hL hR ta tb1 tb2 t2 nd (by omega) (by omega) (by omega) (by omega) (by omega) (by omega)
      refine (reb_R1 p g len cap root fr i (N i).l (N (N i).l).r N w hT hH (f.lt i (by simp)) rfl (T.lt t2 f.right) q2.1 V e1 U hlt q1.1 hd qR.1).mono ?_
      rintro e w' ⟨rfl, O, hT'⟩
      exact ⟨_, _, rfl, O, hT', Post.weaken P (by omega) (by omega), fun h1 h2 => by omega⟩
    · have U := rotR_pre (len := len) hi hL rfl ta tb t2 nd f
      have P := post_rotR hi hL ta tb t2 nd (by omega) (by omega) (by omega) (by omega)
      refine (reb_R2 p g len cap root fr i (N i).l N w hT hH U hlt q1.1 hd).mono ?_
      rintro e w' ⟨rfl, O, hT'⟩
      exact ⟨_, _, rfl, O, hT', Post.weaken P (by omega) (by omega), fun h1 h2 => by omega⟩
  · rcases Nat.lt_or_ge ((N (N i).l).h + 1) (N (N i).r).h with hlt | hge2
    · have hR : (N i).r ≠ 0 := by intro e; rw [e, z] at hlt; simp [nul] at hlt
      obtain ⟨b, c, rfl, tb, tc, ok⟩ := t2.nonzero hR
      have okh := ok.h
      have ok1 := ok.b1
      have ok2 := ok.b2
      by_cases hd : (N (N (N i).r).r).h < (N (N (N i).r).l).h
      · have hL : (N (N i).r).l ≠ 0 := by intro e; rw [e, z] at hd; simp [nul] at hd
        obtain ⟨b1, b2, rfl, tb1, tb2, okR⟩ := tb.nonzero hL
        have r1 := okR.h
        have r2 := okR.b1
        have r3 := okR.b2
        have qR := T.bq tb f.right.left 1000000000 (by omega)
        have nd' : ((b1 ++ (N (N i).r).l :: b2) ++ (N i).r :: c).Nodup := (List.nodup_cons.1 (List.nodup_append.1 nd).2.1).2
        obtain ⟨e1, U⟩ := dblL_pre hi hR hL t1 tb1 tb2 tc nd f
        have V := rotR_pre (len := len) hR hL rfl tb1 tb2 tc nd' f.right
        have P := post_dblL hi hR hL t1 tb1 tb2 tc nd (by omega) (by omega) (by omega) (by omega) (by omega) (by omega)
        refine (reb_L1 p g len cap root fr i (N i).r (N (N i).r).l N w hT hH (f.lt i (by simp)) rfl (T.lt t1 f.left) q1.1 V e1 U hlt q2.1 hd qR.1).mono ?_
        rintro e w' ⟨rfl, O, hT'⟩
        exact ⟨_, _, rfl, O, hT', Post.weaken P (by omega) (by omega), fun h1 h2 => by omega⟩
      · have U := rotL_pre (len := len) hi hR rfl t1 tb tc nd f
        have P := post_rotL hi hR t1 tb tc nd (by omega) (by omega) (by omega) (by omega)
        refine (reb_L2 p g len cap root fr i (N i).r N w hT hH U hlt q2.1 hd).mono ?_
        rintro e w' ⟨rfl, O, hT'⟩
        exact ⟨_, _, rfl, O, hT', Post.weaken P (by omega) (by omega), fun h1 h2 => by omega⟩
    · have P := post_upd hi t1 t2 nd hge hge2
      refine (reb_mid p g len cap root fr i N w hT hH (upd_pre hi t1 t2 nd f) hge hge2).mono ?_
      rintro e w' ⟨rfl, O, hT'⟩
      exact ⟨_, _, rfl, O, hT', Post.weaken P (by omega) (by omega), fun h1 h2 => by have := P.lo; have := P.hi; omega⟩

end Go.Proofs.Ybulkcghm.Bk
