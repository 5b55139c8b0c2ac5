import Derived.Test.YbulkcghmRot
namespace Go.Proofs.Ybulkcghm.Bk
open Go.RowKit Go.Deep
open Go.Proofs.Ybulkcghm.Flt (F)
open Go.Proofs.Ybulkcghm.Avl
set_option linter.unusedVariables false
attribute [local go_sem] run_store_float

/-- What is known of a table all of whose trees hold at most 1024 small entries. -/
structure Fine (N : Nat → Nd) (len : Nat) (l : List Nat) : Prop where
  z : N 0 = nul
  pos : 0 < len
  lt : ∀ j, j ∈ l → j < len
  tok : ∀ j, j ∈ l → (N j).tok ≤ 1024
  len : l.length ≤ 1024

theorem Fine.sub {N : Nat → Nd} {len : Nat} {l l' : List Nat} (h : Fine N len l) (hs : ∀ j, j ∈ l' → j ∈ l) (hl : l'.length ≤ l.length) : Fine N len l' :=
  ⟨h.z, h.pos, fun j hj => h.lt j (hs j hj), fun j hj => h.tok j (hs j hj), Nat.le_trans hl h.len⟩

theorem Fine.left {N : Nat → Nd} {len i : Nat} {l1 l2 : List Nat} (h : Fine N len (l1 ++ i :: l2)) : Fine N len l1 := h.sub (fun j hj => by simp [hj]) (by simp)
theorem Fine.right {N : Nat → Nd} {len i : Nat} {l1 l2 : List Nat} (h : Fine N len (l1 ++ i :: l2)) : Fine N len l2 := h.sub (fun j hj => by simp [hj]) (by simp; omega)

theorem T.lt {N : Nat → Nd} {len j : Nat} {l : List Nat} (h : T N j l) (f : Fine N len l) : j < len := by
  rcases h.mem with e | e
  · rw [e]; exact f.pos
  · exact f.lt j e

theorem T.bq {N : Nat → Nd} {len j : Nat} {l : List Nat} (h : T N j l) (f : Fine N len l) (q : Nat) (hq : 2000000 ≤ q) : Bq q (N j) := by
  obtain ⟨a, b, c⟩ := h.bound f.z f.len f.tok
  exact ⟨by omega, by omega, by omega⟩

theorem upd_pre {N : Nat → Nd} {len i : Nat} {l1 l2 : List Nat} (hi : i ≠ 0) (t1 : T N (N i).l l1) (t2 : T N (N i).r l2) (nd : (l1 ++ i :: l2).Nodup) (f : Fine N len (l1 ++ i :: l2)) : UpdPre N len i := by
  simp only [List.nodup_append, List.nodup_cons, List.mem_cons] at nd
  have n1 : i ∉ l1 := fun h => nd.2.2 i h i (.inl rfl) rfl
  exact ⟨f.lt i (by simp), T.lt t1 f.left, T.lt t2 f.right, t1.ne hi n1, t2.ne hi nd.2.1.1, T.bq t1 f.left _ (by omega), T.bq t2 f.right _ (by omega), Nat.le_trans (f.tok i (by simp)) (by omega)⟩

theorem rotR_pre {N : Nat → Nd} {len i L : Nat} {a b c : List Nat} (hi : i ≠ 0) (hL : L ≠ 0) (eL : (N i).l = L) (ta : T N (N L).l a) (tb : T N (N L).r b) (tc : T N (N i).r c)
    (nd : ((a ++ L :: b) ++ i :: c).Nodup) (f : Fine N len ((a ++ L :: b) ++ i :: c)) : RotPre N len i L := by
  simp only [List.nodup_append, List.nodup_cons, List.mem_append, List.mem_cons] at nd
  have hLi : L ≠ i := fun e => nd.2.2 L (.inr (.inl rfl)) i (.inl rfl) e
  have ia : i ∉ a := fun h => nd.2.2 i (.inl h) i (.inl rfl) rfl
  have ib : i ∉ b := fun h => nd.2.2 i (.inr (.inr h)) i (.inl rfl) rfl
  have ic : i ∉ c := nd.2.1.1
  have La : L ∉ a := fun h => nd.1.2.2 L h L (.inl rfl) rfl
  have Lb : L ∉ b := nd.1.2.1.1
  have Lc : L ∉ c := fun h => nd.2.2 L (.inr (.inl rfl)) L (.inr h) rfl
  have fa := f.left.left
  have fb := f.left.right
  have fc := f.right
  exact ⟨f.lt i (by simp), f.lt L (by simp), eL, hLi, T.lt ta fa, ta.ne hi ia, ta.ne hL La, T.lt tb fb, tb.ne hi ib, tb.ne hL Lb, T.lt tc fc, tc.ne hi ic, tc.ne hL Lc,
    T.bq ta fa _ (by omega), T.bq tb fb _ (by omega), T.bq tc fc _ (by omega), Nat.le_trans (f.tok i (by simp)) (by omega), Nat.le_trans (f.tok L (by simp)) (by omega)⟩

theorem rotL_pre {N : Nat → Nd} {len i R : Nat} {a b c : List Nat} (hi : i ≠ 0) (hR : R ≠ 0) (eR : (N i).r = R) (ta : T N (N i).l a) (tb : T N (N R).l b) (tc : T N (N R).r c)
    (nd : (a ++ i :: (b ++ R :: c)).Nodup) (f : Fine N len (a ++ i :: (b ++ R :: c))) : RotPreL N len i R := by
  simp only [List.nodup_append, List.nodup_cons, List.mem_append, List.mem_cons, not_or] at nd
  have hRi : R ≠ i := fun e => nd.2.1.1.2.1 e.symm
  have ia : i ∉ a := fun h => nd.2.2 i h i (.inl rfl) rfl
  have ib : i ∉ b := nd.2.1.1.1
  have ic : i ∉ c := nd.2.1.1.2.2
  have Ra : R ∉ a := fun h => nd.2.2 R h R (.inr (.inr (.inl rfl))) rfl
  have Rb : R ∉ b := fun h => nd.2.1.2.2.2 R h R (.inl rfl) rfl
  have Rc : R ∉ c := nd.2.1.2.2.1.1
  have fa := f.left
  have fb := f.right.left
  have fc := f.right.right
  exact ⟨f.lt i (by simp), f.lt R (by simp), eR, hRi, T.lt tc fc, tc.ne hi ic, tc.ne hR Rc, T.lt tb fb, tb.ne hi ib, tb.ne hR Rb, T.lt ta fa, ta.ne hi ia, ta.ne hR Ra,
    T.bq tc fc _ (by omega), T.bq tb fb _ (by omega), T.bq ta fa _ (by omega), Nat.le_trans (f.tok i (by simp)) (by omega), Nat.le_trans (f.tok R (by simp)) (by omega)⟩

/-- The second turn of a double one. -/
theorem dblR_pre {N : Nat → Nd} {len i L R : Nat} {a b c d : List Nat} (hi : i ≠ 0) (hL : L ≠ 0) (hR : R ≠ 0) (ta : T N (N L).l a) (tb : T N (N R).l b) (tc : T N (N R).r c) (td : T N (N i).r d)
    (nd : ((a ++ L :: (b ++ R :: c)) ++ i :: d).Nodup) (f : Fine N len ((a ++ L :: (b ++ R :: c)) ++ i :: d)) :
    rotL N L R i = N i ∧ RotPre (put (rotL N L R) i { N i with l := R }) len i R := by
  have fa := f.left.left
  have fb := f.left.right.left
  have fc := f.left.right.right
  have fd := f.right
  have qa := T.bq ta fa 2000000 (by omega)
  have qb := T.bq tb fb 2000000 (by omega)
  have qc := T.bq tc fc 2000000 (by omega)
  have qd := T.bq td fd 2000000 (by omega)
  simp only [List.nodup_append, List.nodup_cons, List.mem_append, List.mem_cons, not_or] at nd
  obtain ⟨⟨_, ⟨⟨Lb, LR, Lc⟩, _, ⟨Rc, _⟩, bRc⟩, aX⟩, ⟨id', _⟩, X⟩ := nd
  have La : L ∉ a := fun h => aX L h L (.inl rfl) rfl
  have Ra : R ∉ a := fun h => aX R h R (.inr (.inr (.inl rfl))) rfl
  have Rb : R ∉ b := fun h => bRc R h R (.inl rfl) rfl
  have ia : i ∉ a := fun h => X i (.inl h) i (.inl rfl) rfl
  have ib : i ∉ b := fun h => X i (.inr (.inr (.inl h))) i (.inl rfl) rfl
  have ic : i ∉ c := fun h => X i (.inr (.inr (.inr (.inr h)))) i (.inl rfl) rfl
  have iL : i ≠ L := fun h => X L (.inr (.inl rfl)) i (.inl rfl) h.symm
  have iR : i ≠ R := fun h => X R (.inr (.inr (.inr (.inl rfl)))) i (.inl rfl) h.symm
  have Ld : L ∉ d := fun h => X L (.inr (.inl rfl)) L (.inr h) rfl
  have Rd : R ∉ d := fun h => X R (.inr (.inr (.inr (.inl rfl)))) R (.inr h) rfl
  clear X aX bRc
  have e := rotL_eq N L R (Ne.symm LR) (tc.ne hL Lc) (tc.ne hR Rc) (tb.ne hL Lb) (tb.ne hR Rb) (ta.ne hL La) (ta.ne hR Ra)
  have e1 : rotL N L R i = N i := by rw [e, put_ne _ _ iR, put_ne _ _ iL]
  refine ⟨e1, ?_⟩
  rw [e]
  have tL := f.tok L (by simp)
  have tR := f.tok R (by simp)
  have ti := f.tok i (by simp)
  generalize hN2 : put (put (put N L _) R _) i { N i with l := R } = N2
  have vi : N2 i = { N i with l := R } := by rw [← hN2, put_same]
  have vR : N2 R = { N R with l := L, h := 1 + max (1 + max (N (N L).l).h (N (N R).l).h) (N (N R).r).h, s := ((N (N L).l).s + (N (N R).l).s + (N L).tok) + (N (N R).r).s + (N R).tok, c := ((N (N L).l).c + (N (N R).l).c + 1) + (N (N R).r).c + 1 } := by
    rw [← hN2, put_ne _ _ (Ne.symm iR), put_same]
  have vL : N2 L = { N L with r := (N R).l, h := 1 + max (N (N L).l).h (N (N R).l).h, s := (N (N L).l).s + (N (N R).l).s + (N L).tok, c := (N (N L).l).c + (N (N R).l).c + 1 } := by
    rw [← hN2, put_ne _ _ (Ne.symm iL), put_ne _ _ LR, put_same]
  have vo : ∀ j, j ≠ i → j ≠ R → j ≠ L → N2 j = N j := fun j h1 h2 h3 => by rw [← hN2, put_ne _ _ h1, put_ne _ _ h2, put_ne _ _ h3]
  have vc := vo _ (tc.ne hi ic) (tc.ne hR Rc) (tc.ne hL Lc)
  have vd := vo _ (td.ne hi id') (td.ne hR Rd) (td.ne hL Ld)
  refine ⟨f.lt i (by simp), f.lt R (by simp), by rw [vi], Ne.symm iR, by rw [vR]; exact f.lt L (by simp), by rw [vR]; exact Ne.symm iL, by rw [vR]; exact LR,
    by rw [vR]; exact T.lt tc fc, by rw [vR]; exact tc.ne hi ic, by rw [vR]; exact tc.ne hR Rc, by rw [vi]; exact T.lt td fd, by rw [vi]; exact td.ne hi id', by rw [vi]; exact td.ne hR Rd, ?_, ?_, ?_, ?_, ?_⟩
  · rw [vR]; show Bq _ (N2 L); rw [vL]; unfold Bq at *; simp only; omega
  · rw [vR]; show Bq _ (N2 (N R).r); rw [vc]; exact qc.mono (by omega)
  · rw [vi]; show Bq _ (N2 (N i).r); rw [vd]; exact qd.mono (by omega)
  · rw [vi]; show (N i).tok ≤ _; omega
  · rw [vR]; show (N R).tok ≤ _; omega

theorem dblL_pre {N : Nat → Nd} {len i R L : Nat} {a b c d : List Nat} (hi : i ≠ 0) (hR : R ≠ 0) (hL : L ≠ 0) (ta : T N (N i).l a) (tb : T N (N L).l b) (tc : T N (N L).r c) (td : T N (N R).r d)
    (nd : (a ++ i :: ((b ++ L :: c) ++ R :: d)).Nodup) (f : Fine N len (a ++ i :: ((b ++ L :: c) ++ R :: d))) :
    rotR N R L i = N i ∧ RotPreL (put (rotR N R L) i { N i with r := L }) len i L := by
  have fa := f.left
  have fb := f.right.left.left
  have fc := f.right.left.right
  have fd := f.right.right
  have qa := T.bq ta fa 2000000 (by omega)
  have qb := T.bq tb fb 2000000 (by omega)
  have qc := T.bq tc fc 2000000 (by omega)
  have qd := T.bq td fd 2000000 (by omega)
  simp only [List.nodup_append, List.nodup_cons, List.mem_append, List.mem_cons, not_or] at nd
  obtain ⟨_, ⟨⟨⟨ib, iL, ic⟩, iR, id'⟩, ⟨_, ⟨Lc, _⟩, bLc⟩, ⟨Rd, _⟩, Y⟩, X⟩ := nd
  have ia : i ∉ a := fun h => X i h i (.inl rfl) rfl
  have La : L ∉ a := fun h => X L h L (.inr (.inl (.inr (.inl rfl)))) rfl
  have Ra : R ∉ a := fun h => X R h R (.inr (.inr (.inl rfl))) rfl
  have Lb : L ∉ b := fun h => bLc L h L (.inl rfl) rfl
  have Rb : R ∉ b := fun h => Y R (.inl h) R (.inl rfl) rfl
  have Rc : R ∉ c := fun h => Y R (.inr (.inr h)) R (.inl rfl) rfl
  have LR : L ≠ R := fun h => Y L (.inr (.inl rfl)) R (.inl rfl) h
  have Ld : L ∉ d := fun h => Y L (.inr (.inl rfl)) L (.inr h) rfl
  clear X Y bLc
  have e := rotR_eq N R L LR (tb.ne hR Rb) (tb.ne hL Lb) (tc.ne hR Rc) (tc.ne hL Lc) (td.ne hR Rd) (td.ne hL Ld)
  have e1 : rotR N R L i = N i := by rw [e, put_ne _ _ iL, put_ne _ _ iR]
  refine ⟨e1, ?_⟩
  rw [e]
  have tL := f.tok L (by simp)
  have tR := f.tok R (by simp)
  have ti := f.tok i (by simp)
  generalize hN2 : put (put (put N R _) L _) i { N i with r := L } = N2
  have vi : N2 i = { N i with r := L } := by rw [← hN2, put_same]
  have vL : N2 L = { N L with r := R, h := 1 + max (N (N L).l).h (1 + max (N (N L).r).h (N (N R).r).h), s := (N (N L).l).s + ((N (N L).r).s + (N (N R).r).s + (N R).tok) + (N L).tok, c := (N (N L).l).c + ((N (N L).r).c + (N (N R).r).c + 1) + 1 } := by
    rw [← hN2, put_ne _ _ (Ne.symm iL), put_same]
  have vR : N2 R = { N R with l := (N L).r, h := 1 + max (N (N L).r).h (N (N R).r).h, s := (N (N L).r).s + (N (N R).r).s + (N R).tok, c := (N (N L).r).c + (N (N R).r).c + 1 } := by
    rw [← hN2, put_ne _ _ (Ne.symm iR), put_ne _ _ (Ne.symm LR), put_same]
  have vo : ∀ j, j ≠ i → j ≠ L → j ≠ R → N2 j = N j := fun j h1 h2 h3 => by rw [← hN2, put_ne _ _ h1, put_ne _ _ h2, put_ne _ _ h3]
  have vb := vo _ (tb.ne hi ib) (tb.ne hL Lb) (tb.ne hR Rb)
  have va := vo _ (ta.ne hi ia) (ta.ne hL La) (ta.ne hR Ra)
  refine ⟨f.lt i (by simp), f.lt L (by simp), by rw [vi], Ne.symm iL, by rw [vL]; exact f.lt R (by simp), by rw [vL]; exact Ne.symm iR, by rw [vL]; exact Ne.symm LR,
    by rw [vL]; exact T.lt tb fb, by rw [vL]; exact tb.ne hi ib, by rw [vL]; exact tb.ne hL Lb, by rw [vi]; exact T.lt ta fa, by rw [vi]; exact ta.ne hi ia, by rw [vi]; exact ta.ne hL La, ?_, ?_, ?_, ?_, ?_⟩
  · rw [vL]; show Bq _ (N2 R); rw [vR]; unfold Bq at *; simp only; omega
  · rw [vL]; show Bq _ (N2 (N L).l); rw [vb]; exact qb.mono (by omega)
  · rw [vi]; show Bq _ (N2 (N i).l); rw [va]; exact qa.mono (by omega)
  · rw [vi]; show (N i).tok ≤ _; omega
  · rw [vL]; show (N L).tok ≤ _; omega

end Go.Proofs.Ybulkcghm.Bk
