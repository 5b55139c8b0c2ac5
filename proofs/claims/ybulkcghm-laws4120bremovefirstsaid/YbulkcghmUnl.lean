import Derived.Test.YbulkcghmLawI
namespace Go.Proofs.Ybulkcghm.Bk
open Go.RowKit Go.Deep
open Go.Proofs.Ybulkcghm.Flt (F)
open Go.Proofs.Ybulkcghm.Avl
open Go.Proofs.Ybulkcghm.Srt
set_option linter.unusedVariables false
set_option linter.unusedSimpArgs false
attribute [local go_sem] run_store_float

/-- What unlinkFirst leaves: the tree without its first node x. -/
structure UPost (N N' : Nat → Nd) (r x : Nat) (l' : List Nat) (h : Nat) : Prop where
  tree : T N' r l'
  frame : ∀ j, j ∉ x :: l' → N' j = N j
  id : ∀ j, (N' j).id = (N j).id
  t : ∀ j, (N' j).t = (N j).t
  tok : ∀ j, (N' j).tok = (N j).tok
  lo : h ≤ (N' r).h + 1
  hi : (N' r).h ≤ h

set_option maxHeartbeats 4000000 in
set_option maxRecDepth 100000 in
theorem unlink_leaf (p g len cap root fr i : Nat) (N : Nat → Nd) (w : World) (hT : Tab w g len cap N) (hH : Hdr w p g len cap root fr) (hi : i < len) (hl : (N i).l = 0) :
    Calls Yba.prog 39 #[.pointer (some ⟨p, 0, none⟩), .int .i64 i] w fun e w' => e = .returned (.tuple #[.int .i64 ((N i).r : Nat), .int .i64 i]) ∧ w' = w := by
  have h0 := hH.nodes
  have c6 := hT.cell (k := 6) hi (by omega)
  have c7 := hT.cell (k := 7) hi (by omega)
  simp only [fld] at c6 c7
  rw [hl] at c6
  have c6' : w.cell? ⟨g, i * 15 + 6, none⟩ = some (.int .i64 0) := c6
  clear c6
  go_enter Yba.func39, Yba.ntmps39
  go_wp2_with fail
  go_ret2
  exact ⟨rfl, rfl⟩

set_option maxHeartbeats 4000000 in
set_option maxRecDepth 100000 in
theorem unlink_left (p g len cap root fr i : Nat) (N : Nat → Nd) (w : World) (hT : Tab w g len cap N) (hH : Hdr w p g len cap root fr) (hi : i < len) (hl : (N i).l ≠ 0)
    (Q1 Q3 : (Nat → Nd) → Nat → Nat → Prop)
    (HI : ∀ W, Tab W g len cap N → Hdr W p g len cap root fr → Calls Yba.prog 39 #[.pointer (some ⟨p, 0, none⟩), .int .i64 ((N i).l : Nat)] W fun e w' => ∃ N1 r1 x, e = .returned (.tuple #[.int .i64 (r1 : Nat), .int .i64 (x : Nat)]) ∧ Only g W w' ∧ Tab w' g len cap N1 ∧ Q1 N1 r1 x)
    (HQ : ∀ N1 r1 x, Q1 N1 r1 x → N1 i = N i)
    (HR : ∀ N1 r1 x, Q1 N1 r1 x → ∀ W, Tab W g len cap (put N1 i { N i with l := r1 }) → Hdr W p g len cap root fr →
      Calls Yba.prog 55 #[.pointer (some ⟨p, 0, none⟩), .int .i64 i] W fun e w' => ∃ N3 i3, e = .returned (.int .i64 (i3 : Nat)) ∧ Only g W w' ∧ Tab w' g len cap N3 ∧ Q3 N3 i3 x) :
    Calls Yba.prog 39 #[.pointer (some ⟨p, 0, none⟩), .int .i64 i] w fun e w' => ∃ N3 i3 x, e = .returned (.tuple #[.int .i64 (i3 : Nat), .int .i64 (x : Nat)]) ∧ Only g w w' ∧ Tab w' g len cap N3 ∧ Q3 N3 i3 x := by
  have h0 := hH.nodes
  have hpg := hH.ne hT
  have c6 := hT.cell (k := 6) hi (by omega)
  simp only [fld] at c6
  have n0 : (((N i).l : Int) == 0) = false := by simp [hl]
  have HI' := hideP HI
  have HR' := hideP HR
  have HQ' := hideP HQ
  clear HI HR HQ hl
  go_enter Yba.func39, Yba.ntmps39
  go_wp2_with fail
  refine (HI'.out _ hT hH).mono ?_
  rintro e w3 ⟨N1, m, x, rfl, O3, hT3, q1⟩
  have hq := HQ'.out _ _ _ q1
  have k6 := hT3.cell (k := 6) hi (by omega)
  have k6f := hT3.free (i * 15 + 6)
  have hT4 : Tab (w3.setCell ⟨g, i * 15 + 6, none⟩ (.int .i64 (m : Int))) g len cap (put N1 i { N i with l := m }) := by
    have h : Tab w3 g len cap (put N1 i (N1 i)) := by rw [put_self]; exact hT3
    have := h.stl hi m
    rwa [hq] at this
  have O4 := O3.set (i * 15 + 6) (.int .i64 (m : Int))
  simp only [fld] at k6
  clear hq O3 h0 c6 n0
  go_wp2_with fail
  refine (HR'.out _ _ _ q1 _ hT4 (hH.kept O4 hpg)).mono ?_
  rintro e w5 ⟨N3, m3, rfl, O5, hT5, q3⟩
  have O45 := O4.trans O5
  clear O5 O4 k6 k6f
  go_wp2_with fail
  go_ret2
  exact ⟨N3, m3, x, rfl, O45, hT5, q3⟩

/-- From the left subtree, its first node taken out, to the node above it. -/
theorem join_out {N N1 : Nat → Nd} {len i r1 x : Nat} {l1 l2 : List Nat} {hh : Nat} (hi : i ≠ 0) (t2 : T N (N i).r l2) (nd : ((x :: l1) ++ i :: l2).Nodup) (f : Fine N len ((x :: l1) ++ i :: l2)) (P1 : UPost N N1 r1 x l1 hh) (hx0 : x ≠ 0) :
    N1 i = N i ∧ T (put N1 i { N i with l := r1 }) r1 l1 ∧ T (put N1 i { N i with l := r1 }) (N i).r l2 ∧ (l1 ++ i :: l2).Nodup ∧
      Fine (put N1 i { N i with l := r1 }) len (l1 ++ i :: l2) ∧ (put N1 i { N i with l := r1 } r1).h = (N1 r1).h ∧ (put N1 i { N i with l := r1 } (N i).r).h = (N (N i).r).h ∧
      (∀ j, j ≠ i → put N1 i { N i with l := r1 } j = N1 j) ∧ put N1 i { N i with l := r1 } i = { N i with l := r1 } ∧
      (∀ j, (put N1 i { N i with l := r1 } j).id = (N j).id) ∧ (∀ j, (put N1 i { N i with l := r1 } j).t = (N j).t) ∧ (∀ j, (put N1 i { N i with l := r1 } j).tok = (N j).tok) := by
  rw [List.cons_append] at nd f
  obtain ⟨hxn, nd1⟩ := List.nodup_cons.1 nd
  obtain ⟨nl1, nil2, dis⟩ := List.nodup_append.1 nd1
  obtain ⟨il2, nl2⟩ := List.nodup_cons.1 nil2
  have il1 : i ∉ l1 := fun h => dis i h i (by simp) rfl
  have hix : i ≠ x := fun e => hxn (by simp [e])
  have xl2 : x ∉ l2 := fun h => hxn (by simp [h])
  have iI : i ∉ x :: l1 := fun h => by rcases List.mem_cons.1 h with e | e; exact hix e; exact il1 e
  have e1 : N1 i = N i := P1.frame i iI
  have z1 : 0 ∉ x :: l1 := fun h => by rcases List.mem_cons.1 h with e | e; exact hx0 e.symm; exact P1.tree.pos e
  have en : ∀ j, j ≠ i → put N1 i { N i with l := r1 } j = N1 j := fun j h => put_ne _ _ h
  have e0 : put N1 i { N i with l := r1 } 0 = N 0 := by rw [en 0 (Ne.symm hi), P1.frame 0 z1]
  have ei : put N1 i { N i with l := r1 } i = { N i with l := r1 } := put_same _ _ _
  have tI : T (put N1 i { N i with l := r1 }) r1 l1 := P1.tree.frame (en 0 (Ne.symm hi)) (fun j hj => en j (fun e => il1 (e ▸ hj)))
  have l2I : ∀ j, j ∈ l2 → j ∉ x :: l1 := fun j hj h => by
    rcases List.mem_cons.1 h with e | e
    · exact xl2 (e ▸ hj)
    · exact dis j e j (by simp [hj]) rfl
  have tR : T (put N1 i { N i with l := r1 }) (N i).r l2 := t2.frame e0 (fun j hj => by rw [en j (fun e => il2 (e ▸ hj)), P1.frame j (l2I j hj)])
  have hid : ∀ j, (put N1 i { N i with l := r1 } j).id = (N j).id := fun j => by
    by_cases h : j = i
    · subst h; rw [ei]
    · rw [en j h]; exact P1.id j
  have ht : ∀ j, (put N1 i { N i with l := r1 } j).t = (N j).t := fun j => by
    by_cases h : j = i
    · subst h; rw [ei]
    · rw [en j h]; exact P1.t j
  have htok : ∀ j, (put N1 i { N i with l := r1 } j).tok = (N j).tok := fun j => by
    by_cases h : j = i
    · subst h; rw [ei]
    · rw [en j h]; exact P1.tok j
  have hf : Fine (put N1 i { N i with l := r1 }) len (l1 ++ i :: l2) := Fine.put f e0 htok (fun j hj => by simp only [List.mem_append, List.mem_cons] at hj ⊢; exact .inr hj) (by simp)
  refine ⟨e1, tI, tR, nd1, hf, ?_, ?_, en, ei, hid, ht, htok⟩
  · have hne : r1 ≠ i := P1.tree.ne hi il1
    rw [en _ hne]
  · rcases t2.mem with h | h
    · rw [h, e0]
    · rw [en _ (fun e => il2 (e ▸ h)), P1.frame _ (l2I _ h)]

theorem unlink_any (p g len cap root fr : Nat) (N : Nat → Nd) : ∀ {i l}, T N i l → i ≠ 0 → l.Nodup → Fine N len l →
    ∀ w, Tab w g len cap N → Hdr w p g len cap root fr →
    Calls Yba.prog 39 #[.pointer (some ⟨p, 0, none⟩), .int .i64 i] w fun e w' => ∃ N' r x, e = .returned (.tuple #[.int .i64 (r : Nat), .int .i64 (x : Nat)]) ∧ Only g w w' ∧ Tab w' g len cap N' ∧
      (∃ l', l = x :: l' ∧ UPost N N' r x l' (N i).h) := by
  intro i l hT
  refine T.ind (N := N) (P := fun i l => i ≠ 0 → l.Nodup → Fine N len l →
    ∀ w, Tab w g len cap N → Hdr w p g len cap root fr →
    Calls Yba.prog 39 #[.pointer (some ⟨p, 0, none⟩), .int .i64 i] w fun e w' => ∃ N' r x, e = .returned (.tuple #[.int .i64 (r : Nat), .int .i64 (x : Nat)]) ∧ Only g w w' ∧ Tab w' g len cap N' ∧
      (∃ l', l = x :: l' ∧ UPost N N' r x l' (N i).h)) (fun h => absurd rfl h) ?_ hT
  intro i l1 l2 hi t1 t2 ok ih1 ih2 _ nd f w hT hH
  have oh := ok.h
  have o1 := ok.b1
  have o2 := ok.b2
  by_cases hl : (N i).l = 0
  · have hz : (N (N i).l).h = 0 := by rw [hl, f.z]; rfl
    rw [hl] at t1
    have e1 : l1 = [] := t1.of_zero
    subst e1
    refine (unlink_leaf p g len cap root fr i N w hT hH (f.lt i (by simp)) hl).mono ?_
    rintro e w' ⟨rfl, rfl⟩
    exact ⟨N, (N i).r, i, rfl, Only.refl _ _, hT, l2, rfl, t2, fun _ _ => rfl, fun _ => rfl, fun _ => rfl, fun _ => rfl, by omega, by omega⟩
  · have hp : ∀ N1 r1 x, (∃ l1', l1 = x :: l1' ∧ UPost N N1 r1 x l1' (N (N i).l).h) → x ≠ 0 := fun N1 r1 x ⟨l1', e, _⟩ h => t1.pos (by rw [e, h]; simp)
    refine unlink_left p g len cap root fr i N w hT hH (f.lt i (by simp)) hl (fun N1 r1 x => ∃ l1', l1 = x :: l1' ∧ UPost N N1 r1 x l1' (N (N i).l).h)
      (fun N3 i3 x => ∃ l', l1 ++ i :: l2 = x :: l' ∧ UPost N N3 i3 x l' (N i).h) (fun W a b => ih1 hl (List.nodup_append.1 nd).1 f.left W a b) ?_ ?_
    · intro N1 r1 x h
      have hx0 := hp N1 r1 x h
      obtain ⟨l1', rfl, P1⟩ := h
      exact (join_out hi t2 nd f P1 hx0).1
    · intro N1 r1 x h W a b
      have hx0 := hp N1 r1 x h
      obtain ⟨l1', rfl, P1⟩ := h
      obtain ⟨q1, q2, q3, q4, q5, q6, q7, q8, q9, q10, q11, q12⟩ := join_out hi t2 nd f P1 hx0
      have e1 : ∀ X : Nat → Nd, X = put N1 i { N i with l := r1 } → (X i).l = r1 ∧ (X i).r = (N i).r := fun X h => by rw [h, q9]; exact ⟨rfl, rfl⟩
      obtain ⟨el, er⟩ := e1 _ rfl
      have lo := P1.lo
      have hi' := P1.hi
      refine (rebalance_any p g len cap root fr i _ W l1' l2 a b hi (by rw [el]; exact q2) (by rw [er]; exact q3) q4 q5 (by rw [el, er, q6, q7]; omega) (by rw [el, er, q6, q7]; omega)).mono ?_
      rintro e w' ⟨N3, i3, rfl, O, hT3, P3, hbal⟩
      rw [el, er, q6, q7] at P3 hbal
      refine ⟨N3, i3, rfl, O, hT3, l1' ++ i :: l2, rfl, P3.tree, ?_, ?_, ?_, ?_, ?_, ?_⟩
      · intro j hj
        have hj' : j ≠ x ∧ j ∉ l1' ++ i :: l2 := by simpa using hj
        rw [P3.frame j hj'.2, q8 j (fun e => hj'.2 (by simp [e])), P1.frame j (by simp only [List.mem_cons, not_or]; exact ⟨hj'.1, fun h => hj'.2 (by simp [h])⟩)]
      · intro j; rw [P3.id, q10]
      · intro j; rw [P3.t, q11]
      · intro j; rw [P3.tok, q12]
      · have := P3.lo
        rcases Nat.lt_or_ge ((N1 r1).h + 1) (N (N i).r).h with h | h
        · omega
        · have := hbal (by omega) h; omega
      · have := P3.hi
        rcases Nat.lt_or_ge ((N1 r1).h + 1) (N (N i).r).h with h | h
        · omega
        · have := hbal (by omega) h; omega

end Go.Proofs.Ybulkcghm.Bk
