import Derived.Test.YbulkcghmIns
import Derived.Test.YbulkcghmSrt
namespace Go.Proofs.Ybulkcghm.Bk
open Go.RowKit Go.Deep
open Go.Proofs.Ybulkcghm.Flt (F)
open Go.Proofs.Ybulkcghm.Avl
open Go.Proofs.Ybulkcghm.Srt
set_option linter.unusedVariables false

set_option maxRecDepth 100000 in
theorem insertAt_zero (p x : Nat) (w : World) : Calls Yba.prog 54 #[.pointer (some ⟨p, 0, none⟩), .int .i64 0, .int .i64 x] w fun e w' => e = .returned (.int .i64 x) ∧ w' = w := by
  go_enter Yba.func54, Yba.ntmps54
  go_wp2_with fail
  go_ret
  exact ⟨rfl, rfl⟩

/-- The entry x is a new leaf. -/
structure Leaf (N : Nat → Nd) (x : Nat) : Prop where
  nz : x ≠ 0
  l : (N x).l = 0
  r : (N x).r = 0
  h : (N x).h = 1
  s : (N x).s = (N x).tok
  c : (N x).c = 1

theorem Leaf.tree {N : Nat → Nd} {x : Nat} (z : N 0 = nul) (h : Leaf N x) : T N x [x] := by
  have t0 : T N (N x).l [] := by rw [h.l]; exact T.nil _
  have t1 : T N (N x).r [] := by rw [h.r]; exact T.nil _
  refine T.node h.nz t0 t1 ⟨?_, ?_, ?_, ?_, ?_⟩ <;> simp only [h.l, h.r, h.h, h.s, h.c, z, nul] <;> simp

theorem Fine.put {N N' : Nat → Nd} {len : Nat} {l l' : List Nat} (f : Fine N len l) (z : N' 0 = N 0) (tk : ∀ j, (N' j).tok = (N j).tok) (hm : ∀ j, j ∈ l' → j ∈ l) (hl : l'.length ≤ l.length) : Fine N' len l' :=
  ⟨by rw [z]; exact f.z, f.pos, fun j hj => f.lt j (hm j hj), fun j hj => by rw [tk]; exact f.tok j (hm j hj), Nat.le_trans hl f.len⟩

/-- From the subtree that took x to the node above it. -/
theorem join_left {N N1 : Nat → Nd} {len i i1 x : Nat} {l1 l2 : List Nat} (hi : i ≠ 0) (t1 : T N (N i).l l1) (t2 : T N (N i).r l2) (ok : Ok N i) (nd : (x :: (l1 ++ i :: l2)).Nodup) (f : Fine N len (x :: (l1 ++ i :: l2)))
    (P1 : Post N N1 i1 (ins (fun j => (N j).t) x l1) (N (N i).l).h ((N (N i).l).h + 1)) :
    N1 i = N i ∧ T (put N1 i { N i with l := i1 }) i1 (ins (fun j => (N j).t) x l1) ∧ T (put N1 i { N i with l := i1 }) (N i).r l2 ∧ (ins (fun j => (N j).t) x l1 ++ i :: l2).Nodup ∧
      Fine (put N1 i { N i with l := i1 }) len (ins (fun j => (N j).t) x l1 ++ i :: l2) ∧ (put N1 i { N i with l := i1 } i1).h = (N1 i1).h ∧ (put N1 i { N i with l := i1 } (N i).r).h = (N (N i).r).h ∧
      (∀ j, j ≠ i → put N1 i { N i with l := i1 } j = N1 j) ∧ put N1 i { N i with l := i1 } i = { N i with l := i1 } ∧
      (∀ j, (put N1 i { N i with l := i1 } j).id = (N j).id) ∧ (∀ j, (put N1 i { N i with l := i1 } j).t = (N j).t) ∧ (∀ j, (put N1 i { N i with l := i1 } j).tok = (N j).tok) := by
  obtain ⟨hxn, nd1⟩ := List.nodup_cons.1 nd
  obtain ⟨nl1, nil2, dis⟩ := List.nodup_append.1 nd1
  obtain ⟨il2, nl2⟩ := List.nodup_cons.1 nil2
  have il1 : i ∉ l1 := fun h => dis i h i (by simp) rfl
  have hix : i ≠ x := fun e => hxn (by simp [e])
  have xl1 : x ∉ l1 := fun h => hxn (by simp [h])
  have xl2 : x ∉ l2 := fun h => hxn (by simp [h])
  have hx0 : x ≠ 0 ∨ True := .inr trivial
  have iI : i ∉ ins (fun j => (N j).t) x l1 := fun h => (mem_ins.1 h).elim hix il1
  have e1 : N1 i = N i := P1.frame i iI
  have z0 : 0 ∉ ins (fun j => (N j).t) x l1 := P1.tree.pos
  have en : ∀ j, j ≠ i → put N1 i { N i with l := i1 } j = N1 j := fun j h => put_ne _ _ h
  have e0 : put N1 i { N i with l := i1 } 0 = N 0 := by rw [en 0 (Ne.symm hi), P1.frame 0 z0]
  have ei : put N1 i { N i with l := i1 } i = { N i with l := i1 } := put_same _ _ _
  have tI : T (put N1 i { N i with l := i1 }) i1 (ins (fun j => (N j).t) x l1) := P1.tree.frame (en 0 (Ne.symm hi)) (fun j hj => en j (fun e => iI (e ▸ hj)))
  have l2I : ∀ j, j ∈ l2 → j ∉ ins (fun j => (N j).t) x l1 := fun j hj h => by
    rcases mem_ins.1 h with e | e
    · exact xl2 (e ▸ hj)
    · exact dis j e j (by simp [hj]) rfl
  have tR : T (put N1 i { N i with l := i1 }) (N i).r l2 := t2.frame e0 (fun j hj => by rw [en j (fun e => il2 (e ▸ hj)), P1.frame j (l2I j hj)])
  have ndI : (ins (fun j => (N j).t) x l1 ++ i :: l2).Nodup := by
    have hp : (ins (fun j => (N j).t) x l1 ++ i :: l2).Perm (x :: (l1 ++ i :: l2)) := (ins_perm _ x l1).append_right _
    exact hp.nodup_iff.2 nd
  have hid : ∀ j, (put N1 i { N i with l := i1 } j).id = (N j).id := fun j => by
    by_cases h : j = i
    · subst h; rw [ei]
    · rw [en j h]; exact P1.id j
  have ht : ∀ j, (put N1 i { N i with l := i1 } j).t = (N j).t := fun j => by
    by_cases h : j = i
    · subst h; rw [ei]
    · rw [en j h]; exact P1.t j
  have htok : ∀ j, (put N1 i { N i with l := i1 } j).tok = (N j).tok := fun j => by
    by_cases h : j = i
    · subst h; rw [ei]
    · rw [en j h]; exact P1.tok j
  have hf : Fine (put N1 i { N i with l := i1 }) len (ins (fun j => (N j).t) x l1 ++ i :: l2) :=
    Fine.put f e0 htok (fun j hj => by simp only [List.mem_append, mem_ins, List.mem_cons] at hj ⊢; rcases hj with (h | h) | h | h <;> simp [h]) (by simp [length_ins]; omega)
  refine ⟨e1, tI, tR, ndI, hf, ?_, ?_, en, ei, hid, ht, htok⟩
  · rw [en i1 (by
      rcases P1.tree.mem with h | h
      · exact absurd h P1.nz
      · exact fun e => iI (e ▸ h))]
  · rcases t2.mem with h | h
    · rw [h, e0]
    · rw [en _ (fun e => il2 (e ▸ h)), P1.frame _ (l2I _ h)]

theorem join_right {N N1 : Nat → Nd} {len i i1 x : Nat} {l1 l2 : List Nat} (hi : i ≠ 0) (t1 : T N (N i).l l1) (t2 : T N (N i).r l2) (ok : Ok N i) (nd : (x :: (l1 ++ i :: l2)).Nodup) (f : Fine N len (x :: (l1 ++ i :: l2)))
    (P1 : Post N N1 i1 (ins (fun j => (N j).t) x l2) (N (N i).r).h ((N (N i).r).h + 1)) :
    N1 i = N i ∧ T (put N1 i { N i with r := i1 }) (N i).l l1 ∧ T (put N1 i { N i with r := i1 }) i1 (ins (fun j => (N j).t) x l2) ∧ (l1 ++ i :: ins (fun j => (N j).t) x l2).Nodup ∧
      Fine (put N1 i { N i with r := i1 }) len (l1 ++ i :: ins (fun j => (N j).t) x l2) ∧ (put N1 i { N i with r := i1 } i1).h = (N1 i1).h ∧ (put N1 i { N i with r := i1 } (N i).l).h = (N (N i).l).h ∧
      (∀ j, j ≠ i → put N1 i { N i with r := i1 } j = N1 j) ∧ put N1 i { N i with r := i1 } i = { N i with r := i1 } ∧
      (∀ j, (put N1 i { N i with r := i1 } j).id = (N j).id) ∧ (∀ j, (put N1 i { N i with r := i1 } j).t = (N j).t) ∧ (∀ j, (put N1 i { N i with r := i1 } j).tok = (N j).tok) := by
  obtain ⟨hxn, nd1⟩ := List.nodup_cons.1 nd
  obtain ⟨nl1, nil2, dis⟩ := List.nodup_append.1 nd1
  obtain ⟨il2, nl2⟩ := List.nodup_cons.1 nil2
  have il1 : i ∉ l1 := fun h => dis i h i (by simp) rfl
  have hix : i ≠ x := fun e => hxn (by simp [e])
  have xl1 : x ∉ l1 := fun h => hxn (by simp [h])
  have xl2 : x ∉ l2 := fun h => hxn (by simp [h])
  have iI : i ∉ ins (fun j => (N j).t) x l2 := fun h => (mem_ins.1 h).elim hix il2
  have e1 : N1 i = N i := P1.frame i iI
  have z0 : 0 ∉ ins (fun j => (N j).t) x l2 := P1.tree.pos
  have en : ∀ j, j ≠ i → put N1 i { N i with r := i1 } j = N1 j := fun j h => put_ne _ _ h
  have e0 : put N1 i { N i with r := i1 } 0 = N 0 := by rw [en 0 (Ne.symm hi), P1.frame 0 z0]
  have ei : put N1 i { N i with r := i1 } i = { N i with r := i1 } := put_same _ _ _
  have tI : T (put N1 i { N i with r := i1 }) i1 (ins (fun j => (N j).t) x l2) := P1.tree.frame (en 0 (Ne.symm hi)) (fun j hj => en j (fun e => iI (e ▸ hj)))
  have l1I : ∀ j, j ∈ l1 → j ∉ ins (fun j => (N j).t) x l2 := fun j hj h => by
    rcases mem_ins.1 h with e | e
    · exact xl1 (e ▸ hj)
    · exact dis j hj j (by simp [e]) rfl
  have tR : T (put N1 i { N i with r := i1 }) (N i).l l1 := t1.frame e0 (fun j hj => by rw [en j (fun e => il1 (e ▸ hj)), P1.frame j (l1I j hj)])
  have ndI : (l1 ++ i :: ins (fun j => (N j).t) x l2).Nodup := by
    have hp : (l1 ++ i :: ins (fun j => (N j).t) x l2).Perm (x :: (l1 ++ i :: l2)) := by
      refine (((ins_perm _ x l2).cons i).append_left l1).trans ?_
      refine ((List.Perm.swap x i l2).append_left l1).trans ?_
      exact List.perm_middle
    exact hp.nodup_iff.2 nd
  have hid : ∀ j, (put N1 i { N i with r := i1 } j).id = (N j).id := fun j => by
    by_cases h : j = i
    · subst h; rw [ei]
    · rw [en j h]; exact P1.id j
  have ht : ∀ j, (put N1 i { N i with r := i1 } j).t = (N j).t := fun j => by
    by_cases h : j = i
    · subst h; rw [ei]
    · rw [en j h]; exact P1.t j
  have htok : ∀ j, (put N1 i { N i with r := i1 } j).tok = (N j).tok := fun j => by
    by_cases h : j = i
    · subst h; rw [ei]
    · rw [en j h]; exact P1.tok j
  have hf : Fine (put N1 i { N i with r := i1 }) len (l1 ++ i :: ins (fun j => (N j).t) x l2) :=
    Fine.put f e0 htok (fun j hj => by simp only [List.mem_append, mem_ins, List.mem_cons] at hj ⊢; rcases hj with h | h | h | h <;> simp [h]) (by simp [length_ins]; omega)
  refine ⟨e1, tR, tI, ndI, hf, ?_, ?_, en, ei, hid, ht, htok⟩
  · rw [en i1 (by
      rcases P1.tree.mem with h | h
      · exact absurd h P1.nz
      · exact fun e => iI (e ▸ h))]
  · rcases t1.mem with h | h
    · rw [h, e0]
    · rw [en _ (fun e => il1 (e ▸ h)), P1.frame _ (l1I _ h)]

theorem insertAt_any (p g len cap root fr x : Nat) (N : Nat → Nd) (hx : x < len) (lf : Leaf N x) : ∀ {i l}, T N i l → (x :: l).Nodup → Fine N len (x :: l) → Sorted (fun j => (N j).t) l →
    ∀ w, Tab w g len cap N → Hdr w p g len cap root fr →
    Calls Yba.prog 54 #[.pointer (some ⟨p, 0, none⟩), .int .i64 i, .int .i64 x] w fun e w' => ∃ N' i', e = .returned (.int .i64 (i' : Nat)) ∧ Only g w w' ∧ Tab w' g len cap N' ∧
      Post N N' i' (ins (fun j => (N j).t) x l) (N i).h ((N i).h + 1) := by
  intro i l hT
  refine T.ind (N := N) (P := fun i l => (x :: l).Nodup → Fine N len (x :: l) → Sorted (fun j => (N j).t) l →
    ∀ w, Tab w g len cap N → Hdr w p g len cap root fr →
    Calls Yba.prog 54 #[.pointer (some ⟨p, 0, none⟩), .int .i64 i, .int .i64 x] w fun e w' => ∃ N' i', e = .returned (.int .i64 (i' : Nat)) ∧ Only g w w' ∧ Tab w' g len cap N' ∧
      Post N N' i' (ins (fun j => (N j).t) x l) (N i).h ((N i).h + 1)) ?_ ?_ hT
  · intro nd f _ w hT hH
    refine (insertAt_zero p x w).mono ?_
    rintro e w' ⟨rfl, rfl⟩
    refine ⟨N, x, rfl, Only.refl _ _, hT, lf.tree f.z, lf.nz, fun _ _ => rfl, fun _ => rfl, fun _ => rfl, fun _ => rfl, ?_, ?_⟩
    · rw [f.z]; simp [nul]
    · rw [f.z, lf.h]; simp [nul]
  · intro i l1 l2 hi t1 t2 ok ih1 ih2 nd f srt w hT hH
    obtain ⟨s1, s2, s12⟩ := List.pairwise_append.1 srt
    have s2' := List.pairwise_cons.1 s2
    by_cases hlt : (N x).t < (N i).t
    · have hQ := fun N1 i1 => join_left (N1 := N1) (i1 := i1) hi t1 t2 ok nd f
      refine insertAt_left p g len cap root fr i x N w hT hH (f.lt i (by simp)) hi hx hlt
        (fun N1 i1 => Post N N1 i1 (ins (fun j => (N j).t) x l1) (N (N i).l).h ((N (N i).l).h + 1)) (fun N3 i3 => Post N N3 i3 (ins (fun j => (N j).t) x (l1 ++ i :: l2)) (N i).h ((N i).h + 1))
        (fun W a b => ih1 (nd.sublist (by simp)) (f.sub (fun j hj => by simp at hj ⊢; rcases hj with h | h <;> simp [h]) (by simp)) s1 W a b)
        (fun N1 i1 P1 => (hQ N1 i1 P1).1) ?_
      intro N1 i1 P1 W a b
      obtain ⟨q1, q2, q3, q4, q5, q6, q7, q8, q9, q10, q11, q12⟩ := hQ N1 i1 P1
      have e1 : ∀ X : Nat → Nd, X = put N1 i { N i with l := i1 } → (X i).l = i1 ∧ (X i).r = (N i).r := fun X h => by rw [h, q9]; exact ⟨rfl, rfl⟩
      obtain ⟨el, er⟩ := e1 _ rfl
      have lo := P1.lo
      have hi' := P1.hi
      have o1 := ok.h
      have o2 := ok.b1
      have o3 := ok.b2
      refine (rebalance_any p g len cap root fr i _ W (ins (fun j => (N j).t) x l1) l2 a b hi (by rw [el]; exact q2) (by rw [er]; exact q3) q4 q5 (by rw [el, er, q6, q7]; omega) (by rw [el, er, q6, q7]; omega)).mono ?_
      rintro e w' ⟨N3, i3, rfl, O, hT3, P3, hbal⟩
      rw [el, er, q6, q7] at P3 hbal
      refine ⟨N3, i3, rfl, O, hT3, ?_, P3.nz, ?_, ?_, ?_, ?_, ?_, ?_⟩
      · rw [ins_left _ x i l2 hlt]; exact P3.tree
      · intro j hj
        rw [ins_left _ x i l2 hlt] at hj
        rw [P3.frame j hj, q8 j (fun e => hj (by simp [e])), P1.frame j (fun h => hj (by simp [h]))]
      · intro j; rw [P3.id, q10]
      · intro j; rw [P3.t, q11]
      · intro j; rw [P3.tok, q12]
      · have := P3.lo
        rcases Nat.lt_or_ge ((N (N i).r).h + 1) (N1 i1).h with h | h
        · omega
        · have := hbal h (by omega); omega
      · have := P3.hi; omega
    · have hQ := fun N1 i1 => join_right (N1 := N1) (i1 := i1) hi t1 t2 ok nd f
      have hle : ∀ a, a ∈ l1 → (N a).t ≤ (N i).t := fun a ha => s12 a ha i (by simp)
      refine insertAt_right p g len cap root fr i x N w hT hH (f.lt i (by simp)) hi hx hlt
        (fun N1 i1 => Post N N1 i1 (ins (fun j => (N j).t) x l2) (N (N i).r).h ((N (N i).r).h + 1)) (fun N3 i3 => Post N N3 i3 (ins (fun j => (N j).t) x (l1 ++ i :: l2)) (N i).h ((N i).h + 1))
        (fun W a b => ih2 (nd.sublist (List.Sublist.cons_cons x (List.Sublist.trans (List.sublist_cons_self i l2) (List.sublist_append_right l1 (i :: l2))))) (f.sub (fun j hj => by simp at hj ⊢; rcases hj with h | h <;> simp [h]) (by simp; omega)) s2'.2 W a b)
        (fun N1 i1 P1 => (hQ N1 i1 P1).1) ?_
      intro N1 i1 P1 W a b
      obtain ⟨q1, q2, q3, q4, q5, q6, q7, q8, q9, q10, q11, q12⟩ := hQ N1 i1 P1
      have e1 : ∀ X : Nat → Nd, X = put N1 i { N i with r := i1 } → (X i).l = (N i).l ∧ (X i).r = i1 := fun X h => by rw [h, q9]; exact ⟨rfl, rfl⟩
      obtain ⟨el, er⟩ := e1 _ rfl
      have lo := P1.lo
      have hi' := P1.hi
      have o1 := ok.h
      have o2 := ok.b1
      have o3 := ok.b2
      refine (rebalance_any p g len cap root fr i _ W l1 (ins (fun j => (N j).t) x l2) a b hi (by rw [el]; exact q2) (by rw [er]; exact q3) q4 q5 (by rw [el, er, q6, q7]; omega) (by rw [el, er, q6, q7]; omega)).mono ?_
      rintro e w' ⟨N3, i3, rfl, O, hT3, P3, hbal⟩
      rw [el, er, q6, q7] at P3 hbal
      refine ⟨N3, i3, rfl, O, hT3, ?_, P3.nz, ?_, ?_, ?_, ?_, ?_, ?_⟩
      · rw [ins_right _ x i l2 hlt l1 hle]; exact P3.tree
      · intro j hj
        rw [ins_right _ x i l2 hlt l1 hle] at hj
        rw [P3.frame j hj, q8 j (fun e => hj (by simp [e])), P1.frame j (fun h => hj (by simp [h]))]
      · intro j; rw [P3.id, q10]
      · intro j; rw [P3.t, q11]
      · intro j; rw [P3.tok, q12]
      · have := P3.lo
        rcases Nat.lt_or_ge ((N (N i).l).h + 1) (N1 i1).h with h | h
        · omega
        · have := hbal (by omega) h; omega
      · have := P3.hi; omega

end Go.Proofs.Ybulkcghm.Bk
