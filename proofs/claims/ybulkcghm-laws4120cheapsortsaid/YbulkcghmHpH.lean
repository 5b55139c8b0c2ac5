import Derived.Test.YbulkcghmHpG
namespace Go.Proofs.Ybulkcghm.Hp
open Go.RowKit Go.Deep Go.Proofs.Ybulkcghm.Pop
open Go.Sort (swp size_swp swp_get)
set_option linter.unusedVariables false

def ptr (t : Nat × Int) : Value := .pointer (some ⟨t.1, 0, none⟩)

theorem Hp.owns {B : Nat} {w : World} {hp g cap : Nat} {T : Array (Nat × Int)} (h : Hp B w hp g cap T) : w.ownsRow B 62 1 (.slice (some ⟨g, 0, none⟩) T.size cap) T.size (T.toList.map ptr) := by
  obtain ⟨cur, hr, h1, h2⟩ := h.row
  refine ⟨by simp, Or.inr ⟨g, cap, cur, rfl, h.bg, hr, h.le, h.cm, by omega, ?_⟩⟩
  apply List.ext_getElem?
  intro i
  have hle := h.le
  by_cases hi : i < T.size
  · rw [List.getElem?_take_of_lt (by omega)]
    simp only [Array.getElem?_toList, List.getElem?_map]
    rw [h2 i hi, Array.getElem?_eq_getElem hi]
    simp [ptr, getElem!_pos T i hi]
  · rw [List.getElem?_eq_none (by simp; omega), List.getElem?_eq_none (by simp; omega)]

theorem get_push (T : Array (Nat × Int)) (x : Nat × Int) (i : Nat) : (T.push x)[i]! = if i = T.size then x else T[i]! := by
  simp only [getElem!_def, Array.getElem?_push]
  by_cases e : i = T.size
  · rw [if_pos e, if_pos e]
  · rw [if_neg e, if_neg e]

theorem Hp.pushed {B : Nat} {w w1 : World} {hp g cap p g' cap' : Nat} {T : Array (Nat × Int)} {s x : Int} (h : Hp B w hp g cap T) (hp' : w.heap[p]? = some (.cells (timer s x) 67 (0, 0))) (hB : B ≤ p) (hne : ∀ i, i < T.size → T[i]!.1 ≠ p)
    (hown : w1.ownsRow B 62 1 (.slice (some ⟨g', 0, none⟩) (T.size + 1) cap') (T.size + 1) (T.toList.map ptr ++ [.pointer (some ⟨p, 0, none⟩)]))
    (hgr : ((w.setCell ⟨p, 7, none⟩ (.int .i64 T.size)).alloc (.cells #[.pointer (some ⟨p, 0, none⟩)] 62)).grownBy w1 (some g)) :
    Hp B (w1.setCell ⟨hp, 0, none⟩ (.slice (some ⟨g', 0, none⟩) (T.size + 1) cap')) hp g' cap' (T.push (p, s)) ∧ Kp B w (w1.setCell ⟨hp, 0, none⟩ (.slice (some ⟨g', 0, none⟩) (T.size + 1) cap')) := by
  obtain ⟨cur0, hr0, c01, c02⟩ := h.row
  have hpp : hp ≠ p := fun e => by rw [← e, h.var] at hp'; simp at hp'
  have hgp : g ≠ p := fun e => by rw [← e, hr0] at hp'; simp at hp'
  have hW : ∀ k, k < w.heap.size → k ≠ g → k ≠ p → w1.heap[k]? = w.heap[k]? := fun k hk kg kp => by
    rw [hgr.block k (by simp [World.setCell]; omega) (by simp; exact kg), Below.heap_alloc _ _ _ (by simpa [World.setCell] using hk), blk_ne kp]
  have hWp : w1.heap[p]? = some (.cells (timer s T.size) 67 (0, 0)) := by
    have hk := lt_of_blk hp'
    rw [hgr.block p (by simp [World.setCell]; omega) (by simp; exact hgp.symm), Below.heap_alloc _ _ _ (by simpa [World.setCell] using hk), blk_same hp']
    rfl
  have hv1 : w1.heap[hp]? = some (.cells #[.slice (some ⟨g, 0, none⟩) T.size cap] 60 (0, 0)) := (hW hp (lt_of_blk h.var) h.hpg hpp).trans h.var
  obtain ⟨_, ho⟩ := hown
  rcases ho with ⟨_, h0⟩ | ⟨G, C, cur, hv, hG, hcur, hle, hcm, hcs, htk⟩
  · omega
  simp at hv
  obtain ⟨rfl, rfl⟩ := hv
  have hpg' : hp ≠ g' := fun e => by rw [e, hcur] at hv1; simp at hv1
  have hsz : (T.push (p, s)).size = T.size + 1 := by simp
  constructor
  · refine ⟨h.bhp, hG, fun i hi => ?_, ?_, by rw [hsz]; exact hle, hcm, ⟨cur, ?_, by omega, fun i hi => ?_⟩, fun i hi => ?_⟩
    · rw [hsz] at hi
      rw [get_push]
      split
      · exact hB
      · exact h.bT i (by omega)
    · rw [blk_same hv1, hsz]; rfl
    · rw [blk_ne hpg'.symm]; exact hcur
    · rw [hsz] at hi
      have e1 : cur[i]? = (cur.toList.take ((T.size + 1) * 1))[i]? := by
        rw [List.getElem?_take_of_lt (by omega)]; simp
      rw [e1, htk, get_push]
      by_cases e : i = T.size
      · subst e
        rw [if_pos rfl, List.getElem?_append_right (by simp)]
        simp
      · rw [if_neg e, List.getElem?_append_left (by simp; omega)]
        have hi' : i < T.size := by omega
        simp [ptr, getElem!_pos T i hi', Array.getElem?_eq_getElem hi']
    · rw [hsz] at hi
      rw [get_push]
      by_cases e : i = T.size
      · subst e
        rw [if_pos rfl, blk_ne hpp.symm]
        exact hWp
      · have hi' : i < T.size := by omega
        rw [if_neg e, blk_ne (h.hpT hi').symm, hW _ (lt_of_blk (h.made i hi')) (h.hgT hi').symm (hne i hi')]
        exact h.made i hi'
  · refine ⟨hgr.os, hgr.tape, hgr.output, ?_, fun k hk hc => ?_⟩
    · have := hgr.size
      simp [World.setCell] at this ⊢
      omega
    · have n1 : k ≠ hp := fun e => h.not28 k (Or.inl e) hc
      have n2 : k ≠ g := fun e => h.not28 k (Or.inr (Or.inl e)) hc
      have n3 : k ≠ p := fun e => by
        subst e
        rcases hc with hc | ⟨c, f, hc⟩
        · omega
        · rw [hp'] at hc; simp at hc
      rw [blk_ne n1, hW k hk n2 n3]

set_option maxHeartbeats 1000000 in
set_option maxRecDepth 100000 in
/-- container/heap.Push -/
theorem push_h (B hp g cap p : Nat) (s x : Int) (T : Array (Nat × Int)) (w : World) (h : Hp B w hp g cap T) (hn : T.size < 1024) (ho : Ord (fun k => T[k]!.2) T.size)
    (hB : B ≤ w.heap.size) (hp' : w.heap[p]? = some (.cells (timer s x) 67 (0, 0))) (hBp : B ≤ p) (hne : ∀ i, i < T.size → T[i]!.1 ≠ p) :
    Calls Yba.prog 22 #[.iface 70 (.pointer (some ⟨hp, 0, none⟩)), .iface 62 (.pointer (some ⟨p, 0, none⟩))] w fun e w' =>
      e = .returned (.tuple #[]) ∧ ∃ g' cap' T', Hp B w' hp g' cap' T' ∧ T'.toList.Perm ((p, s) :: T.toList) ∧ Ord (fun k => T'[k]!.2) T'.size ∧ Kp B w w' := by
  have hpp : hp ≠ p := fun e => by rw [← e, h.var] at hp'; simp at hp'
  have hgp : g ≠ p := fun e => by
    obtain ⟨cur0, hr0, c01, c02⟩ := h.row
    rw [← e, hr0] at hp'; simp at hp'
  have HM := hideP (pushM_h hp g T.size cap p B (T.toList.map ptr) (.int .i64 x) w (by omega) hB h.cellv h.frozenv h.owns (by simp [World.cell?, hp', timer]) (by simp [World.frozen?, hp']) h.hpg hpp hgp)
  have hm := m_push ⟨hp, 0, none⟩ w
  have HH := hideP h
  have HO := hideP ho
  have HP' := hideP hp'
  have HN := hideP hne
  clear h ho hp' hne
  go_enter Yba.func22, Yba.ntmps22
  go_wp2_with fail
  refine Calls.mono HM.out ?_
  rintro e w1 ⟨rfl, g', cap', w0, k1, k2, rfl⟩
  obtain ⟨hP, hK⟩ := HH.out.pushed HP'.out hBp HN.out k1 k2
  have HK := hideP hK
  clear hm HM k1 k2 hK
  generalize w0.setCell ⟨hp, 0, none⟩ (.slice (some ⟨g', 0, none⟩) (T.size + 1) cap') = w1 at *
  have HU := hideP (up_h B hp g' cap' (T.push (p, s)) ((T.push (p, s)).size - 1) w1 hP (by simp; omega) (by simp) (by
    have e : (T.push (p, s)).size = T.size + 1 := by simp
    rw [e]
    refine up_start fun k k0 kn => ?_
    show (T.push (p, s))[(k - 1) / 2]!.2 ≤ (T.push (p, s))[k]!.2
    rw [get_push, get_push, if_neg (by omega), if_neg (by omega)]
    exact HO.out k k0 kn))
  rw [show ((((T.push (p, s)).size - 1 : Nat) : Int)) = ((T.push (p, s)).size : Int) - 1 by simp] at HU
  have hpm : Hid ((T.push (p, s)).toList.Perm ((p, s) :: T.toList)) := by
    unfold Hid
    simp
  have hN1 : (T.push (p, s)).size ≤ 1024 := by simp; omega
  clear HH HO HP' HN hn
  generalize T.push (p, s) = Tp at *
  have hl := hP.mlen
  have HLn := hideP (len_h (some ⟨g', 0, none⟩) Tp.size cap' w1)
  clear hP
  go_wp2_with fail
  refine Calls.mono HLn.out ?_
  rintro e w2 ⟨rfl, rfl⟩
  clear HLn hl
  go_wp2_with fail
  refine Calls.mono HU.out ?_
  rintro e w3 ⟨rfl, T', hL', hO'⟩
  have HL' := hideP hL'
  have HO' := hideP hO'
  clear HU hL' hO'
  go_wp2_with fail
  go_end0
  exact ⟨rfl, g', cap', T', HL'.out.st, HL'.out.perm.trans hpm.out, HO'.out, HK.out.trans HL'.out.kept⟩

end Go.Proofs.Ybulkcghm.Hp
