import Derived.Test.YbulkcghmHpH
namespace Go.Proofs.Ybulkcghm.Hp
open Go.RowKit Go.Deep Go.Proofs.Ybulkcghm.Pop
open Go.Sort (swp size_swp swp_get)
set_option linter.unusedVariables false

/-- The top and the last exchanged. -/
theorem swap_top {B : Nat} {w : World} {hp g cap : Nat} {T : Array (Nat × Int)} (n : Nat) (h : Hp B w hp g cap T) (hs : T.size = n + 1) (hn : T.size ≤ 1024) (ho : Ord (fun k => T[k]!.2) T.size) :
    Calls Yba.prog 144 #[.slice (some ⟨g, 0, none⟩) (n + 1) cap, .int .i64 0, .int .i64 n] w fun e w' =>
      e = .returned (.tuple #[]) ∧ ∃ T1, Lp B w w' hp g cap T T1 ∧ DnI (fun k => T1[k]!.2) n 0 ∧ T1[n]! = T[0]! := by
  by_cases e : n = 0
  · subst e
    have := h.swap1 hn (i := 0) (by omega)
    rw [hs] at this
    refine this.mono ?_
    rintro e w' ⟨he, h1, k1⟩
    exact ⟨he, T, ⟨h1, rfl, List.Perm.refl _, k1⟩, ⟨fun k k0 kn => by omega, fun h0 => absurd h0 (Nat.lt_irrefl 0)⟩, rfl⟩
  · have := h.swap hn (i := 0) (j := n) (by omega) (by omega) (by omega)
    rw [hs] at this
    refine this.mono ?_
    rintro e w' ⟨he, h1, k1⟩
    refine ⟨he, swp T 0 n, ⟨h1, size_swp T 0 n, perm_swp T (by omega) (by omega), k1⟩, dn_start (by rw [hs] at ho; exact ho) (xc_swp T (by omega) (by omega)), ?_⟩
    exact Go.Sort.swp_right T 0 n (by omega)

theorem get_pop (T : Array (Nat × Int)) (i : Nat) (hi : i < T.size - 1) : (T.pop)[i]! = T[i]! := by
  simp only [getElem!_def, Array.getElem?_pop]
  rw [if_pos hi]

theorem Hp.popped {B : Nat} {w : World} {hp g cap n : Nat} {T : Array (Nat × Int)} (h : Hp B w hp g cap T) (hs : T.size = n + 1) :
    Hp B (((w.setCell ⟨g, n, none⟩ (.pointer none)).setCell ⟨T[n]!.1, 7, none⟩ (.int .i64 (-1))).setCell ⟨hp, 0, none⟩ (.slice (some ⟨g, 0, none⟩) n cap)) hp g cap T.pop ∧
    Kp B w (((w.setCell ⟨g, n, none⟩ (.pointer none)).setCell ⟨T[n]!.1, 7, none⟩ (.int .i64 (-1))).setCell ⟨hp, 0, none⟩ (.slice (some ⟨g, 0, none⟩) n cap)) ∧
    (((w.setCell ⟨g, n, none⟩ (.pointer none)).setCell ⟨T[n]!.1, 7, none⟩ (.int .i64 (-1))).setCell ⟨hp, 0, none⟩ (.slice (some ⟨g, 0, none⟩) n cap)).heap[T[n]!.1]? = some (.cells (timer T[n]!.2 (-1)) 67 (0, 0)) := by
  obtain ⟨cur, hr, h1, h2⟩ := h.row
  have hl : n < T.size := by omega
  have hps : T.pop.size = n := by simp; omega
  have hle := h.le
  refine ⟨⟨h.bhp, h.bg, fun i hi => ?_, ?_, by omega, h.cm, ⟨cur.setIfInBounds n (.pointer none), ?_, by simpa using h1, fun i hi => ?_⟩, fun i hi => ?_⟩, ⟨rfl, rfl, rfl, by simp [World.setCell], fun k hk hc => ?_⟩, ?_⟩
  · rw [get_pop T i (by omega)]; exact h.bT i (by omega)
  · rw [blk_same (c := #[.slice (some ⟨g, 0, none⟩) T.size cap]) (t := 60) (f := (0, 0)) (by rw [blk_ne (h.hpT hl), blk_ne h.hpg]; exact h.var), hps]; rfl
  · rw [blk_ne h.hpg.symm, blk_ne (h.hgT hl)]
    exact blk_same hr _
  · rw [get_pop T i (by omega), Array.getElem?_setIfInBounds, if_neg (by omega)]
    exact h2 i (by omega)
  · rw [get_pop T i (by omega), blk_ne (h.hpT (i := i) (by omega)).symm, blk_ne (fun e => by have := h.inj (i := i) (j := n) (by omega) hl e; omega), blk_ne (h.hgT (i := i) (by omega)).symm]
    exact h.made i (by omega)
  · have n1 : k ≠ hp := fun e => h.not28 k (Or.inl e) hc
    have n2 : k ≠ g := fun e => h.not28 k (Or.inr (Or.inl e)) hc
    have n3 : k ≠ T[n]!.1 := fun e => h.not28 k (Or.inr (Or.inr ⟨n, hl, e⟩)) hc
    rw [blk_ne n1, blk_ne n3, blk_ne n2]
  · rw [blk_ne (h.hpT hl).symm]
    refine h.made_set hl _ n _ _ ?_
    rw [blk_ne (h.hgT hl).symm]
    exact h.made n hl

set_option maxHeartbeats 1000000 in
set_option maxRecDepth 100000 in
/-- container/heap.Pop -/
theorem pop_h (B hp g cap n : Nat) (T : Array (Nat × Int)) (w : World) (h : Hp B w hp g cap T) (hs : T.size = n + 1) (hn : T.size ≤ 1024) (ho : Ord (fun k => T[k]!.2) T.size) :
    Calls Yba.prog 23 #[.iface 70 (.pointer (some ⟨hp, 0, none⟩))] w fun e w' =>
      e = .returned (.iface 62 (.pointer (some ⟨T[0]!.1, 0, none⟩))) ∧ ∃ T', Hp B w' hp g cap T' ∧ T.toList.Perm (T[0]! :: T'.toList) ∧ Ord (fun k => T'[k]!.2) T'.size ∧ Kp B w w' ∧
        w'.heap[T[0]!.1]? = some (.cells (timer T[0]!.2 (-1)) 67 (0, 0)) := by
  have hm := h.mlen
  have HL := hideP (len_h (some ⟨g, 0, none⟩) (n + 1) cap w)
  have hsw := h.mswap
  rw [hs] at hm hsw
  have HS := hideP (swap_top n h hs hn ho)
  have hn1 : n ≤ 1023 := by omega
  have Hs := hideP hs
  have Hn := hideP hn
  clear h ho hs hn
  go_enter Yba.func23, Yba.ntmps23
  go_wp2_with fail
  refine Calls.mono HL.out ?_
  rintro e w0 ⟨rfl, rfl⟩
  clear HL hm
  go_wp2_with fail
  refine Calls.mono HS.out ?_
  rintro e w1 ⟨rfl, T1, l1, d1, t1⟩
  have Hl1 := hideP l1
  have Ht1 := hideP t1
  have hs1 : T1.size = n + 1 := l1.sz.trans Hs.out
  have HD := hideP (dn_h B hp g cap n T1 w1 l1.st (by rw [l1.sz]; exact Hn.out) (by omega) d1)
  have Hs1 := hideP hs1
  clear hsw HS l1 d1 t1 hs1
  go_wp2_with fail
  refine Calls.mono HD.out ?_
  rintro e w2 ⟨⟨b, rfl⟩, T2, l2, o2, t2⟩
  have hs2 : T2.size = n + 1 := l2.sz.trans Hs1.out
  have h2 := l2.st
  have hmp := m_pop ⟨hp, 0, none⟩ w2
  have HP := hideP (pop_any hp g T2[n]!.1 n cap _ w2 (by omega) (by have := h2.le; omega) (by rw [← hs2]; exact h2.cellv) h2.frozenv (h2.cellg (by omega)) (h2.frozeng n) (h2.cell7 (by omega)) (h2.frozen7 (by omega)) h2.hpg (h2.hpT (by omega)) (h2.hgT (by omega)))
  obtain ⟨p1, p2, p3⟩ := h2.popped hs2
  have e0 : T2[n]! = T[0]! := t2.trans Ht1.out
  rw [e0] at HP p1 p2 p3
  have hps : T2.pop.size = n := by simp; omega
  have P0 : Hid (T.toList.Perm (T[0]! :: T2.pop.toList)) := by
    have q : T2.toList.Perm T.toList := l2.perm.trans Hl1.out.perm
    refine q.symm.trans ?_
    have e1 : T2 = T2.pop.push T2[n]! := by
      apply Array.ext
      · simp; omega
      · intro i hi1 hi2
        rw [Array.getElem_push]
        split
        · simp
        · rename_i hlt
          have : i = n := by simp at hlt; omega
          subst this
          exact (getElem!_pos T2 i hi1).symm
    rw [e1, e0]
    simp
  have O' : Hid (Ord (fun k => T2.pop[k]!.2) T2.pop.size) := by
    unfold Hid
    rw [hps]
    intro k k0 kn
    show T2.pop[(k - 1) / 2]!.2 ≤ T2.pop[k]!.2
    rw [get_pop T2 _ (by omega), get_pop T2 _ (by omega)]
    exact o2 k k0 kn
  have K' := hideP ((Hl1.out.kept.trans l2.kept).trans p2)
  have P1 := hideP p1
  have P3 := hideP p3
  clear HD Hl1 Ht1 Hs1 l2 o2 t2 hs2 h2 p1 p2 p3 e0 hps
  go_wp2_with fail
  refine Calls.mono HP.out ?_
  rintro e w3 ⟨rfl, rfl⟩
  clear HP hmp
  go_wp2_with fail
  go_ret
  exact ⟨rfl, T2.pop, P1.out, P0.out, O'.out, K'.out, P3.out⟩

end Go.Proofs.Ybulkcghm.Hp
