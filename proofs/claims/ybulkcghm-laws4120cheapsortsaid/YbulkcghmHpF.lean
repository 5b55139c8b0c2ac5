import Derived.Test.YbulkcghmHpD
import Derived.Test.YbulkcghmHpE
namespace Go.Proofs.Ybulkcghm.Hp
open Go.RowKit Go.Deep Go.Proofs.Ybulkcghm.Pop
open Go.Sort (swp size_swp swp_get)
set_option linter.unusedVariables false

theorem hideP {p : Prop} (h : p) : Hid p := h

theorem half (j : Nat) : ((j : Int) - 1).tdiv 2 = (((j - 1) / 2 : Nat) : Int) := by
  rcases Nat.eq_zero_or_pos j with h | h
  · subst h; rfl
  · have e : (j : Int) - 1 = ((j - 1 : Nat) : Int) := by omega
    rw [e, Int.tdiv_eq_ediv_of_nonneg (by omega)]
    omega

/-- What the loops keep. -/
structure Lp (B : Nat) (w wr : World) (hp g cap : Nat) (T Tk : Array (Nat × Int)) : Prop where
  st : Hp B wr hp g cap Tk
  sz : Tk.size = T.size
  perm : Tk.toList.Perm T.toList
  kept : Kp B w wr

theorem Lp.later {B : Nat} {w wr w' : World} {hp g cap : Nat} {T Tk : Array (Nat × Int)} (h : Lp B w wr hp g cap T Tk) (hs : Hp B w' hp g cap Tk) (hk : Kp B wr w') : Lp B w w' hp g cap T Tk := ⟨hs, h.sz, h.perm, h.kept.trans hk⟩
theorem Lp.swp {B : Nat} {w wr w' : World} {hp g cap : Nat} {T Tk : Array (Nat × Int)} (h : Lp B w wr hp g cap T Tk) {i j : Nat} (hi : i < Tk.size) (hj : j < Tk.size) (hs : Hp B w' hp g cap (swp Tk i j)) (hk : Kp B wr w') : Lp B w w' hp g cap T (Go.Sort.swp Tk i j) :=
  ⟨hs, (size_swp Tk i j).trans h.sz, (perm_swp Tk hi hj).trans h.perm, h.kept.trans hk⟩

set_option maxHeartbeats 1000000 in
set_option maxRecDepth 100000 in
/-- container/heap.up -/
theorem up_h (B hp g cap : Nat) (T : Array (Nat × Int)) (j : Nat) (w : World) (h : Hp B w hp g cap T) (hn : T.size ≤ 1024) (hj : j < T.size) (hU : UpI (fun k => T[k]!.2) T.size j) :
    Calls Yba.prog 42 #[.iface 70 (.pointer (some ⟨hp, 0, none⟩)), .int .i64 j] w fun e w' =>
      e = .returned (.tuple #[]) ∧ ∃ T', Lp B w w' hp g cap T T' ∧ Ord (fun k => T'[k]!.2) T'.size := by
  have H := hideP h
  have HU := hideP hU
  clear h hU
  go_enter Yba.func42, Yba.ntmps42
  go_wp2_with fail
  go_loopw [1] (fun vj wr => ∃ (j : Nat) (Tk : Array (Nat × Int)), vj = .int .i64 j ∧ j < Tk.size ∧ Hid (Lp B w wr hp g cap T Tk) ∧ Hid (UpI (fun k => Tk[k]!.2) Tk.size j)) (fun vj _ => (intOf vj).toNat)
  case atStart => exact ⟨j, T, rfl, hj, ⟨H.out, rfl, List.Perm.refl _, Kp.refl _ _⟩, HU.out⟩
  case round =>
    clear H HU hj j
    obtain ⟨j, Tk, rfl, hj, HL, HU⟩ := hrel
    have hn2 : Tk.size ≤ 1024 := by rw [HL.out.sz]; exact hn
    clear hn
    have hh := half j
    by_cases h0 : j = 0
    · subst h0
      go_wp2_with fail
      go_end0
      exact ⟨rfl, Tk, HL.out, up_zero HU.out⟩
    · obtain ⟨p, hp'⟩ : ∃ p, p = (j - 1) / 2 := ⟨_, rfl⟩
      rw [← hp'] at hh
      have hpj : p < j := by omega
      have ne : ((p : Int) == (j : Int)) = false := by simp; omega
      have HP := hideP hp'
      clear hp'
      have hm := HL.out.st.mless
      have HLs := hideP (HL.out.st.less hn2 (i := j) (j := p) hj (by omega))
      obtain ⟨L, hL⟩ : ∃ L, decide (Tk[j]!.2 < Tk[p]!.2) = L := ⟨_, rfl⟩
      rw [hL] at HLs
      have HLt := hideP hL
      clear hL
      go_wp2_with fail
      refine Calls.mono HLs.out ?_
      rintro e w1 ⟨rfl, h1, k1⟩
      have HL1 := hideP (HL.out.later h1 k1)
      clear hm HLs HL k1 hh ne
      cases L
      · clear h1
        go_wp2_with fail
        go_end0
        exact ⟨rfl, Tk, HL1.out, up_stop HU.out (by have := HLt.out; rw [HP.out] at this; simpa using this)⟩
      · have hm := h1.mswap
        have HS := hideP (h1.swap hn2 (i := p) (j := j) (by omega) hj (by omega))
        clear h1
        go_wp2_with fail
        refine Calls.mono HS.out ?_
        rintro e w2 ⟨rfl, h2, k2⟩
        have HL2 := hideP (HL1.out.swp (i := p) (j := j) (by omega) hj h2 k2)
        clear hm HS h2 k2
        go_wp2_with fail
        go_roundw
        case rel =>
          refine ⟨p, swp Tk p j, rfl, by rw [size_swp]; omega, HL2.out, ?_⟩
          unfold Hid
          rw [size_swp]
          exact up_step HU.out (by omega) hj HP.out (by simpa using HLt.out) (xc_swp Tk (by omega) hj)
        case measure => simp [intOf]; omega

end Go.Proofs.Ybulkcghm.Hp
