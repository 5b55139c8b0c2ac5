import Derived.Test.YbulkcghmRem
namespace Go.Proofs.Ybulkcghm.Bk
open Go.RowKit Go.Deep
open Go.Proofs.Ybulkcghm.Flt (F)
open Go.Proofs.Ybulkcghm.Avl
open Go.Proofs.Ybulkcghm.Srt
set_option linter.unusedVariables false
set_option linter.unusedSimpArgs false
attribute [local go_sem] run_store_float

/-- The tree that is left. -/
structure RT (N : Nat → Nd) (root : Nat) (l : List Nat) (ts : Nat → Int) : Prop where
  tree : T N root l
  z : N 0 = nul
  id : ∀ i, i ∈ l → (N i).id = i
  tok : ∀ i, i ∈ l → (N i).tok = i
  t : ∀ i, i ∈ l → (N i).t = ts (i - 1)

/-- The memory behind j removals. -/
structure RS (B p g gw cap n j : Nat) (ts : Nat → Int) (w0 w : World) : Prop where
  below : Below B w0 w
  bp : B ≤ p
  bg : B ≤ g
  bs : B ≤ w.heap.size
  row : w.rowIs gw 28 n (fun i => .int .u64 ((ord ts n).getD i 0 : Nat))
  tree : ∃ N root fr, Hdr w p g (n + 1) cap root fr ∧ Tab w g (n + 1) cap N ∧ RT N root ((ord ts n).drop j) ts

namespace RS
variable {B p g gw cap n j : Nat} {ts : Nat → Int} {w0 w : World}
theorem drew (h : RS B p g gw cap n j ts w0 w) : RS B p g gw cap n j ts w0 w.drew := by
  obtain ⟨N, root, fr, a, b, c⟩ := h.tree
  exact ⟨h.below.drew, h.bp, h.bg, h.bs, h.row, N, root, fr, a, b, c⟩
theorem drewN (h : RS B p g gw cap n j ts w0 w) (m : Nat) : RS B p g gw cap n j ts w0 (w.drewN m) := by
  obtain ⟨N, root, fr, a, b, c⟩ := h.tree
  exact ⟨below_drewN h.below m, h.bp, h.bg, h.bs, h.row, N, root, fr, a, b, c⟩
theorem alloc (h : RS B p g gw cap n j ts w0 w) (o : Obj) : RS B p g gw cap n j ts w0 (w.alloc o) := by
  obtain ⟨N, root, fr, a, b, c⟩ := h.tree
  refine ⟨h.below.alloc h.bs o, h.bp, h.bg, by rw [nblk_alloc]; have := h.bs; omega, h.row.alloc o, N, root, fr, ?_, b.alloc o, c⟩
  unfold Hdr
  rw [blk_alloc_lt _ _ _ a.lt]; exact a
end RS

theorem RT.fine {N : Nat → Nd} {root n j : Nat} {ts : Nat → Int} (h : RT N root ((ord ts n).drop j) ts) (hn : n ≤ 1024) : Fine N (n + 1) ((ord ts n).drop j) := by
  have hm : ∀ i, i ∈ (ord ts n).drop j → 1 ≤ i ∧ i ≤ n := fun i hi => (mem_ord ts n i).1 (List.mem_of_mem_drop hi)
  refine ⟨h.z, by omega, fun i hi => by have := hm i hi; omega, fun i hi => ?_, ?_⟩
  · have := hm i hi; rw [h.tok i hi]; omega
  · rw [List.length_drop, length_ord]; omega

theorem RT.goal {N : Nat → Nd} {root n j : Nat} {ts : Nat → Int} (h : RT N root ((ord ts n).drop j) ts) (hn : n ≤ 1024) : Goal N root (n + 1) ((ord ts n).drop j) :=
  ⟨h.tree, h.fine hn, h.id, h.tok⟩

/-- One removal. -/
theorem remove_step (B p g gw cap n j : Nat) (ts : Nat → Int) (w0 w : World) (hn : n ≤ 1024) (hj : j < n) (h : RS B p g gw cap n j ts w0 w) :
    Calls Yba.prog 18 #[.pointer (some ⟨p, 0, none⟩)] w fun e w' => e = .returned (.agg (bc ((ord ts n).getD j 0) (ts ((ord ts n).getD j 0 - 1)) ((ord ts n).getD j 0))) ∧ RS B p g gw cap n (j + 1) ts w0 w' := by
  obtain ⟨N, root, fr, hH, hT, tr⟩ := h.tree
  have hl := length_ord ts n
  have hdrop : (ord ts n).drop j = (ord ts n).getD j 0 :: (ord ts n).drop (j + 1) := by
    rw [List.drop_eq_getElem_cons (by omega), List.getD_eq_getElem?_getD, List.getElem?_eq_getElem (by omega)]; rfl
  have hr0 : root ≠ 0 := by
    intro e
    have := tr.tree
    rw [e] at this
    have := this.of_zero
    rw [hdrop] at this
    simp at this
  have nd : ((ord ts n).drop j).Nodup := (nodup_ord ts n).sublist (List.drop_sublist _ _)
  have hpg := hH.ne hT
  have hgwp : gw ≠ p := by
    intro e
    obtain ⟨c, hc, _⟩ := h.row
    rw [e] at hc
    unfold Hdr at hH
    rw [hH] at hc
    simp at hc
  have hgwg : gw ≠ g := by
    intro e
    obtain ⟨c, hc, _⟩ := h.row
    obtain ⟨c', hc', _⟩ := hT
    rw [e, hc'] at hc
    simp at hc
  refine (removeFirst_any p g (n + 1) cap root fr N _ w hT hH hr0 tr.tree nd (tr.fine hn)).mono ?_
  rintro e w' ⟨N', r, x, l', hx, rfl, O, hH', hT', P⟩
  rw [hdrop] at hx
  obtain ⟨rfl, rfl⟩ := List.cons.inj hx
  have hmem : (ord ts n).getD j 0 ∈ (ord ts n).drop j := by rw [hdrop]; simp
  have hsub : ∀ i, i ∈ (ord ts n).drop (j + 1) → i ∈ (ord ts n).drop j := fun i hi => by rw [hdrop]; simp [hi]
  refine ⟨by rw [tr.id _ hmem, tr.t _ hmem, tr.tok _ hmem], O.below h.below h.bs h.bp h.bg, h.bp, h.bg, Nat.le_trans h.bs O.size, h.row.of_block (O.block gw h.row.lt hgwp hgwg), N', r, _, hH', hT', P.tree, P.z, ?_, ?_, ?_⟩
  · intro i hi; rw [P.id i hi, tr.id i (hsub i hi)]
  · intro i hi; rw [P.tok i hi, tr.tok i (hsub i hi)]
  · intro i hi; rw [P.t i hi, tr.t i (hsub i hi)]

/-- The check of what is left. -/
theorem check_rest (B p g gw cap n j : Nat) (ts : Nat → Int) (w0 w : World) (hn : n ≤ 1024) (h : RS B p g gw cap n j ts w0 w) (aw : Option Addr) (cw : Nat) (hW : Wants w aw ((ord ts n).drop j)) :
    Calls Yba.prog 16 #[.pointer (some ⟨p, 0, none⟩), .slice aw (n - j) cw] w fun e w' => e = .returned (.bool true) ∧ Below w.heap.size w w' := by
  obtain ⟨N, root, fr, hH, hT, tr⟩ := h.tree
  have := check_pos p g (n + 1) cap root fr cw aw N ((ord ts n).drop j) w hT hH (by omega) (tr.goal hn) hW
  rw [List.length_drop, length_ord] at this
  exact this

theorem check_done (B p g gw cap n j : Nat) (ts : Nat → Int) (w0 w : World) (hn : n ≤ 1024) (h : RS B p g gw cap n j ts w0 w) (hj : n = j) (aw : Option Addr) (cw : Nat) :
    Calls Yba.prog 16 #[.pointer (some ⟨p, 0, none⟩), .slice aw 0 cw] w fun e w' => e = .returned (.bool true) ∧ Below w.heap.size w w' := by
  have := check_rest B p g gw cap n j ts w0 w hn h aw cw (fun i hi => by
    have := List.length_drop (i := j) (l := ord ts n)
    rw [length_ord] at this
    omega)
  rw [show n - j = 0 by omega] at this
  exact this

theorem wants_off {B p g gw cap n j : Nat} {ts : Nat → Int} {w0 w : World} (h : RS B p g gw cap n j ts w0 w) : Wants w (some ⟨gw, j, none⟩) ((ord ts n).drop j) := fun i hi => by
  have hl := List.length_drop (i := j) (l := ord ts n)
  rw [length_ord] at hl
  refine ⟨gw, j, h.row.lt, rfl, fun q hq => ?_⟩
  rw [h.row.cell (by omega)]
  simp only [List.getD_eq_getElem?_getD, List.getElem?_drop]

set_option maxHeartbeats 4000000 in
set_option maxRecDepth 100000 in
theorem lawR_pos (a0 : Option Addr) (len cap : Nat) (Z : Nat → Int) (k : Nat) (w : World) (hl : len ≤ 1024) (hpos : 0 < len) (hc : Reads w a0 len Z) (hZ : ∀ i, -128 ≤ Z i ∧ Z i ≤ 127) (hk : k ≤ 65535) :
    Calls Yba.prog 7 #[.slice a0 len cap, .int .u16 (k : Int)] w fun e w' => e = .returned (.bool true) ∧ Below w.heap.size w w' := by
  have hgt : decide ((1024 : Int) < (len : Int)) = false := by simp; omega
  have HC := hideP hc
  clear hc
  go_enter Yba.func7, Yba.ntmps7
  go_wp2_with fail
  refine (build_any a0 len cap Z w hl HC.out hZ).mono ?_
  rintro e w1 ⟨rfl, S1⟩
  have HS1 := hideP S1
  have hb1 := S1.1
  clear S1
  go_wp2_with fail
  refine (order_any a0 len cap Z w1 hl (HC.out.below hb1) hZ).mono ?_
  rintro e w2 ⟨gw, rfl, hgw, hb2, hr⟩
  have S2 := HS1.out.below hb2 hb1.size
  have hb12 := hb1.trans (hb2.mono hb1.size)
  obtain ⟨m, hm⟩ : ∃ m, m = k % (len + 1) := ⟨_, rfl⟩
  have hmn : m ≤ len := by have := Nat.mod_lt k (show 0 < len + 1 by omega); omega
  have hme : ((k : Int).tmod ((len : Int) + 1)) = m := by
    rw [Int.tmod_eq_emod_of_nonneg (by omega), hm]; rfl
  have hme2 : ((k : Int) % ((len : Int) + 1)) = m := by rw [hm]; rfl
  have HM := hideP hm
  clear hm
  obtain ⟨_, hBp, ⟨h0, _⟩ | ⟨_, g, bcap, N, root, hH, hT, hcc, hg, tr⟩⟩ := S2
  · omega
  have R0 : RS w.heap.size w.heap.size g gw bcap len 0 Z w w2 := ⟨hb12, Nat.le_refl _, hg, hb12.size, hr, N, root, 0, hH, hT, by
    rw [List.drop_zero]
    exact ⟨tr.tree, tr.z, fun i hi => tr.id i ((mem_ord Z len i).1 hi).1 ((mem_ord Z len i).1 hi).2, fun i hi => tr.tok i ((mem_ord Z len i).1 hi).1 ((mem_ord Z len i).1 hi).2, fun i hi => tr.t i ((mem_ord Z len i).1 hi).1 ((mem_ord Z len i).1 hi).2⟩⟩
  clear HS1 hb1 hb2 hr hb12 hH hT tr hcc hg hBp hgw
  obtain ⟨b, off, hb, rfl, hcell⟩ := HC.out 0 hpos
  clear HC
  go_wp2_with fail
  go_loopw [8] (fun jv wr => ∃ j : Nat, j ≤ m ∧ jv = .int .i64 j ∧ RS w.heap.size w.heap.size g gw bcap len j Z w wr) (fun jv _ => m - (intOf jv).toNat)
  case atStart => exact ⟨0, Nat.zero_le _, rfl, R0⟩
  case round =>
    clear R0
    obtain ⟨j, hjm, rfl, R⟩ := hrel
    by_cases hlt : j < m
    · have HR := hideP (remove_step w.heap.size w.heap.size g gw bcap len j Z w wr hl (by omega) R)
      clear R
      have hx := ord_at (Z := Z) (j := len) (q := j) (by omega)
      go_wp2_with fail
      refine Calls.mono HR.out ?_
      rintro e w3 ⟨rfl, R3⟩
      clear HR
      have hgw3 := R3.row.lt
      have x0 := R3.row.cell (i := j) (by omega)
      have hbl3 : b < w3.heap.size := Nat.lt_of_lt_of_le hb R3.bs
      have t0 := (R3.below.cell (p := ⟨b, off + ((ord Z len).getD j 0 - 1), none⟩) hb).trans (hcell ((ord Z len).getD j 0 - 1) (by omega))
      generalize (ord Z len).getD j 0 = x at *
      obtain ⟨y, hy⟩ : ∃ y, x = y + 1 := ⟨x - 1, by omega⟩
      subst hy
      rw [show y + 1 - 1 = y by omega] at *
      obtain ⟨z1, z2⟩ := hZ y
      have hyl : (y : Int) < (len : Int) := by omega
      have hyl2 : y < len := by omega
      have hw1 : IntKind.u64.wrap (y : Int) = y := by rw [IntKind.wrap_u64]; omega
      have hw2 : IntKind.u64.wrap ((y : Int) + 1 - 1) = y := by rw [IntKind.wrap_u64]; omega
      have hw3 : IntKind.i64.wrap (Z y) = Z y := by rw [IntKind.wrap_i64]; omega
      clear hx
      have hcv : ∀ W, (convert 28 23 (.int .u64 ((y : Int) + 1))).run Yba.prog W = .ok (.float .f64 (F (y + 1))) W := fun W => conv_Fu (y + 1) W
      have hor := order_F (y + 1) (by omega)
      have hadd0 := fun W => Tm.add_any (Z y) W (by omega) (by omega)
      have heq0 := Tm.equal_any (Z y) (Z y)
      rw [show (Z y == Z y) = true from beq_self_eq_true _] at heq0
      simp only [Tm.tv] at hadd0 heq0
      have hadd := hideP hadd0
      have heq := hideP heq0
      clear hadd0 heq0
      have HR3 := hideP R3
      clear R3
      unfold bc
      generalize hza : Z y % 1000000000 = za at *
      generalize hzb : Z y / 1000000000 = zb at *
      have HZ := hideP (And.intro hza hzb)
      clear hza hzb
      go_wp2_with fail
      go_quiet (fail)
      go_wp2_with fail
      go_region_with (first | (go_at_call 11; refine (hadd.out _).mono ?_; rintro e w5 ⟨rfl, rfl⟩) | (go_at_call 19; refine (heq.out _).mono ?_; rintro e w6 ⟨rfl, rfl⟩))
      all_goals (
        go_wp2_with fail
        go_roundw
        case rel => exact ⟨j + 1, by omega, by go_num, by
          repeat (first | exact HR3.out | apply RS.alloc | apply RS.drewN | apply RS.drew)⟩
        case measure => simp [intOf]; omega)
    · have hjm2 : j = m := by omega
      subst hjm2
      have hrl := R.row.lt
      have hlt2 : decide ((j : Int) < (j : Int)) = false := by simp
      have HR := hideP R
      clear R
      have hb0 := HR.out.below
      have hbs := HR.out.bs
      by_cases hje : len = j
      · have HK := hideP (check_done w.heap.size w.heap.size g gw bcap len j Z w wr hl HR.out hje (some ⟨gw, 0, none⟩) 0)
        clear HR
        subst hje
        go_wp2_with fail
        refine Calls.mono HK.out ?_
        rintro e w3 ⟨rfl, hb3⟩
        have hbF := hb0.trans (hb3.mono hbs)
        clear hb3 hb0 HK
        go_wp2_with fail
        go_ret
        exact ⟨rfl, hbF⟩
      · have HK := hideP (check_rest w.heap.size w.heap.size g gw bcap len j Z w wr hl HR.out _ (len - j) (wants_off HR.out))
        clear HR
        go_wp2_with fail
        refine Calls.mono HK.out ?_
        rintro e w3 ⟨rfl, hb3⟩
        have hbF := hb0.trans (hb3.mono hbs)
        clear hb3 hb0 HK
        go_wp2_with fail
        go_ret
        exact ⟨rfl, hbF⟩

end Go.Proofs.Ybulkcghm.Bk
