import Derived.Test.YbulkcghmWlk
namespace Go.Proofs.Ybulkcghm.Bk
open Go.RowKit Go.Deep
open Go.Proofs.Ybulkcghm.Flt (F)
open Go.Proofs.Ybulkcghm.Avl
open Go.Proofs.Ybulkcghm.Srt
set_option linter.unusedVariables false
set_option linter.unusedSimpArgs false
attribute [local go_sem] run_store_float

theorem hideP {p : Prop} (h : p) : Hid p := h

/-- What is read of the slice 'want': the numbers l. -/
def Wants (w : World) (aw : Option Addr) (l : List Nat) : Prop :=
  ∀ i, i < l.length → ∃ b off, b < w.heap.size ∧ aw = some ⟨b, off, none⟩ ∧ ∀ i, i < l.length → w.cell? ⟨b, off + i, none⟩ = some (.int .u64 (l.getD i 0 : Nat))

theorem conv_Fu (n : Nat) (w : World) : (convert 28 23 (.int .u64 (n : Int))).run Yba.prog w = .ok (.float .f64 (F n)) w := by
  simp [convert, run_underlying Yba.underlying28, run_underlying Yba.underlying23, Conv.intToFloat, F]

set_option maxHeartbeats 2000000 in
set_option maxRecDepth 100000 in
theorem standing_zero (p : Nat) (w : World) (h : w.cell? ⟨p, 1, none⟩ = some (.int .i64 0)) :
    Calls Yba.prog 38 #[.pointer (some ⟨p, 0, none⟩)] w fun e w' => e = .returned (.float .f64 0) ∧ ∃ n, w' = w.drewN n := by
  go_enter Yba.func38, Yba.ntmps38
  go_wp2_with fail
  go_ret
  exact ⟨rfl, 0, rfl⟩

set_option maxHeartbeats 2000000 in
set_option maxRecDepth 100000 in
theorem standing_pos (p g len cap root fr : Nat) (N : Nat → Nd) (w : World) (hT : Tab w g len cap N) (hH : Hdr w p g len cap root fr) (hr : root < len) (hr0 : root ≠ 0) :
    Calls Yba.prog 38 #[.pointer (some ⟨p, 0, none⟩)] w fun e w' => e = .returned (.float .f64 (F (N root).s)) ∧ ∃ n, w' = w.drewN n := by
  have h0 := hH.nodes
  have h1 := cellB hH 1
  simp only [List.getElem?_toArray, List.getElem?_cons_succ, List.getElem?_cons_zero] at h1
  have n0 : ((root : Int) == 0) = false := by simp [hr0]
  have c9 := hT.cell (k := 9) hr (by omega)
  simp only [fld] at c9
  go_enter Yba.func38, Yba.ntmps38
  go_wp2_with fail
  go_quiet (fail)
  go_wp2_with fail
  go_ret
  exact ⟨rfl, _, rfl⟩

/-- The tree that is checked. -/
structure Goal (N : Nat → Nd) (root len : Nat) (l : List Nat) : Prop where
  tree : T N root l
  fine : Fine N len l
  id : ∀ j, j ∈ l → (N j).id = j
  tok : ∀ j, j ∈ l → (N j).tok = j

theorem Goal.ids {N : Nat → Nd} {root len : Nat} {l : List Nat} (h : Goal N root len l) : l.map (fun j => (N j).id) = l := by
  have : l.map (fun j => (N j).id) = l.map (fun j => j) := List.map_congr_left fun j hj => h.id j hj
  rw [this, List.map_id']

theorem Goal.sum {N : Nat → Nd} {root len : Nat} {l : List Nat} (h : Goal N root len l) : (N root).s = l.sum ∧ (N root).c = l.length ∧ l.sum ≤ 2000000 := by
  obtain ⟨a, b, c⟩ := h.tree.count h.fine.z
  have e : l.map (fun j => (N j).tok) = l.map (fun j => j) := List.map_congr_left fun j hj => h.tok j hj
  rw [e, List.map_id'] at c
  obtain ⟨_, _, d⟩ := h.tree.bound h.fine.z h.fine.len h.fine.tok
  exact ⟨c, a, by omega⟩

theorem Goal.height {N : Nat → Nd} {root len : Nat} {l : List Nat} (h : Goal N root len l) : (N root).h ≤ 65 := by
  have := h.tree.avl h.fine.z
  have hl := h.fine.len
  rcases Nat.lt_or_ge (N root).h 66 with h1 | h1
  · omega
  · have : 2 ^ 33 ≤ 2 ^ ((N root).h / 2) := Nat.pow_le_pow_right (by omega) (by omega)
    omega

theorem standing_any (p g len cap root fr : Nat) (N : Nat → Nd) (l : List Nat) (w : World) (hT : Tab w g len cap N) (hH : Hdr w p g len cap root fr) (G : Goal N root len l) :
    Calls Yba.prog 38 #[.pointer (some ⟨p, 0, none⟩)] w fun e w' => e = .returned (.float .f64 (F l.sum)) ∧ ∃ n, w' = w.drewN n := by
  by_cases h : root = 0
  · have h1 := cellB hH 1
    simp only [List.getElem?_toArray, List.getElem?_cons_succ, List.getElem?_cons_zero] at h1
    subst h
    have hl : l = [] := G.tree.of_zero
    refine (standing_zero p w h1).mono ?_
    rintro e w' ⟨rfl, n, rfl⟩
    refine ⟨?_, n, rfl⟩
    rw [hl]; simp [Flt.F_zero]
  · rw [← G.sum.1]
    exact standing_pos p g len cap root fr N w hT hH (T.lt G.tree G.fine) h

theorem sum_take_succ (l : List Nat) (k : Nat) (h : k < l.length) : (l.take (k + 1)).sum = (l.take k).sum + l.getD k 0 := by
  rw [List.take_succ_eq_append_getElem h, List.sum_append, List.getD_eq_getElem?_getD, List.getElem?_eq_getElem h]; simp

theorem sum_take_le (l : List Nat) (k : Nat) : (l.take k).sum ≤ l.sum := by
  conv => rhs; rw [← List.take_append_drop k l, List.sum_append]
  omega

/-- A row's cell, read off 'ownsRow'. -/
theorem out_at {w : World} {q base ac : Nat} {ao : Option Addr} {xs : List Nat} (h : Out w q base ao ac xs) {i : Nat} (hi : i < xs.length) : ∃ b, ao = some ⟨b, 0, none⟩ ∧ base ≤ b ∧ w.cell? ⟨b, i, none⟩ = some (.int .u64 (xs.getD i 0 : Nat)) := by
  rcases h.own.2 with ⟨_, h0⟩ | ⟨g, cap, cur, hv, hb, hh, _, _, _, ht⟩
  · omega
  · simp only [Value.slice.injEq] at hv
    refine ⟨g, hv.1, hb, ?_⟩
    have e : cur[i]? = (cur.toList.take (xs.length * 1))[i]? := by rw [List.getElem?_take_of_lt (by omega)]; simp
    simp only [World.cell?, hh]
    simp only [Option.isSome_none, Bool.false_eq_true, if_false]
    rw [e, ht, List.getElem?_map, List.getD_eq_getElem?_getD, List.getElem?_eq_getElem hi]
    rfl

/-- What the check sees behind the walk. -/
structure Seen (w w1 : World) (p q base : Nat) (ao : Option Addr) (ac : Nat) (l : List Nat) : Prop where
  out : Out w1 q base ao ac l
  below : Below w.heap.size w w1
  base : w.heap.size ≤ base

set_option maxHeartbeats 4000000 in
set_option maxRecDepth 100000 in
theorem check_pos (p g len cap root fr cw : Nat) (aw : Option Addr) (N : Nat → Nd) (l : List Nat) (w : World) (hT : Tab w g len cap N) (hH : Hdr w p g len cap root fr) (hlen : len ≤ 2000) (G : Goal N root len l) (hW : Wants w aw l) :
    Calls Yba.prog 16 #[.pointer (some ⟨p, 0, none⟩), .slice aw l.length cw] w fun e w' => e = .returned (.bool true) ∧ Below w.heap.size w w' := by
  have hgl := hT.lt
  have hpl := hH.lt
  have hqg : g ≠ w.heap.size := by omega
  have hqp : p ≠ w.heap.size := by omega
  have h1 := cellB hH 1
  simp only [List.getElem?_toArray, List.getElem?_cons_succ, List.getElem?_cons_zero] at h1
  have O0 : Out (w.alloc (.cells #[.slice none 0 0] 48)) w.heap.size (w.heap.size + 1) none 0 [] := ⟨blk_alloc_new _ _, World.ownsRow_nil _ _ _ _⟩
  have F0 : Fr (w.heap.size + 1) w.heap.size w (w.alloc (.cells #[.slice none 0 0] 48)) := (Fr.refl _ _ w).alloc _
  have hwk := walk_any p g len cap root fr w.heap.size (w.heap.size + 1) N hlen hqg hqp G.tree G.fine (w.alloc (.cells #[.slice none 0 0] 48)) none 0 [] 0 (hT.fr F0 hqg) (hH.fr F0 hqp) O0 (by rw [nblk_alloc]; omega) (by omega) (by have := G.height; omega) (by have := G.fine.len; simp; omega)
  rw [G.ids, List.nil_append] at hwk
  have HWK := hideP hwk
  clear hwk
  obtain ⟨s1, s2, s3⟩ := G.sum
  have hll := G.fine.len
  go_enter Yba.func16, Yba.ntmps16
  go_wp2_with fail
  refine HWK.out.mono ?_
  rintro e w1 ⟨ao, ac, rfl, O1, F1⟩
  clear HWK O0
  have F01 := F0.trans F1
  have hB : Below w.heap.size w w1 := F01.below (Below.refl _ _) (by omega) (Nat.le_refl _) (Nat.le_refl _)
  have T1 := hT.fr F01 hqg
  have H1 := hH.fr F01 hqp
  rw [s1, s2]
  clear F0 F1 hT hH
  have o1 := cellB O1.cell 0
  simp only [List.getElem?_toArray, List.getElem?_cons_zero] at o1
  have HG : Hid (Goal N root len l) := G
  have HW : Hid (Wants w aw l) := hW
  clear G hW
  go_wp2_with fail
  go_loopw [10, 11] (fun tv jv wr => ∃ k : Nat, k ≤ l.length ∧ jv = .int .i64 k ∧ tv = .float .f64 (F (l.take k).sum) ∧ ∃ nd, wr = w1.drewN nd) (fun _ jv _ => l.length - (intOf jv).toNat)
  case atStart => exact ⟨0, Nat.zero_le _, rfl, by simp [Flt.F_zero], 0, rfl⟩
  case round =>
    obtain ⟨k, hk, rfl, rfl, nd, rfl⟩ := hrel
    by_cases hlt : k < l.length
    · obtain ⟨b, off, hb, rfl, hcell⟩ := HW.out k hlt
      obtain ⟨b2, rfl, hb2, hg2⟩ := out_at O1 hlt
      have hx := (hB.cell (p := ⟨b, off + k, none⟩) hb).trans (hcell k hlt)
      have hcv := conv_Fu (l.getD k 0)
      have hst := sum_take_succ l k hlt
      have hle := sum_take_le l (k + 1)
      have had := run_F_add (l.take k).sum (l.getD k 0) (by omega) (by omega)
      rw [← hst] at had
      clear hcell HW O1 HG T1 H1 F01 hst hle h1
      obtain ⟨sk1, hsk1⟩ : ∃ s, s = (l.take (k + 1)).sum := ⟨_, rfl⟩
      rw [← hsk1] at had
      have HSK := hideP hsk1
      clear hsk1
      generalize (l.take k).sum = sk at *
      generalize l.getD k 0 = x at *
      go_wp2_with fail
      go_quiet (fail)
      go_wp2_with fail
      go_roundw
      case rel => exact ⟨k + 1, by omega, by go_num, by rw [HSK.out], _, rfl⟩
      case measure => simp [intOf]; omega
    · have hkl : k = l.length := by omega
      subst hkl
      rw [List.take_length]
      have hor := order_F l.sum (by omega)
      have hsd := hideP (standing_any p g len cap root fr N l (w1.drewN nd) (T1.drewN nd) H1 HG.out)
      clear T1 H1 HG F01 h1 O1 o1 HW
      go_wp2_with fail
      refine Calls.mono hsd.out ?_
      rintro e w2 ⟨rfl, n2, rfl⟩
      go_wp2_with fail
      go_ret
      exact ⟨rfl, below_drewN hB _⟩

set_option maxHeartbeats 4000000 in
set_option maxRecDepth 100000 in
/-- .. where nothing was ever inserted. -/
theorem check_nil (p cw : Nat) (aw : Option Addr) (w : World) (hH : w.heap[p]? = some (.cells #[.slice none 0 0, .int .i64 (0 : Nat), .int .i64 (0 : Nat), .float .f64 0] 88 (0, 0))) :
    Calls Yba.prog 16 #[.pointer (some ⟨p, 0, none⟩), .slice aw 0 cw] w fun e w' => e = .returned (.bool true) ∧ Below w.heap.size w w' := by
  have h1 := cellB hH 1
  have hpl : p < w.heap.size := (Array.getElem?_eq_some_iff.1 hH).1
  simp only [List.getElem?_toArray, List.getElem?_cons_succ, List.getElem?_cons_zero] at h1
  have hor : FloatKind.f64.format.order 0 0 = some .eq := by decide +kernel
  have h1' : (w.alloc (.cells #[.slice none 0 0] 48)).cell? ⟨p, 1, none⟩ = some (.int .i64 0) := by
    rw [World.cell?_of_block (blk_alloc_lt _ _ _ hpl)]; exact h1
  go_enter Yba.func16, Yba.ntmps16
  go_wp2_with fail
  refine (walk_zero p w.heap.size 0 _).mono ?_
  rintro e w1 ⟨rfl, rfl⟩
  go_wp2_with fail
  refine wp_loop_rounds 1 ?_
  rw [rounds_succ]
  go_wp2_with fail
  refine (standing_zero p _ h1').mono ?_
  rintro e w2 ⟨rfl, n2, rfl⟩
  go_wp2_with fail
  go_ret
  exact ⟨rfl, below_drewN ((Below.refl _ _).alloc (Nat.le_refl _) _) _⟩

end Go.Proofs.Ybulkcghm.Bk
