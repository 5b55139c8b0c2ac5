import Derived.Test.YbulkcghmAvail
namespace Go.Proofs.Ybulkcghm.Lm
open Go.RowKit Go.Deep Go.Proofs.Ybulkcghm.Tm Go.Proofs.Ybulkcghm.Mu
set_option linter.unusedVariables false

/-- What tokensAt tells. -/
def TokR (r : Nat) (n : Int) (T : Nat) (z l t t' : Int) (A : Nat) : Prop := ∀ (L : Nat) (mu : Int) (T2 : Nat) (z2 : Int) (w : World), Lim w L mu r n T z l T2 z2 →
  Calls Yba.prog 33 #[.pointer (some ⟨L, 0, none⟩), tv t] w fun e w' => e = .returned (.tuple #[tv t', .float .f64 A]) ∧ Below w.heap.size w w'

/-- Three cells stored. -/
def set3 (w : World) (B : Nat) (x y z : Value) : World := ((w.setCell ⟨B, 0, none⟩ x).setCell ⟨B, 1, none⟩ y).setCell ⟨B, 2, none⟩ z

theorem set3_blk {w : World} {B : Nat} {a b c : Value} {t : TypeId} (h : w.heap[B]? = some (.cells #[a, b, c] t)) (x y z : Value) : (set3 w B x y z).heap[B]? = some (.cells #[x, y, z] t) := blk_set (blk_set (blk_set h _ _) _ _) _ _
theorem set3_other {w : World} {B L : Nat} (hne : L ≠ B) (x y z : Value) : (set3 w B x y z).heap[L]? = w.heap[L]? := ((blk_other hne _ _).trans (blk_other hne _ _)).trans (blk_other hne _ _)
theorem set3_only {L : Nat} {v w : World} {B : Nat} (h : OnlyL L v w) (hn : v.heap.size ≤ B) (x y z : Value) : OnlyL L v (set3 w B x y z) :=
  ⟨h.os, h.tape, h.output, by simpa [set3, World.setCell] using h.size, fun k hk hL => (set3_other (by omega) x y z).trans (h.block k hk hL)⟩

set_option maxHeartbeats 8000000 in
set_option maxRecDepth 100000 in
theorem avail_low {L : Nat} {r : Nat} {n : Int} {T : Nat} {z l : Int} {T2 : Nat} {z2 : Int} (t t' k : Int) (A : Nat) (w : World) (hk : 0 < k) (h : Lim w L 0 r n T z l T2 z2)
    (hr : (FloatKind.f64.format.order r 9218868437227405311 == some .gt || FloatKind.f64.format.order r 9218868437227405311 == some .eq) = false)
    (hA : (FloatKind.f64.format.order A 4607182418800017408 == some .lt) = true) (HT : TokR r n T z l t t' A) :
    Calls Yba.prog 12 #[.pointer (some ⟨L, 0, none⟩), tv t, .int .i64 k] w fun e w' => e = .returned (.int .i64 0) ∧ Lim w' L 0 r n T z l T2 z2 ∧ OnlyL L w w' := by
  have t1 : decide (k ≤ 0) = false := by simp [hk]
  have hL := blk_lt h
  have HI := hideP h
  have h1 := fun o => (Lim.c1 (blk_alloc h o))
  have f1 := fun o => (blk_free (blk_alloc h o) 1)
  have c3 := h.c3
  have HK := hideP (HT L 1 T2 z2)
  clear h HT
  simp only [tv] at HK ⊢
  obtain ⟨ta, hta⟩ : ∃ x, t % 1000000000 = x := ⟨_, rfl⟩
  obtain ⟨tb, htb⟩ : ∃ x, t / 1000000000 = x := ⟨_, rfl⟩
  obtain ⟨ua, hua⟩ : ∃ x, t' % 1000000000 = x := ⟨_, rfl⟩
  obtain ⟨ub, hub⟩ : ∃ x, t' / 1000000000 = x := ⟨_, rfl⟩
  simp only [hta, htb, hua, hub] at HK ⊢
  clear hta htb hua hub
  go_enter_defers Yba.func12, Yba.ntmps12
  go_wp2_with (go_at_call 31; refine (lock_free ⟨L, 1, none⟩ _ (h1 _) (f1 _)).mono ?_; rintro e w' ⟨rfl, rfl⟩)
  refine (HK.out _ (blk_alloc (Lim.lock (mu' := 1) HI.out) _)).mono ?_
  rintro e w1 ⟨rfl, hB⟩
  have b0 := blk_below (blk_new (w.setCell ⟨L, 1, none⟩ (.int .i32 1)) (.cells #[.int .u64 ta, .int .i64 tb, .pointer none] 31)) hB (by simp)
  have hsz : (w.setCell ⟨L, 1, none⟩ (.int .i32 1)).heap.size = w.heap.size := by simp
  rw [hsz] at b0
  have k0 : w1.cell? ⟨w.heap.size, 0, none⟩ = some (.int .u64 ta) := blk_cell b0 rfl
  have k1 : w1.cell? ⟨w.heap.size, 1, none⟩ = some (.int .i64 tb) := blk_cell b0 rfl
  have k2 : w1.cell? ⟨w.heap.size, 2, none⟩ = some (.pointer none) := blk_cell b0 rfl
  have g0 := fun k => blk_free b0 k
  have l1 := hideP (Lim.below (blk_alloc (Lim.lock (mu' := 1) HI.out) _) hB)
  have O1 := hideP (((((OnlyL.refl L w).set 1 (.int .i32 1)).alloc (.cells #[.int .u64 ta, .int .i64 tb, .pointer none] 31))).below hB)
  clear b0 hB h1 f1 c3 hsz
  go_wp2_with fail
  change bodyPostD _ _ _ _ _ (set3 w1 w.heap.size (.int .u64 ua) (.int .i64 ub) (.pointer none))
  have l2 : Lim (set3 w1 w.heap.size (.int .u64 ua) (.int .i64 ub) (.pointer none)) L 1 r n T z l T2 z2 := (set3_other (by omega) _ _ _).trans l1.out
  have O2 := set3_only O1.out (Nat.le_refl _) (.int .u64 ua) (.int .i64 ub) (.pointer none)
  refine leaves_cons (f := 32) (args := #[.pointer (some ⟨L, 1, none⟩)]) (by simp) (by simp [go_sem]) ?_
  refine (unlock_deferred ⟨L, 1, none⟩ .returning _ l2.c1 (blk_free l2 1)).mono ?_
  rintro e u' w'' ⟨rfl, rfl, rfl⟩
  exact ⟨_, results_tmp rfl _ _ _, rfl, l2.lock 0, O2.set _ _⟩

set_option maxHeartbeats 8000000 in
set_option maxRecDepth 100000 in
/-- Tokens are taken: m of them. -/
theorem avail_take {L : Nat} {r : Nat} {n : Int} {T : Nat} {z l : Int} (t t' k m : Int) (A fb N T' : Nat) (z' : Int) (w : World) (hk : 0 < k) (h : Lim w L 0 r n T z l T z)
    (hr : (FloatKind.f64.format.order r 9218868437227405311 == some .gt || FloatKind.f64.format.order r 9218868437227405311 == some .eq) = false)
    (hA : (FloatKind.f64.format.order A 4607182418800017408 == some .lt) = false) (HT : TokR r n T z l t t' A)
    (hm : ((FloatKind.f64.format.order A (floatOfInt .f64 k) == some .lt) = true ∧ floatToIntVal .f64 A .i64 = some m) ∨ ((FloatKind.f64.format.order A (floatOfInt .f64 k) == some .lt) = false ∧ k = m))
    (hfb : floatOfInt .f64 n = fb) (hN : floatOfInt .f64 m = N) (hT : TakeR T z t' A fb N T' z') (HA : Ret 50 (atArgs T z t' r n) (.float .f64 A)) :
    Calls Yba.prog 12 #[.pointer (some ⟨L, 0, none⟩), tv t, .int .i64 k] w fun e w' => e = .returned (.int .i64 m) ∧ Lim w' L 0 r n T' z' t' T' z' ∧ OnlyL L w w' := by
  have t1 : decide (k ≤ 0) = false := by simp [hk]
  have hL := blk_lt h
  have HI := hideP h
  have h1 := fun o => (Lim.c1 (blk_alloc h o))
  have f1 := fun o => (blk_free (blk_alloc h o) 1)
  have c3 := h.c3
  have HK := hideP (HT L 1 T z)
  have HTk := hideP (take_any (L := L) (mu := 1) (l := l) (T2 := T) (z2 := z) hfb hN hT HA)
  have HUs := hideP (use_any (L := L) (mu := 1) (T := T') (z := z') (l := t') hfb hT HA)
  clear h HT hT HA hfb
  simp only [tv] at HK HTk HUs ⊢
  obtain ⟨ta, hta⟩ : ∃ x, t % 1000000000 = x := ⟨_, rfl⟩
  obtain ⟨tb, htb⟩ : ∃ x, t / 1000000000 = x := ⟨_, rfl⟩
  obtain ⟨ua, hua⟩ : ∃ x, t' % 1000000000 = x := ⟨_, rfl⟩
  obtain ⟨ub, hub⟩ : ∃ x, t' / 1000000000 = x := ⟨_, rfl⟩
  simp only [hta, htb, hua, hub] at HK HTk HUs ⊢
  clear hta htb hua hub
  have hcv : ∀ W, floatToIntVal .f64 A .i64 = some m → (convert 23 3 (.float .f64 A)).run Yba.prog W = .ok (.int .i64 m) W := fun W h => run_convert_float_int W 23 3 .f64 .i64 A m (by kernel_rfl) (by kernel_rfl) h
  have hm' : Hid (((FloatKind.f64.format.order A (floatOfInt .f64 k) == some .lt) = true ∧ floatToIntVal .f64 A .i64 = some m) ∨ ((FloatKind.f64.format.order A (floatOfInt .f64 k) == some .lt) = false ∧ k = m)) := hm
  clear hm
  have hcv' := hideP hcv
  clear hcv
  go_enter_defers Yba.func12, Yba.ntmps12
  go_wp2_with (go_at_call 31; refine (lock_free ⟨L, 1, none⟩ _ (h1 _) (f1 _)).mono ?_; rintro e w' ⟨rfl, rfl⟩)
  refine (HK.out _ (blk_alloc (Lim.lock (mu' := 1) HI.out) _)).mono ?_
  rintro e w1 ⟨rfl, hB⟩
  have b0 := blk_below (blk_new (w.setCell ⟨L, 1, none⟩ (.int .i32 1)) (.cells #[.int .u64 ta, .int .i64 tb, .pointer none] 31)) hB (by simp)
  have hsz : (w.setCell ⟨L, 1, none⟩ (.int .i32 1)).heap.size = w.heap.size := by simp
  rw [hsz] at b0
  have k0 : w1.cell? ⟨w.heap.size, 0, none⟩ = some (.int .u64 ta) := blk_cell b0 rfl
  have k1 : w1.cell? ⟨w.heap.size, 1, none⟩ = some (.int .i64 tb) := blk_cell b0 rfl
  have k2 : w1.cell? ⟨w.heap.size, 2, none⟩ = some (.pointer none) := blk_cell b0 rfl
  have g0 := fun k => blk_free b0 k
  have l2 := hideP (show Lim (set3 w1 w.heap.size (.int .u64 ua) (.int .i64 ub) (.pointer none)) L 1 r n T z l T z from (set3_other (by omega) _ _ _).trans (Lim.below (blk_alloc (Lim.lock (mu' := 1) HI.out) _) hB))
  have O2 := hideP (set3_only (((((OnlyL.refl L w).set 1 (.int .i32 1)).alloc (.cells #[.int .u64 ta, .int .i64 tb, .pointer none] 31))).below hB) (Nat.le_refl _) (.int .u64 ua) (.int .i64 ub) (.pointer none))
  have b2 := hideP (set3_blk b0 (.int .u64 ua) (.int .i64 ub) (.pointer none))
  clear b0 hB h1 f1 c3 hsz
  go_upto_region 10 with (fail)
  change Code.wp _ _ _ _ (set3 w1 w.heap.size (.int .u64 ua) (.int .i64 ub) (.pointer none))
  generalize set3 w1 w.heap.size (.int .u64 ua) (.int .i64 ub) (.pointer none) = W at *
  clear k0 k1 k2 g0 w1 HK HI
  have b3 := b2.out
  have k0 : W.cell? ⟨w.heap.size, 0, none⟩ = some (.int .u64 ua) := blk_cell b3 rfl
  have k1 : W.cell? ⟨w.heap.size, 1, none⟩ = some (.int .i64 ub) := blk_cell b3 rfl
  have k2 : W.cell? ⟨w.heap.size, 2, none⟩ = some (.pointer none) := blk_cell b3 rfl
  clear b3
  have key : Hid (∀ w2, OnlyL L W w2 → w2.cell? ⟨w.heap.size, 0, none⟩ = some (.int .u64 ua) ∧ w2.cell? ⟨w.heap.size, 1, none⟩ = some (.int .i64 ub) ∧ w2.cell? ⟨w.heap.size, 2, none⟩ = some (.pointer none)) := fun w2 hO => by
    have b := (hO.block w.heap.size (blk_lt b2.out) (by omega)).trans b2.out
    exact ⟨blk_cell b rfl, blk_cell b rfl, blk_cell b rfl⟩
  rcases hm'.out with ⟨hlt, hfi⟩ | ⟨hlt, hkm⟩
  · have hcv := fun W => hcv'.out W hfi
    clear hfi hm' hcv'
    go_wp2_with fail
    refine (HTk.out _ l2.out).mono ?_
    rintro e w2 ⟨rfl, l3, O3⟩
    obtain ⟨q0, q1, q2⟩ := key.out _ O3
    have l3' := hideP l3
    have O3' := hideP (O2.out.trans O3)
    clear l3 O3 k0 k1 k2 key b2 HTk
    go_wp2_with fail
    refine (HUs.out _ l3'.out).mono ?_
    rintro e w3 ⟨rfl, l4, O4⟩
    have l4' := hideP l4
    have O4' := hideP (O3'.out.trans O4)
    clear l4 O4 q0 q1 q2 HUs
    go_wp2_with fail
    refine leaves_cons (f := 32) (args := #[.pointer (some ⟨L, 1, none⟩)]) (by simp) (by simp [go_sem]) ?_
    refine (unlock_deferred ⟨L, 1, none⟩ .returning _ l4'.out.c1 (blk_free l4'.out 1)).mono ?_
    rintro e u' w'' ⟨rfl, rfl, rfl⟩
    exact ⟨_, results_tmp rfl _ _ _, rfl, Lim.lock l4'.out 0, O4'.out.set _ _⟩
  · subst hkm
    rw [hN] at hlt
    clear hm' hcv'
    go_wp2_with fail
    refine (HTk.out _ l2.out).mono ?_
    rintro e w2 ⟨rfl, l3, O3⟩
    obtain ⟨q0, q1, q2⟩ := key.out _ O3
    have l3' := hideP l3
    have O3' := hideP (O2.out.trans O3)
    clear l3 O3 k0 k1 k2 key b2 HTk
    go_wp2_with fail
    refine (HUs.out _ l3'.out).mono ?_
    rintro e w3 ⟨rfl, l4, O4⟩
    have l4' := hideP l4
    have O4' := hideP (O3'.out.trans O4)
    clear l4 O4 q0 q1 q2 HUs
    go_wp2_with fail
    refine leaves_cons (f := 32) (args := #[.pointer (some ⟨L, 1, none⟩)]) (by simp) (by simp [go_sem]) ?_
    refine (unlock_deferred ⟨L, 1, none⟩ .returning _ l4'.out.c1 (blk_free l4'.out 1)).mono ?_
    rintro e u' w'' ⟨rfl, rfl, rfl⟩
    exact ⟨_, results_tmp rfl _ _ _, rfl, Lim.lock l4'.out 0, O4'.out.set _ _⟩

end Go.Proofs.Ybulkcghm.Lm
