import Derived.Test.YbulkcghmLim
namespace Go.Proofs.Ybulkcghm.Lm
open Go.RowKit Go.Deep Go.Proofs.Ybulkcghm.Tm
set_option linter.unusedVariables false

/-- Three cells stored one behind the other. -/
def st3 (w : World) (B o : Nat) (x y z : Value) : World := ((w.setCell ⟨B, o, none⟩ x).setCell ⟨B, o + 1, none⟩ y).setCell ⟨B, o + 2, none⟩ z

theorem st3_blk {w : World} {B o : Nat} {c : Array Value} {t : TypeId} (h : w.heap[B]? = some (.cells c t)) (x y z : Value) : (st3 w B o x y z).heap[B]? = some (.cells (((c.setIfInBounds o x).setIfInBounds (o + 1) y).setIfInBounds (o + 2) z) t) := blk_set (blk_set (blk_set h _ _) _ _) _ _
theorem st3_other {w : World} {B o L : Nat} (hne : L ≠ B) (x y z : Value) : (st3 w B o x y z).heap[L]? = w.heap[L]? := ((blk_other hne _ _).trans (blk_other hne _ _)).trans (blk_other hne _ _)
theorem st3_below {n : Nat} {v w : World} {B o : Nat} (h : Below n v w) (hn : n ≤ B) (x y z : Value) : Below n v (st3 w B o x y z) := ((h.setCell hn _).setCell hn _).setCell hn _

theorem blk_drew {w : World} {L : Nat} {o : Obj} (h : w.heap[L]? = some o) : w.drew.heap[L]? = some o := h

theorem t0 {w : World} {B : Nat} {x y z : Value} {t : TypeId} (h : w.heap[B]? = some (.cells #[x, y, z] t)) : w.cell? ⟨B, 0, none⟩ = some x := blk_cell h rfl
theorem t1 {w : World} {B : Nat} {x y z : Value} {t : TypeId} (h : w.heap[B]? = some (.cells #[x, y, z] t)) : w.cell? ⟨B, 1, none⟩ = some y := blk_cell h rfl
theorem t2 {w : World} {B : Nat} {x y z : Value} {t : TypeId} (h : w.heap[B]? = some (.cells #[x, y, z] t)) : w.cell? ⟨B, 2, none⟩ = some z := blk_cell h rfl

theorem hideP' {p : Prop} (h : p) : Hid p := h

attribute [local go_sem] run_store_float in
set_option maxHeartbeats 8000000 in
set_option maxRecDepth 100000 in
theorem tokensAt_any (L : Nat) (mu : Int) (r : Nat) (n : Int) (T : Nat) (z l : Int) (T2 : Nat) (z2 t t' : Int) (A : Nat) (w : World) (h : Lim w L mu r n T z l T2 z2) (ht : (if t < l then l else t) = t')
    (HA : Hid (Ret 50 #[.agg #[.float .f64 T, .float .f64 0, .int .u64 (z % 1000000000), .int .i64 (z / 1000000000), .pointer none], .agg #[.int .u64 (t' % 1000000000), .int .i64 (t' / 1000000000), .pointer none], .float .f64 r, .int .i64 n] (.float .f64 A))) :
    Calls Yba.prog 33 #[.pointer (some ⟨L, 0, none⟩), tv t] w fun e w' => e = .returned (.tuple #[tv t', .float .f64 A]) ∧ Below w.heap.size w w' := by
  have hL := blk_lt h
  have HC : Hid (∀ w, Lim w L mu r n T z l T2 z2 → _) := fun w => counted_any L mu r n T z l T2 z2 t w
  have HS : Hid (∀ w, Lim w L mu r n T z l T2 z2 → _) := fun w => settled_any L mu r n T z l T2 z2 t' w
  have HI : Hid (Lim w L mu r n T z l T2 z2) := h
  rw [ht] at HC
  simp only [tv] at HC HS ⊢
  clear h ht
  obtain ⟨ta, hta⟩ : ∃ x, t % 1000000000 = x := ⟨_, rfl⟩
  obtain ⟨tb, htb⟩ : ∃ x, t / 1000000000 = x := ⟨_, rfl⟩
  obtain ⟨ua, hua⟩ : ∃ x, t' % 1000000000 = x := ⟨_, rfl⟩
  obtain ⟨ub, hub⟩ : ∃ x, t' / 1000000000 = x := ⟨_, rfl⟩
  simp only [hta, htb, hua, hub] at HC HS HA ⊢
  clear hta htb hua hub
  go_enter Yba.func33, Yba.ntmps33
  go_upto_region 1 with (fail)
  go_cut [3] (fun s3 wx => s3 = .pointer (some ⟨w.heap.size, 0, none⟩) ∧ wx.heap[w.heap.size]? = some (.cells #[.int .u64 ua, .int .i64 ub, .pointer none] 31) ∧ wx.heap[w.heap.size + 1]? = some (.cells #[.int .u64 0, .int .i64 0, .pointer none] 31) ∧ Lim wx L mu r n T z l T2 z2 ∧ Below w.heap.size w wx)
  case first =>
    go_wp2_with fail
    refine (HC.out _ (blk_alloc (blk_alloc HI.out _) _)).mono ?_
    rintro e w1 ⟨rfl, hB⟩
    have b0 := blk_below (blk_alloc (blk_new w _) _) hB (by simp; omega)
    have b1 := blk_below (blk_new (w.alloc (.cells #[.int .u64 ta, .int .i64 tb, .pointer none] 31)) (.cells #[.int .u64 0, .int .i64 0, .pointer none] 31)) hB (by simp)
    have l1 := Lim.below (blk_alloc (blk_alloc HI.out _) _) hB
    have k0 := t0 b0
    have k1 := t1 b0
    have k2 := t2 b0
    have f0 := blk_free b0 0
    have f1 := blk_free b0 1
    have f2 := blk_free b0 2
    have B0 := bt (al (al (Below.refl _ w) _) _) hB
    have R : Hid ((st3 w1 w.heap.size 0 (.int .u64 ua) (.int .i64 ub) (.pointer none)).heap[w.heap.size]? = some (.cells #[.int .u64 ua, .int .i64 ub, .pointer none] 31) ∧ (st3 w1 w.heap.size 0 (.int .u64 ua) (.int .i64 ub) (.pointer none)).heap[w.heap.size + 1]? = some (.cells #[.int .u64 0, .int .i64 0, .pointer none] 31) ∧ Lim (st3 w1 w.heap.size 0 (.int .u64 ua) (.int .i64 ub) (.pointer none)) L mu r n T z l T2 z2 ∧ Below w.heap.size w (st3 w1 w.heap.size 0 (.int .u64 ua) (.int .i64 ub) (.pointer none))) :=
      ⟨st3_blk b0 _ _ _, (st3_other (by omega) _ _ _).trans (by simpa using b1), (st3_other (by omega) _ _ _).trans l1, st3_below B0 (Nat.le_refl _) _ _ _⟩
    clear b0 b1 l1 B0 hB
    go_wp2_with fail
    go_meet
    exact ⟨rfl, R.out⟩
  case rest =>
    obtain ⟨rfl, b0, b1, l1, B1⟩ := hcut
    have hw : w.heap.size + 1 < wc.heap.size := blk_lt b1
    have hLw : L < wc.heap.size := blk_lt l1
    have k0 := t0 b0
    have k1 := t1 b0
    have k2 := t2 b0
    have HS' := hideP' (HS.out _ l1)
    have X : Hid (wc.heap[w.heap.size]? = some (.cells #[.int .u64 ua, .int .i64 ub, .pointer none] 31) ∧ wc.heap[w.heap.size + 1]? = some (.cells #[.int .u64 0, .int .i64 0, .pointer none] 31) ∧ Lim wc L mu r n T z l T2 z2 ∧ Below w.heap.size w wc) := ⟨b0, b1, l1, B1⟩
    clear b0 b1 l1 B1 HS HC
    go_wp2_with fail
    refine Calls.mono HS'.out ?_
    rintro e w2 ⟨rfl, hB2⟩
    obtain ⟨b0', b1', l1', B1'⟩ := X.out
    have B2 := bt B1' hB2
    have b0 := blk_below b0' hB2 (by omega)
    have b1 := blk_below b1' hB2 (by omega)
    have l2 := l1'.below hB2
    clear X HS' k0 k1 k2 b0' b1' l1' B1' hw hLw hB2
    have hw : w.heap.size + 1 < w2.heap.size := blk_lt b1
    have hw' : w.heap.size < w2.heap.size := by omega
    have hLw : L < w2.heap.size := blk_lt l2
    have k0 := t0 b0
    have k1 := t1 b0
    have k2 := t2 b0
    have c3 := l2.c3
    have c4 := l2.c4
    have X : Hid (w2.heap[w.heap.size]? = some (.cells #[.int .u64 ua, .int .i64 ub, .pointer none] 31) ∧ w2.heap[w.heap.size + 1]? = some (.cells #[.int .u64 0, .int .i64 0, .pointer none] 31) ∧ Below w.heap.size w w2) := ⟨b0, b1, B2⟩
    clear b0 b1 l2 B2
    clear wc
    generalize z % 1000000000 = za at *
    generalize z / 1000000000 = zb at *
    go_wp2_with fail
    go_region_with (go_at_call 50; refine (HA.out _).mono ?_; rintro e w3 ⟨rfl, hB⟩; obtain ⟨d0, d1, B2⟩ := X.out; have e0 := blk_below (blk_drew (blk_alloc d0 _)) hB (by simp; omega); have e1 := blk_below (blk_drew (blk_alloc d1 _)) hB (by simp; omega); have B3 := bt (al B2 _).drew hB; clear d0 d1 B2 hB; have g0 := t0 e0; have g1 := t1 e0; have g2 := t2 e0; have q0 := t0 e1; have q1 := t1 e1; have q2 := t2 e1; have p0 := blk_free e1 0; have p1 := blk_free e1 1; have p2 := blk_free e1 2; clear e0 e1 k0 k1 k2)
    all_goals
      go_wp2_with fail
      exact bodyPost_ret (v := .tuple #[.agg #[.int .u64 ua, .int .i64 ub, .pointer none], .float .f64 A]) (by simp [results, Yba.results33, go_sem, *]) rfl ⟨rfl, st3_below (o := 0) B3 (by omega) (.int .u64 ua) (.int .i64 ub) (.pointer none)⟩

end Go.Proofs.Ybulkcghm.Lm
