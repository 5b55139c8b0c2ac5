import Derived.Test.YbulkcghmUse
namespace Go.Proofs.Ybulkcghm.Lm
open Go.RowKit Go.Deep Go.Proofs.Ybulkcghm.Tm Go.Proofs.Ybulkcghm.Mu
set_option linter.unusedVariables false

theorem arr1 (mu mu' : Int) (r : Nat) (n : Int) (T : Nat) (z l : Int) (T2 : Nat) (z2 : Int) : (lc mu r n T z l T2 z2).setIfInBounds 1 (.int .i32 mu') = lc mu' r n T z l T2 z2 := by
  unfold lc; simp

theorem Lim.lock {w : World} {L : Nat} {mu : Int} {r : Nat} {n : Int} {T : Nat} {z l : Int} {T2 : Nat} {z2 : Int} (h : Lim w L mu r n T z l T2 z2) (mu' : Int) : Lim (w.setCell ⟨L, 1, none⟩ (.int .i32 mu')) L mu' r n T z l T2 z2 := by
  have := blk_set h 1 (.int .i32 mu')
  rw [arr1] at this
  exact this

set_option maxHeartbeats 8000000 in
set_option maxRecDepth 100000 in
theorem avail_none (L : Nat) (t k : Int) (w : World) (hk : k ≤ 0) :
    Calls Yba.prog 12 #[.pointer (some ⟨L, 0, none⟩), tv t, .int .i64 k] w fun e w' => e = .returned (.int .i64 0) ∧ Below w.heap.size w w' := by
  have t1 : decide (k ≤ 0) = true := by simp [hk]
  simp only [tv]
  generalize t % 1000000000 = ta at *
  generalize t / 1000000000 = tb at *
  go_enter_defers Yba.func12, Yba.ntmps12
  go_wp2_with fail
  exact ⟨_, results_tmp rfl _ _ _, rfl, al (Below.refl _ w) _⟩

set_option maxHeartbeats 8000000 in
set_option maxRecDepth 100000 in
theorem avail_inf {L : Nat} {r : Nat} {n : Int} {T : Nat} {z l : Int} {T2 : Nat} {z2 : Int} (t k : Int) (w : World) (hk : 0 < k) (h : Lim w L 0 r n T z l T2 z2)
    (hr : (FloatKind.f64.format.order r 9218868437227405311 == some .gt || FloatKind.f64.format.order r 9218868437227405311 == some .eq) = true) :
    Calls Yba.prog 12 #[.pointer (some ⟨L, 0, none⟩), tv t, .int .i64 k] w fun e w' => e = .returned (.int .i64 k) ∧ Lim w' L 0 r n T z l T2 z2 ∧ OnlyL L w w' := by
  have t1 : decide (k ≤ 0) = false := by simp [hk]
  have hL := blk_lt h
  have HI := hideP h
  have h1 := fun o => (Lim.c1 (blk_alloc h o))
  have f1 := fun o => (blk_free (blk_alloc h o) 1)
  have c3 := h.c3
  clear h
  simp only [tv]
  generalize t % 1000000000 = ta at *
  generalize t / 1000000000 = tb at *
  go_enter_defers Yba.func12, Yba.ntmps12
  go_wp2_with (go_at_call 31; refine (lock_free ⟨L, 1, none⟩ _ (h1 _) (f1 _)).mono ?_; rintro e w' ⟨rfl, rfl⟩)
  refine leaves_cons (f := 32) (args := #[.pointer (some ⟨L, 1, none⟩)]) (by simp) (by simp [go_sem]) ?_
  refine (unlock_deferred ⟨L, 1, none⟩ .returning _ (Lim.c1 (blk_alloc (Lim.lock (mu' := 1) HI.out) _)) (blk_free (blk_alloc (Lim.lock (mu' := 1) HI.out) _) 1)).mono ?_
  rintro e u' w'' ⟨rfl, rfl, rfl⟩
  exact ⟨_, results_tmp rfl _ _ _, rfl, Lim.lock (mu' := 0) (blk_alloc (Lim.lock (mu' := 1) HI.out) _), (((OnlyL.refl L w).set _ _).alloc _).set _ _⟩

end Go.Proofs.Ybulkcghm.Lm
