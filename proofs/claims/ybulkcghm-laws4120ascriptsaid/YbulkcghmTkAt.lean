import Derived.Test.YbulkcghmAvl2
namespace Go.Proofs.Ybulkcghm.Lm
open Go.RowKit Go.Deep Go.Proofs.Ybulkcghm.Tm Go.Proofs.Ybulkcghm.Mu
set_option linter.unusedVariables false

set_option maxHeartbeats 8000000 in
set_option maxRecDepth 100000 in
theorem TokensAt_any {L : Nat} {r : Nat} {n : Int} {T : Nat} {z l : Int} {T2 : Nat} {z2 : Int} (t t' : Int) (A : Nat) (w : World) (h : Lim w L 0 r n T z l T2 z2) (HT : TokR r n T z l t t' A) :
    Calls Yba.prog 14 #[.pointer (some ⟨L, 0, none⟩), tv t] w fun e w' => e = .returned (.float .f64 A) ∧ Lim w' L 0 r n T z l T2 z2 ∧ OnlyL L w w' := by
  have hL := blk_lt h
  have HI := hideP h
  have h1 := fun o => (Lim.c1 (blk_alloc h o))
  have f1 := fun o => (blk_free (blk_alloc h o) 1)
  have HK := hideP (HT L 1 T2 z2)
  clear h HT
  simp only [tv] at HK ⊢
  obtain ⟨ta, hta⟩ : ∃ x, t % 1000000000 = x := ⟨_, rfl⟩
  obtain ⟨tb, htb⟩ : ∃ x, t / 1000000000 = x := ⟨_, rfl⟩
  obtain ⟨ua, hua⟩ : ∃ x, t' % 1000000000 = x := ⟨_, rfl⟩
  obtain ⟨ub, hub⟩ : ∃ x, t' / 1000000000 = x := ⟨_, rfl⟩
  simp only [hta, htb, hua, hub] at HK ⊢
  clear hta htb hua hub
  go_enter_defers Yba.func14, Yba.ntmps14
  go_wp2_with (go_at_call 31; refine (lock_free ⟨L, 1, none⟩ _ (h1 _) (f1 _)).mono ?_; rintro e w' ⟨rfl, rfl⟩)
  refine (HK.out _ (blk_alloc (Lim.lock (mu' := 1) HI.out) _)).mono ?_
  rintro e w1 ⟨rfl, hB⟩
  have l1 := hideP (Lim.below (blk_alloc (Lim.lock (mu' := 1) HI.out) _) hB)
  have O1 := hideP (((((OnlyL.refl L w).set 1 (.int .i32 1)).alloc (.cells #[.int .u64 ta, .int .i64 tb, .pointer none] 31))).below hB)
  clear hB h1 f1
  go_wp2_with fail
  have l2 := blk_alloc l1.out (.cells #[.int .u64 ua, .int .i64 ub, .pointer none] 31)
  have O2 := O1.out.alloc (.cells #[.int .u64 ua, .int .i64 ub, .pointer none] 31)
  refine leaves_cons (f := 32) (args := #[.pointer (some ⟨L, 1, none⟩)]) (by simp) (by simp [go_sem]) ?_
  refine (unlock_deferred ⟨L, 1, none⟩ .returning _ (Lim.c1 l2) (blk_free l2 1)).mono ?_
  rintro e u' w'' ⟨rfl, rfl, rfl⟩
  exact ⟨_, results_tmp rfl _ _ _, rfl, Lim.lock l2 0, O2.set _ _⟩

end Go.Proofs.Ybulkcghm.Lm
