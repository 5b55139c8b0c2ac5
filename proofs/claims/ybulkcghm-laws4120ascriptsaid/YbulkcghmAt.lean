import Derived.Test.YbulkcghmNano
namespace Go.Proofs.Ybulkcghm.Lm
open Go.RowKit Go.Deep Go.Proofs.Ybulkcghm.Tm
set_option linter.unusedVariables false

set_option maxHeartbeats 8000000 in
set_option maxRecDepth 100000 in
theorem at_core (a b c d n : Int) (T C r E Q S fb A : Nat) (hfb : floatOfInt .f64 n = fb) (hquo : floatBits .quo .f64 E 4741671816366391296 = some Q) (hadd : floatBits .add .f64 T Q = some S)
    (HE : Hid (Ret 79 #[.agg #[.float .f64 T, .float .f64 C, .int .u64 c, .int .i64 d, .pointer none], .agg #[.int .u64 a, .int .i64 b, .pointer none], .float .f64 r] (.float .f64 E)))
    (HM : Hid (∀ w, Calls Yba.prog 78 #[.float .f64 S, .float .f64 fb] w fun e w' => e = .returned (.float .f64 A) ∧ w' = w)) :
    Ret 50 #[.agg #[.float .f64 T, .float .f64 C, .int .u64 c, .int .i64 d, .pointer none], .agg #[.int .u64 a, .int .i64 b, .pointer none], .float .f64 r, .int .i64 n] (.float .f64 A) := by
  intro w
  have hadd' := fun t (W : World) => run_float_arith (P := Yba.prog) W .add t .f64 _ _ _ hadd
  have hquo' := fun t (W : World) => run_float_arith (P := Yba.prog) W .quo t .f64 _ _ _ hquo
  clear hadd hquo
  go_enter Yba.func50, Yba.ntmps50
  go_wp2_with fail
  go_region_with (first
    | (go_at_call 79; refine (HE.out _).mono ?_; rintro e w1 ⟨rfl, hB⟩; have c1 : w1.cell? ⟨w.heap.size, 0, none⟩ = some (.float .f64 T) := (hB.cell (by simp; omega)).trans (by simp))
    | (go_at_call 78; refine (HM.out _).mono ?_; rintro e w2 ⟨rfl, rfl⟩))
  all_goals
    go_wp2_with fail
    go_ret
    exact ⟨rfl, bt (al (al (Below.refl _ w) _) _).drew hB⟩

end Go.Proofs.Ybulkcghm.Lm
