import Derived.Test.YbulkcghmSub
import Derived.Test.YbulkcghmMinT
import Derived.Test.YbulkcghmFltB
import Derived.Laws.FloatArith
namespace Go.Proofs.Ybulkcghm.Lm
open Go.RowKit Go.Deep Go.Proofs.Ybulkcghm.Tm
set_option linter.unusedVariables false

/-- The call returns just this and leaves all blocks of the caller alone. -/
def Ret (f : FuncId) (args : Array Value) (v : Value) : Prop := ∀ w, Calls Yba.prog f args w fun e w' => e = .returned v ∧ Below w.heap.size w w'

theorem bt {w v w' : World} (h : Below w.heap.size w v) (k : Below v.heap.size v w') : Below w.heap.size w w' := h.trans (k.mono h.size)

set_option maxHeartbeats 4000000 in
set_option maxRecDepth 100000 in
theorem nano_none (a b c d D : Int) (r : Nat) (hr : (FloatKind.f64.format.order r 0 == some .gt) = false)
    (HS : Hid (Ret 106 #[.agg #[.int .u64 a, .int .i64 b, .pointer none], .agg #[.int .u64 c, .int .i64 d, .pointer none]] (.int .i64 D))) :
    Ret 98 #[.float .f64 r, .agg #[.int .u64 c, .int .i64 d, .pointer none], .agg #[.int .u64 a, .int .i64 b, .pointer none]] (.float .f64 0) := by
  intro w
  go_enter Yba.func98, Yba.ntmps98
  go_wp2_with (go_at_call 106; refine (HS.out _).mono ?_; rintro e w1 ⟨rfl, hB⟩)
  go_ret
  exact ⟨rfl, bt (al (al (Below.refl _ w) _) _) hB⟩

set_option maxHeartbeats 4000000 in
set_option maxRecDepth 100000 in
theorem nano_same (a b c d : Int) (r : Nat) (hr : (FloatKind.f64.format.order r 0 == some .gt) = true)
    (HS : Hid (Ret 106 #[.agg #[.int .u64 a, .int .i64 b, .pointer none], .agg #[.int .u64 c, .int .i64 d, .pointer none]] (.int .i64 0))) :
    Ret 98 #[.float .f64 r, .agg #[.int .u64 c, .int .i64 d, .pointer none], .agg #[.int .u64 a, .int .i64 b, .pointer none]] (.float .f64 0) := by
  intro w
  go_enter Yba.func98, Yba.ntmps98
  go_wp2_with (go_at_call 106; refine (HS.out _).mono ?_; rintro e w1 ⟨rfl, hB⟩)
  go_ret
  exact ⟨rfl, bt (al (al (Below.refl _ w) _) _) hB⟩

set_option maxHeartbeats 4000000 in
set_option maxRecDepth 100000 in
theorem nano_mul (a b c d D : Int) (r m X : Nat) (hX : floatOfInt .f64 D = X) (hr : (FloatKind.f64.format.order r 0 == some .gt) = true) (h0 : (D == 0) = false) (h1 : (D == 9223372036854775807) = false) (h2 : (D == -9223372036854775808) = false)
    (hm : floatBits .mul .f64 X r = some m)
    (HS : Hid (Ret 106 #[.agg #[.int .u64 a, .int .i64 b, .pointer none], .agg #[.int .u64 c, .int .i64 d, .pointer none]] (.int .i64 D))) :
    Ret 98 #[.float .f64 r, .agg #[.int .u64 c, .int .i64 d, .pointer none], .agg #[.int .u64 a, .int .i64 b, .pointer none]] (.float .f64 m) := by
  intro w
  have hmul := fun t (W : World) => run_float_arith (P := Yba.prog) W .mul t .f64 _ _ _ hm
  clear hm
  go_enter Yba.func98, Yba.ntmps98
  go_wp2_with (go_at_call 106; refine (HS.out _).mono ?_; rintro e w1 ⟨rfl, hB⟩)
  go_ret
  exact ⟨rfl, bt (al (al (Below.refl _ w) _) _) hB⟩


set_option maxHeartbeats 4000000 in
set_option maxRecDepth 100000 in
theorem earned_any (a b c d : Int) (T C r G E : Nat) (hadd : floatBits .add .f64 C G = some E)
    (HN : Hid (Ret 98 #[.float .f64 r, .agg #[.int .u64 c, .int .i64 d, .pointer none], .agg #[.int .u64 a, .int .i64 b, .pointer none]] (.float .f64 G))) :
    Ret 79 #[.agg #[.float .f64 T, .float .f64 C, .int .u64 c, .int .i64 d, .pointer none], .agg #[.int .u64 a, .int .i64 b, .pointer none], .float .f64 r] (.float .f64 E) := by
  intro w
  have hadd' := fun t (W : World) => run_float_arith (P := Yba.prog) W .add t .f64 _ _ _ hadd
  clear hadd
  go_enter Yba.func79, Yba.ntmps79
  go_wp2_with fail
  go_region_with (go_at_call 98; refine (HN.out _).mono ?_; rintro e w1 ⟨rfl, hB⟩; have c1 : w1.cell? ⟨w.heap.size, 1, none⟩ = some (.float .f64 C) := (hB.cell (by simp; omega)).trans (by simp))
  all_goals
    go_wp2_with fail
    go_ret
    exact ⟨rfl, bt (al (al (Below.refl _ w) _) _).drew hB⟩

end Go.Proofs.Ybulkcghm.Lm
