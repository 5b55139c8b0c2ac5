import Derived.Test.YbulkcghmTime
namespace Go.Proofs.Ybulkcghm.Lm
open Go.RowKit Go.Extern

theorem call99 (args : Array Value) (w : World) : (callFunc 99 args).run Yba.prog w = ((MathDim.pick "math.archMin" true .lt args).run Yba.prog w).andThen fun v w' => .ok (.value v) w' :=
  run_callFunc_extern Yba.func99 (by kernel_rfl) (by kernel_rfl) (by kernel_rfl) (by kernel_rfl) args w

theorem pick_run (x y : Nat) (w : World) (m m' : Nat) (e e' : Int) (ha : FloatKind.f64.decode x = .number false m e) (hb : FloatKind.f64.decode y = .number false m' e') :
    (MathDim.pick "math.archMin" true .lt #[.float .f64 x, .float .f64 y]).run Yba.prog w = .ok (.float .f64 (if (Ieee.Datum.number false m e).order (.number false m' e') == some .lt then x else y)) w := by
  show Sem.run Yba.prog (pure (Value.float .f64 _)) w = _
  rw [ha, hb]
  rw [if_neg (show ¬ ((Ieee.Datum.number false m e == Ieee.Datum.infinity true || Ieee.Datum.number false m' e' == Ieee.Datum.infinity true) = true) from fun h => by cases h)]
  rw [if_neg (show ¬ (((Ieee.Datum.number false m e).isNaN || (Ieee.Datum.number false m' e').isNaN) = true) from fun h => by cases h)]
  by_cases hz : ((Ieee.Datum.number false m e).isZero && (Ieee.Datum.number false m' e').isZero) = true
  · rw [if_pos hz, if_neg (show ¬ (((Ieee.Datum.number false m e).neg == true) = true) from fun h => by cases h)]
    rw [if_neg]
    · rfl
    · cases m with
      | succ k => cases hz
      | zero =>
        cases m' with
        | succ k => cases hz
        | zero => simp [Ieee.Datum.order, Ieee.signed]
  · rw [if_neg hz]
    rfl

attribute [local go_sem] call99 in
set_option maxRecDepth 100000 in
/-- math.Min at two numbers. -/
theorem min_any (x y : Nat) (w : World) (m m' : Nat) (e e' : Int) (ha : FloatKind.f64.decode x = .number false m e) (hb : FloatKind.f64.decode y = .number false m' e') :
    Calls Yba.prog 78 #[.float .f64 x, .float .f64 y] w fun r w' => r = .returned (.float .f64 (if (Ieee.Datum.number false m e).order (.number false m' e') == some .lt then x else y)) ∧ w' = w := by
  have hp := fun W => pick_run x y W m m' e e' ha hb
  generalize (if (Ieee.Datum.number false m e).order (.number false m' e') == some .lt then x else y) = z at *
  clear ha hb
  go_enter Yba.func78, Yba.ntmps78
  go_wp2_with fail
  go_ret
  exact ⟨rfl, rfl⟩

end Go.Proofs.Ybulkcghm.Lm
