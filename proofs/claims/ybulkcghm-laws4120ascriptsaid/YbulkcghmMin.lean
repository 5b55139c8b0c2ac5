import Derived.Test.YbulkcghmTime
import Derived.Test.YbulkcghmFltB
namespace Go.Proofs.Ybulkcghm.Lm
open Go.RowKit
open Go.Proofs.Ybulkcghm.Flt (F)
set_option linter.unusedVariables false
set_option linter.unusedSimpArgs false

set_option maxRecDepth 100000 in
/-- zzs4120amin. -/
theorem amin_any (a b : Int) (w : World) : Calls Yba.prog 13 #[.int .i64 a, .int .i64 b] w fun e w' => e = .returned (.int .i64 (if a < b then a else b)) ∧ w' = w := by
  by_cases h : a < b
  · have h1 : decide (a < b) = true := by simp [h]
    go_enter Yba.func13, Yba.ntmps13
    go_wp2_with fail
    go_ret
    exact ⟨rfl, rfl⟩
  · have h1 : decide (a < b) = false := by simp [h]
    go_enter Yba.func13, Yba.ntmps13
    go_wp2_with fail
    go_ret
    exact ⟨rfl, rfl⟩

set_option maxRecDepth 100000 in
theorem isNaN_any (x : Nat) (w : World) (h : FloatKind.f64.format.order x x = some .eq) : Calls Yba.prog 111 #[.float .f64 x] w fun e w' => e = .returned (.bool false) ∧ w' = w := by
  go_enter Yba.func111, Yba.ntmps111
  go_wp2_with fail
  go_ret
  exact ⟨rfl, rfl⟩

end Go.Proofs.Ybulkcghm.Lm
