import Derived.Test.YbulkcghmProg
import Derived.WalkKit
import Derived.Defers
import Derived.Laws.Pointers
import Derived.Laws.LoneSync
namespace Go.Proofs.Ybulkcghm.Mu
open Go.RowKit

theorem disable (w : World) : (callFunc 67 #[]).run Yba.prog w = .ok (.value (.tuple #[])) w := run_call_mark0 Yba.func67 (by kernel_rfl) (by kernel_rfl) (by kernel_rfl) .disable (by kernel_rfl) w
theorem enable (w : World) : (callFunc 69 #[]).run Yba.prog w = .ok (.value (.tuple #[])) w := run_call_mark0 Yba.func69 (by kernel_rfl) (by kernel_rfl) (by kernel_rfl) .enable (by kernel_rfl) w
theorem acquire (a : Addr) (w : World) : (callFunc 70 #[.pointer (some a)]).run Yba.prog w = .ok (.value (.tuple #[])) w := run_call_marked Yba.func70 (by kernel_rfl) (by kernel_rfl) (by kernel_rfl) .acquire (by kernel_rfl) a w
theorem releaseMerge (a : Addr) (w : World) : (callFunc 72 #[.pointer (some a)]).run Yba.prog w = .ok (.value (.tuple #[])) w := run_call_marked Yba.func72 (by kernel_rfl) (by kernel_rfl) (by kernel_rfl) .releaseMerge (by kernel_rfl) a w

set_option maxRecDepth 100000 in
set_option maxHeartbeats 1600000 in
/-- The lock free: taken. -/
theorem lock_free (a : Addr) (w : World) (hc : w.cell? a = some (.int .i32 0)) (hz : w.frozen? a = false) :
    Calls Yba.prog 31 #[.pointer (some a)] w fun e w' => e = .returned (.tuple #[]) ∧ w' = w.setCell a (.int .i32 1) := by
  have hd := disable
  have he := enable
  have ha := acquire
  have hcas := run_call_cas_hit (P := Yba.prog) Yba.func68 (by kernel_rfl) (by kernel_rfl) (by kernel_rfl) .i32 (by kernel_rfl) (y := 1) hc hz
  have h0' : (w.setCell a (.int .i32 1)).cell? a = some (.int .i32 1) := by simp [go_sem, hc]
  have hcv := run_convert_to_unsafe (P := Yba.prog) (src := 143) (dst := 147) Yba.underlying143 Yba.underlying147 (by kernel_rfl) h0'
  go_enter Yba.func31, Yba.ntmps31
  go_wp2
  first | go_end0 | (simp only [Exit.inBlock, Exit.then]; refine bodyPost_ret (results_none rfl _ _ _) rfl ?_) | refine bodyPost_ret (results_none rfl _ _ _) rfl ?_
  go_wp2
  go_end0
  exact ⟨rfl, rfl⟩

set_option maxRecDepth 100000 in
set_option maxHeartbeats 1600000 in
/-- Unlock, deferred, the lock held and nobody waiting. -/
theorem unlock_deferred (a : Addr) (u : FrameMode) (w : World) (hc : w.cell? a = some (.int .i32 1)) (hz : w.frozen? a = false) :
    CallsD Yba.prog 32 #[.pointer (some a)] u w fun e u' w' => u' = u ∧ (e = .returned (.tuple #[]) ∧ w' = w.setCell a (.int .i32 0)) := by
  have hd := disable
  have he := enable
  have hr := releaseMerge
  have hcv := run_convert_to_unsafe (P := Yba.prog) (src := 143) (dst := 147) Yba.underlying143 Yba.underlying147 (by kernel_rfl) hc
  have hadd := run_call_add (P := Yba.prog) Yba.func73 (by kernel_rfl) (by kernel_rfl) (by kernel_rfl) .i32 (by kernel_rfl) (y := -1) (s := 0) hc hz (by simp [go_sem]; rfl)
  go_enter_d Yba.func32, Yba.ntmps32
  go_wp2
  go_end0
  go_wp2
  go_end0
  exact ⟨rfl, rfl⟩

end Go.Proofs.Ybulkcghm.Mu
