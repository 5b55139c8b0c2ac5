import Derived.Test.YbulkcghmPopB
import Derived.Test.YbulkcghmTime
import Derived.BigQuiet
import Derived.Deep.QuietTactic
import Derived.WalkSpells
import Derived.WalkSmall
import Derived.Deep.RegionWith
namespace Go.Proofs.Ybulkcghm.Hp
open Go.RowKit Go.Deep Go.Proofs.Ybulkcghm.Pop
set_option linter.unusedVariables false

/-- The cells of the zero time. -/
def z3 : Array Value := #[.int .u64 0, .int .i64 0, .pointer none]

theorem equal_zero (w : World) : Calls Yba.prog 19 #[.agg #[.int .u64 0, .int .i64 0, .pointer none], .agg #[.int .u64 0, .int .i64 0, .pointer none]] w fun e w' =>
    e = .returned (.bool true) ∧ w' = (w.alloc (.cells z3 31)).alloc (.cells z3 31) := Tm.equal_any 0 0 w

set_option maxHeartbeats 1000000 in
set_option maxRecDepth 100000 in
theorem less_h (g n cap i j p q : Nat) (s t : Int) (w : World) (hi : (i : Int) < n) (hj : (j : Int) < n) (hn : n ≤ 1024)
    (h1 : w.cell? ⟨g, i, none⟩ = some (.pointer (some ⟨p, 0, none⟩))) (h2 : w.cell? ⟨g, j, none⟩ = some (.pointer (some ⟨q, 0, none⟩)))
    (hp : w.heap[p]? = some (.cells (timer s i) 67 (0, 0))) (hq : w.heap[q]? = some (.cells (timer t j) 67 (0, 0))) :
    Calls Yba.prog 143 #[.slice (some ⟨g, 0, none⟩) n cap, .int .i64 i, .int .i64 j] w fun e w' =>
      e = .returned (.bool (decide (s < t))) ∧ Below w.heap.size w w' := by
  have p3 : w.cell? ⟨p, 3, none⟩ = some (.int .u64 0) := by simp [World.cell?, hp, timer]
  have p4 : w.cell? ⟨p, 4, none⟩ = some (.int .i64 0) := by simp [World.cell?, hp, timer]
  have p5 : w.cell? ⟨p, 5, none⟩ = some (.pointer none) := by simp [World.cell?, hp, timer]
  have p6 : w.cell? ⟨p, 6, none⟩ = some (.int .u64 s) := by simp [World.cell?, hp, timer]
  have q3 : w.cell? ⟨q, 3, none⟩ = some (.int .u64 0) := by simp [World.cell?, hq, timer]
  have q4 : w.cell? ⟨q, 4, none⟩ = some (.int .i64 0) := by simp [World.cell?, hq, timer]
  have q5 : w.cell? ⟨q, 5, none⟩ = some (.pointer none) := by simp [World.cell?, hq, timer]
  have q6 : w.cell? ⟨q, 6, none⟩ = some (.int .u64 t) := by simp [World.cell?, hq, timer]
  clear hp hq
  go_enter Yba.func143, Yba.ntmps143
  go_wp2_with fail
  go_region_with (go_at_call 19; refine (equal_zero _).mono ?_; rintro e w' ⟨rfl, rfl⟩)
  all_goals
    have B1 : Below w.heap.size w ((w.alloc (.cells z3 31)).alloc (.cells z3 31)).drew := (((Below.refl _ w).alloc (Nat.le_refl _) _).alloc (by simp) _).drew
    have lg : g < w.heap.size := World.block_lt_of_cell? w _ h1
    have lp : p < w.heap.size := World.block_lt_of_cell? w _ p3
    have lq : q < w.heap.size := World.block_lt_of_cell? w _ q3
    replace h1 := (B1.cell (p := ⟨g, i, none⟩) lg).trans h1
    replace h2 := (B1.cell (p := ⟨g, j, none⟩) lg).trans h2
    replace p6 := (B1.cell (p := ⟨p, 6, none⟩) lp).trans p6
    replace q6 := (B1.cell (p := ⟨q, 6, none⟩) lq).trans q6
    clear p3 p4 p5 q3 q4 q5 lg lp lq
    generalize ((w.alloc (.cells z3 31)).alloc (.cells z3 31)).drew = w1 at *
    have HB1 : Hid (Below w.heap.size w w1) := B1
    clear B1
    go_wp2_with fail
    go_quiet (fail)
    go_wp2_with fail
    go_ret
    exact ⟨rfl, below_drewN HB1.out _⟩

end Go.Proofs.Ybulkcghm.Hp
