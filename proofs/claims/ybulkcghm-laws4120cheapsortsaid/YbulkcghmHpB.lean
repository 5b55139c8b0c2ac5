import Derived.Test.YbulkcghmPopB
import Derived.BigQuiet
import Derived.Deep.QuietTactic
import Derived.WalkSpells
import Derived.WalkSmall
import Derived.Deep.RegionWith
import Derived.Sort.LotA
namespace Go.Proofs.Ybulkcghm.Hp
open Go.RowKit Go.Deep Go.Proofs.Ybulkcghm.Pop
set_option linter.unusedVariables false

set_option maxHeartbeats 400000 in
set_option maxRecDepth 100000 in
theorem len_h (a : Option Addr) (n cap : Nat) (w : World) : Calls Yba.prog 142 #[.slice a n cap] w fun e w' => e = .returned (.int .i64 n) ∧ w' = w := by
  go_enter Yba.func142, Yba.ntmps142
  go_wp2
  go_ret
  exact ⟨rfl, rfl⟩

set_option maxHeartbeats 1000000 in
set_option maxRecDepth 100000 in
theorem swap_h (g n cap i j p q : Nat) (s t : Int) (w : World) (hi : (i : Int) < n) (hj : (j : Int) < n) (hij : i ≠ j) (hn : n ≤ 1024)
    (h1 : w.cell? ⟨g, i, none⟩ = some (.pointer (some ⟨p, 0, none⟩))) (h2 : w.cell? ⟨g, j, none⟩ = some (.pointer (some ⟨q, 0, none⟩)))
    (f1 : w.frozen? ⟨g, i, none⟩ = false) (f2 : w.frozen? ⟨g, j, none⟩ = false)
    (p7 : w.cell? ⟨p, 7, none⟩ = some (.int .i64 i)) (q7 : w.cell? ⟨q, 7, none⟩ = some (.int .i64 j)) (pf : w.frozen? ⟨p, 7, none⟩ = false) (qf : w.frozen? ⟨q, 7, none⟩ = false)
    (hgp : g ≠ p) (hgq : g ≠ q) :
    Calls Yba.prog 144 #[.slice (some ⟨g, 0, none⟩) n cap, .int .i64 i, .int .i64 j] w fun e w' =>
      e = .returned (.tuple #[]) ∧ ∃ m, w' = ((((w.setCell ⟨g, i, none⟩ (.pointer (some ⟨q, 0, none⟩))).setCell ⟨g, j, none⟩ (.pointer (some ⟨p, 0, none⟩))).setCell ⟨q, 7, none⟩ (.int .i64 i)).setCell ⟨p, 7, none⟩ (.int .i64 j)).drewN m := by
  have hpq : p ≠ q := fun e => by
    subst e
    rw [p7] at q7
    simp at q7
    omega
  go_enter Yba.func144, Yba.ntmps144
  go_wp2_with fail
  go_region
  all_goals
    go_wp2_with fail
    go_end0
    exact ⟨rfl, 1, rfl⟩

set_option maxHeartbeats 1000000 in
set_option maxRecDepth 100000 in
theorem swap_one (g n cap i p : Nat) (w : World) (hi : (i : Int) < n) (hn : n ≤ 1024)
    (h1 : w.cell? ⟨g, i, none⟩ = some (.pointer (some ⟨p, 0, none⟩)))
    (f1 : w.frozen? ⟨g, i, none⟩ = false)
    (p7 : w.cell? ⟨p, 7, none⟩ = some (.int .i64 i)) (pf : w.frozen? ⟨p, 7, none⟩ = false) (hgp : g ≠ p) :
    Calls Yba.prog 144 #[.slice (some ⟨g, 0, none⟩) n cap, .int .i64 i, .int .i64 i] w fun e w' =>
      e = .returned (.tuple #[]) ∧ ∃ m, w' = ((((w.setCell ⟨g, i, none⟩ (.pointer (some ⟨p, 0, none⟩))).setCell ⟨g, i, none⟩ (.pointer (some ⟨p, 0, none⟩))).setCell ⟨p, 7, none⟩ (.int .i64 i)).setCell ⟨p, 7, none⟩ (.int .i64 i)).drewN m := by
  go_enter Yba.func144, Yba.ntmps144
  go_wp2_with fail
  go_region
  all_goals
    go_wp2_with fail
    go_end0
    exact ⟨rfl, 1, rfl⟩

end Go.Proofs.Ybulkcghm.Hp
