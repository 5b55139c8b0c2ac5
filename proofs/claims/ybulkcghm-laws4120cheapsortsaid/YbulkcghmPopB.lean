import Derived.Test.YbulkcghmPopA
namespace Go.Proofs.Ybulkcghm.Pop
open Go.RowKit Go.Deep

set_option maxHeartbeats 1000000 in
set_option maxRecDepth 100000 in
theorem pop_any (hp g t n cap : Nat) (x : Value) (w : World) (hn : n < 4611686018427387904) (hnc : n + 1 ≤ cap)
    (h1 : w.cell? ⟨hp, 0, none⟩ = some (.slice (some ⟨g, 0, none⟩) (n + 1) cap)) (h1f : w.frozen? ⟨hp, 0, none⟩ = false)
    (h2 : w.cell? ⟨g, n, none⟩ = some (.pointer (some ⟨t, 0, none⟩))) (h2f : w.frozen? ⟨g, n, none⟩ = false)
    (h3 : w.cell? ⟨t, 7, none⟩ = some x) (h3f : w.frozen? ⟨t, 7, none⟩ = false) (hpg : hp ≠ g) (hpt : hp ≠ t) (hgt : g ≠ t) :
    Calls Yba.prog 21 #[.pointer (some ⟨hp, 0, none⟩)] w fun e w' =>
      e = .returned (.iface 62 (.pointer (some ⟨t, 0, none⟩))) ∧
      w' = ((w.setCell ⟨g, n, none⟩ (.pointer none)).setCell ⟨t, 7, none⟩ (.int .i64 (-1))).setCell ⟨hp, 0, none⟩ (.slice (some ⟨g, 0, none⟩) n cap) := by
  go_enter Yba.func21, Yba.ntmps21
  go_wp2
  go_ret
  exact ⟨rfl, rfl⟩

end Go.Proofs.Ybulkcghm.Pop
