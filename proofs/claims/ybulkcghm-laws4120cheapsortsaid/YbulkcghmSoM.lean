import Derived.Test.YbulkcghmSoL
namespace Go.Proofs.Ybulkcghm.So
open Go.RowKit
open Go.Sort (swp size_swp ltInt)
set_option linter.unusedVariables false

set_option maxHeartbeats 1000000 in
set_option maxRecDepth 100000 in
/-- slices.Sort at uint64. -/
theorem sort_u (g off n cap : Nat) (d : Array Int) (w : World) (hR : Row w g off n d w) (hg : g < w.heap.size) (hn : n ≤ 1024) :
    Calls Yba.prog 25 #[.slice (some ⟨g, off, none⟩) n cap] w fun e w' => e = .returned (.tuple #[]) ∧ Row w g off n (Go.Sort.sort ltInt d) w' := by
  have hlen := hR.len
  have e0 : Go.Sort.sort ltInt d = Go.Sort.pdq ltInt d 0 n (Go.Sort.bitsLen n) true true := by unfold Go.Sort.sort; rw [hlen]
  rw [e0]
  obtain ⟨b1, b2⟩ := bl n hn
  have HL := hideP (Yba.bits_Len (n : Int) w (by omega) (by omega))
  have HP := hideP (pdq_u g off n cap hn n 0 n (Go.Sort.bitsLen n) d w (by omega) hR hg (by omega) (Nat.le_refl _) (by omega))
  rw [← b1] at HP ⊢
  clear e0 b1 b2 hlen hR
  go_enter Yba.func25, Yba.ntmps25
  go_wp2_with fail
  refine Calls.mono HL.out ?_
  rintro e w1 ⟨rfl, rfl⟩
  clear HL
  go_wp2_with fail
  refine Calls.mono HP.out ?_
  rintro e w2 ⟨rfl, h2⟩
  have H2 := hideP h2
  clear h2 HP
  go_wp2_with fail
  go_end0
  exact ⟨rfl, H2.out⟩

/-- Sorted: core's mergeSort. -/
theorem sort_list (d : Array Int) : (Go.Sort.sort ltInt d).toList = d.toList.mergeSort (fun x y => decide (x ≤ y)) := by
  have := Go.Sort.sortInt d.toList
  simpa using this

end Go.Proofs.Ybulkcghm.So
