import Derived.Test.YbulkcghmSoA
namespace Go.Proofs.Ybulkcghm.So
open Go.RowKit
set_option linter.unusedVariables false

set_option maxHeartbeats 1000000 in
set_option maxRecDepth 100000 in
/-- slices.Equal at two rows that hold the same. -/
theorem equal_u (s1 s2 : Option Addr) (n c1 c2 : Nat) (z : Nat → Int) (w : World) (hn : n ≤ 1024)
    (h1 : ∀ i, i < n → ∃ b off, s1 = some ⟨b, off, none⟩ ∧ w.cell? ⟨b, off + i, none⟩ = some (.int .u64 (z i)))
    (h2 : ∀ i, i < n → ∃ b off, s2 = some ⟨b, off, none⟩ ∧ w.cell? ⟨b, off + i, none⟩ = some (.int .u64 (z i))) :
    Calls Yba.prog 26 #[.slice s1 n c1, .slice s2 n c2] w fun e w' => e = .returned (.bool true) ∧ ∃ q, w' = w.drewN q := by
  have H1 := hideP h1
  have H2 := hideP h2
  clear h1 h2
  go_enter Yba.func26, Yba.ntmps26
  go_wp2_with fail
  go_loopw [13] (fun vi wr => ∃ i : Nat, vi = .int .i64 i ∧ i ≤ n ∧ ∃ q, wr = w.drewN q) (fun vi _ => n - (intOf vi).toNat)
  case atStart => exact ⟨0, rfl, Nat.zero_le _, 0, rfl⟩
  case round =>
    obtain ⟨i, rfl, hi, q, rfl⟩ := hrel
    by_cases hlt : i < n
    · obtain ⟨b1, o1, rfl, k1⟩ := H1.out i hlt
      obtain ⟨b2, o2, rfl, k2⟩ := H2.out i hlt
      have tt : decide ((i : Int) < (n : Int)) = true := by simp; omega
      have j1 : (i : Int) < (n : Int) := by omega
      have k1' : (w.drewN q).cell? ⟨b1, o1 + i, none⟩ = some (.int .u64 (z i)) := k1
      have k2' : (w.drewN q).cell? ⟨b2, o2 + i, none⟩ = some (.int .u64 (z i)) := k2
      have HQ : Hid (∀ p, ∃ q', (w.drewN q).drewN p = w.drewN q') := fun p => ⟨q + p, by simp [World.drewN, Nat.add_assoc]⟩
      generalize w.drewN q = wq at *
      clear k1 k2 H1 H2
      go_wp2_with fail
      go_quiet (fail)
      go_wp2_with fail
      go_roundw
      case rel =>
        obtain ⟨q', hq'⟩ := HQ.out nq
        exact ⟨i + 1, by go_num, by omega, q', hq'⟩
      case measure => simp [intOf]; omega
    · have tt : decide ((i : Int) < (n : Int)) = false := by simp; omega
      clear H1 H2
      go_wp2_with fail
      go_ret
      exact ⟨rfl, q, rfl⟩

end Go.Proofs.Ybulkcghm.So
