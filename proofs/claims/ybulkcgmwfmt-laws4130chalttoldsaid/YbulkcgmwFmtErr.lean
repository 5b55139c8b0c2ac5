import Derived.Test.YbulkcgmwFmtFx
namespace Go.Proofs.YbulkcgmwFmt.Du
open Go.RowKit Go.Deep
open Go.Extern.Stop Go.Stop Go.Extern
set_option linter.unusedVariables false
set_option linter.unusedSimpArgs false
attribute [local go_sem] call9 guard9 fmt1 fmt1r fmt2 fmt2r fmt3 fmt3r fmt4 fmt4r fmt5 fmt5r act24 op24 act9 op9 act26 str26 act45 str45 isError45 isError44 ptr45 elem45 ptr44 elem44

/-- An error of the library's plain make. -/
def Plain (v : Value) (w : World) : Prop := ∃ (a : Addr) (s : ByteArray), v = .iface 45 (.pointer (some a)) ∧ a.block < w.heap.size ∧ w.cell? a = some (.string s)

theorem plain_new (w : World) (s : ByteArray) : Plain (.iface 45 (.pointer (some ⟨w.heap.size, 0, none⟩))) (w.alloc (.cells #[.string s] 47)).drew := by
  refine ⟨⟨w.heap.size, 0, none⟩, s, rfl, ?_, ?_⟩
  · show w.heap.size < (w.alloc (.cells #[.string s] 47)).heap.size
    rw [nblk_alloc]; omega
  · go_simp

set_option maxHeartbeats 800000 in
set_option maxRecDepth 100000 in
theorem errorf1 (F : Interp) (g : Nat) (x : ByteArray) (w : World) (hF : F.answers w.tape) (hc : w.cell? ⟨g, 0, none⟩ = some (.iface 24 (.string x))) :
    Calls Ybaf.prog 6 #[.string ⟨#[114, 111, 111, 116, 58, 32, 111, 110, 108, 121, 32, 109, 111, 100, 101, 32, 37, 113, 32, 104, 97, 115, 32, 111, 110, 101]⟩, .slice (some ⟨g, 0, none⟩) 1 1] w fun e w' => ∃ v, e = .returned v ∧ Plain v w' ∧ Below w.heap.size w w' := by
  have hF' := answers_open hF
  go_enter Ybaf.func6, Ybaf.ntmps6
  go_wp2_with fail
  apply rows_value nextTurns
  case hr =>
    go_simp
    exact ⟨rfl, rfl⟩
  case h =>
    go_wp2_with fail
    go_ret
    exact ⟨_, rfl, plain_new w _, ((Below.refl _ _).alloc (Nat.le_refl _) _).drew⟩

set_option maxHeartbeats 800000 in
set_option maxRecDepth 100000 in
theorem errorf2 (F : Interp) (g : Nat) (x : ByteArray) (w : World) (hF : F.answers w.tape) (hc : w.cell? ⟨g, 0, none⟩ = some (.iface 24 (.string x))) :
    Calls Ybaf.prog 6 #[.string ⟨#[116, 109, 105, 110, 58, 32, 111, 110, 108, 121, 32, 109, 111, 100, 101, 32, 37, 113, 32, 104, 97, 115, 32, 111, 110, 101]⟩, .slice (some ⟨g, 0, none⟩) 1 1] w fun e w' => ∃ v, e = .returned v ∧ Plain v w' ∧ Below w.heap.size w w' := by
  have hF' := answers_open hF
  go_enter Ybaf.func6, Ybaf.ntmps6
  go_wp2_with fail
  apply rows_value nextTurns
  case hr =>
    go_simp
    exact ⟨rfl, rfl⟩
  case h =>
    go_wp2_with fail
    go_ret
    exact ⟨_, rfl, plain_new w _, ((Below.refl _ _).alloc (Nat.le_refl _) _).drew⟩

set_option maxHeartbeats 800000 in
set_option maxRecDepth 100000 in
theorem errorf3 (F : Interp) (g : Nat) (x : ByteArray) (w : World) (hF : F.answers w.tape) (hc : w.cell? ⟨g, 0, none⟩ = some (.iface 9 (.string x))) :
    Calls Ybaf.prog 6 #[.string ⟨#[114, 111, 111, 116, 58, 32, 37, 113, 32, 105, 115, 32, 110, 111, 116, 32, 97, 32, 109, 101, 109, 98, 101, 114, 32, 111, 102, 32, 116, 104, 101, 32, 103, 114, 111, 117, 112]⟩, .slice (some ⟨g, 0, none⟩) 1 1] w fun e w' => ∃ v, e = .returned v ∧ Plain v w' ∧ Below w.heap.size w w' := by
  have hF' := answers_open hF
  go_enter Ybaf.func6, Ybaf.ntmps6
  go_wp2_with fail
  apply rows_value nextTurns
  case hr =>
    go_simp
    exact ⟨rfl, rfl⟩
  case h =>
    go_wp2_with fail
    go_ret
    exact ⟨_, rfl, plain_new w _, ((Below.refl _ _).alloc (Nat.le_refl _) _).drew⟩

set_option maxHeartbeats 800000 in
set_option maxRecDepth 100000 in
theorem errorf4 (F : Interp) (g : Nat) (v0 : Value) (w : World) (hF : F.answers w.tape) (hp : Plain v0 w) (hc : w.cell? ⟨g, 0, none⟩ = some v0) :
    Calls Ybaf.prog 6 #[.string ⟨#[116, 109, 105, 110, 58, 32, 37, 119]⟩, .slice (some ⟨g, 0, none⟩) 1 1] w fun e w' => ∃ p, e = .returned (.iface 44 p) ∧ Below w.heap.size w w' := by
  have hF' := answers_open hF
  obtain ⟨a, s, rfl, ha, hs⟩ := hp
  have hop := opPlain45 "fmt.errorf" a s w hs
  go_enter Ybaf.func6, Ybaf.ntmps6
  go_wp2_with fail
  apply rows_value nextTurns
  case hr =>
    go_simp
    exact ⟨rfl, rfl⟩
  case h =>
    go_wp2_with fail
    go_ret
    refine ⟨_, rfl, ?_⟩
    exact ((Below.refl _ _).alloc (Nat.le_refl _) _).drew

set_option maxHeartbeats 1600000 in
set_option maxRecDepth 100000 in
theorem errorf5 (F : Interp) (g : Nat) (d0 d1 d2 : Int) (w : World) (hF : F.answers w.tape) (hg : g < w.heap.size)
    (hc0 : w.cell? ⟨g, 0, none⟩ = some (.iface 26 (.int .i64 d0))) (hc1 : w.cell? ⟨g, 1, none⟩ = some (.iface 26 (.int .i64 d1))) (hc2 : w.cell? ⟨g, 2, none⟩ = some (.iface 26 (.int .i64 d2)))
    (a0 : -9223372036854775808 ≤ d0 ∧ d0 ≤ 9223372036854775807) (a1 : -9223372036854775808 ≤ d1 ∧ d1 ≤ 9223372036854775807) (a2 : -9223372036854775808 ≤ d2 ∧ d2 ≤ 9223372036854775807) :
    Calls Ybaf.prog 6 #[.string ⟨#[116, 109, 105, 110, 32, 37, 118, 58, 32, 109, 117, 115, 116, 32, 98, 101, 32, 102, 114, 111, 109, 32, 37, 118, 32, 116, 111, 32, 116, 109, 97, 120, 44, 32, 116, 104, 101, 32, 112, 101, 114, 105, 111, 100, 44, 32, 37, 118]⟩, .slice (some ⟨g, 0, none⟩) 3 3] w fun e w' => ∃ v, e = .returned v ∧ Plain v w' ∧ Below w.heap.size w w' := by
  have hF' := answers_open hF
  go_enter Ybaf.func6, Ybaf.ntmps6
  go_wp2_with fail
  apply rows_call nextTurns
  case hr =>
    go_simp
    exact ⟨⟨rfl, rfl, rfl⟩, rfl⟩
  case hi => exact invoke26 _ _
  case hc =>
    refine (string_any d0 w a0.1 a0.2).mono ?_
    rintro e w3 ⟨s0, rfl, hb3⟩
    have hF3 : ∀ i name reading k range, w3.tape i (.extern (word name reading k) range) = F name reading k := by rw [hb3.tape]; exact hF'
    have k1 := (hb3.cell (p := ⟨g, 1, none⟩) hg).trans hc1
    have k2 := (hb3.cell (p := ⟨g, 2, none⟩) hg).trans hc2
    clear hF hF' hc0 hc1 hc2
    apply rows_call nextReturned
    case hr =>
      go_simp
      exact ⟨⟨rfl, rfl, rfl⟩, rfl⟩
    case hi => exact invoke26 _ _
    case hc =>
      refine (string_any d1 w3 a1.1 a1.2).mono ?_
      rintro e w4 ⟨s1, rfl, hb4⟩
      have hF4 : ∀ i name reading k range, w4.tape i (.extern (word name reading k) range) = F name reading k := by rw [hb4.tape]; exact hF3
      have k3 := (hb4.cell (p := ⟨g, 2, none⟩) (Nat.lt_of_lt_of_le hg hb3.size)).trans k2
      clear hF3 k1 k2
      apply rows_call nextReturned
      case hr =>
        go_simp
        exact ⟨⟨rfl, rfl, rfl⟩, rfl⟩
      case hi => exact invoke26 _ _
      case hc =>
        refine (string_any d2 w4 a2.1 a2.2).mono ?_
        rintro e w5 ⟨s2, rfl, hb5⟩
        have hF5 : ∀ i name reading k range, w5.tape i (.extern (word name reading k) range) = F name reading k := by rw [hb5.tape]; exact hF4
        clear hF4 k3
        apply rows_value nextReturned
        case hr =>
          go_simp
          exact ⟨rfl, rfl⟩
        case h =>
          go_wp2_with fail
          go_ret
          have hb34 := hb3.trans (hb4.mono hb3.size)
          have hb35 := hb34.trans (hb5.mono hb34.size)
          exact ⟨_, rfl, plain_new w5 _, (hb35.alloc hb35.size _).drew⟩

end Go.Proofs.YbulkcgmwFmt.Du
