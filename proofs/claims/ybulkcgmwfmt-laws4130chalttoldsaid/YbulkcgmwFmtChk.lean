import Derived.Test.YbulkcgmwFmtMem
namespace Go.Proofs.YbulkcgmwFmt.Du
open Go.RowKit Go.Deep
open Go.Extern.Stop Go.Stop Go.Extern
set_option linter.unusedVariables false
set_option linter.unusedSimpArgs false

set_option maxHeartbeats 800000 in
set_option maxRecDepth 100000 in
theorem errorsNew (s : ByteArray) (w : World) :
    Calls Ybaf.prog 7 #[.string s] w fun e w' => ∃ p, e = .returned (.iface 45 p) ∧ Below w.heap.size w w' := by
  go_enter Ybaf.func7, Ybaf.ntmps7
  go_wp2_with fail
  go_ret
  exact ⟨_, rfl, (Below.refl _ _).alloc (Nat.le_refl _) _⟩

set_option maxHeartbeats 800000 in
set_option maxRecDepth 100000 in
theorem tmin_ok (a b : Int) (w : World) (h1 : 10000000 ≤ a) (h2 : a ≤ b) :
    Calls Ybaf.prog 8 #[.int .i64 a, .int .i64 b] w fun e w' => e = .returned .nilIface ∧ w' = w := by
  have g1 : decide (a < 10000000) = false := by simp; omega
  have g2 : decide (b < a) = false := by simp; omega
  go_enter Ybaf.func8, Ybaf.ntmps8
  go_wp2_with fail
  go_ret
  exact ⟨rfl, rfl⟩

set_option maxHeartbeats 800000 in
set_option maxRecDepth 100000 in
theorem tmin_bad (F : Interp) (a b : Int) (w : World) (hF : F.answers w.tape) (h : ¬ (10000000 ≤ a ∧ a ≤ b))
    (ha : -9223372036854775808 ≤ a ∧ a ≤ 9223372036854775807) (hb : -9223372036854775808 ≤ b ∧ b ≤ 9223372036854775807) :
    Calls Ybaf.prog 8 #[.int .i64 a, .int .i64 b] w fun e w' => ∃ v, e = .returned v ∧ Plain v w' ∧ Below w.heap.size w w' := by
  have HE := hideP (errorf5 F w.heap.size a 10000000 b (w.alloc (.cells #[.iface 26 (.int .i64 a), .iface 26 (.int .i64 10000000), .iface 26 (.int .i64 b)] 20)) hF (by simp) (by go_simp) (by go_simp) (by go_simp) ha (by omega) hb)
  have hbel : Below w.heap.size w (w.alloc (.cells #[.iface 26 (.int .i64 a), .iface 26 (.int .i64 10000000), .iface 26 (.int .i64 b)] 20)) := (Below.refl _ _).alloc (Nat.le_refl _) _
  have hsz : w.heap.size ≤ (w.alloc (.cells #[.iface 26 (.int .i64 a), .iface 26 (.int .i64 10000000), .iface 26 (.int .i64 b)] 20)).heap.size := by simp
  clear hF
  by_cases g : a < 10000000
  · have g1 : decide (a < 10000000) = true := by simp; omega
    clear ha hb h
    go_enter Ybaf.func8, Ybaf.ntmps8
    go_wp2_with fail
    refine Calls.mono HE.out ?_
    rintro e w' ⟨v, rfl, hp, hb'⟩
    have HP := hideP (And.intro hp (hbel.trans (hb'.mono hsz)))
    clear hp hb' HE hbel hsz
    go_wp2_with fail
    go_ret
    exact ⟨_, rfl, HP.out.1, HP.out.2⟩
  · have g1 : decide (a < 10000000) = false := by simp; omega
    have g2 : decide (b < a) = true := by simp; omega
    clear ha hb h
    go_enter Ybaf.func8, Ybaf.ntmps8
    go_wp2_with fail
    refine Calls.mono HE.out ?_
    rintro e w' ⟨v, rfl, hp, hb'⟩
    have HP := hideP (And.intro hp (hbel.trans (hb'.mono hsz)))
    clear hp hb' HE hbel hsz
    go_wp2_with fail
    go_ret
    exact ⟨_, rfl, HP.out.1, HP.out.2⟩

end Go.Proofs.YbulkcgmwFmt.Du
