/- The proof of 'Rows.LawS4120AScriptSaid': the walk is Lm.script_any and Lm.script_long; the slice of steps is opened by open_slice_pairs. -/
import Derived.Test.YbulkcghmRows
import Derived.Test.YbulkcghmScript
import Derived.WalkKit
import Derived.ProofKit
import Derived.OpenShut
import Derived.ShutString
import Derived.ChangeOld
import Derived.Below
import Derived.Deep.SlicePairs
namespace Go.Proofs.Ybulkcghm.lawS4120AScript
open Go.ChangeShapes Go.WideShapes Go.ChangeAt Go.RowKit Go.Deep
open Go.ChangeMaps (open_string shut_string)
set_option linter.unusedVariables false

theorem own : ownKnob Yba.prog.godebug = none := by kernel_rfl
theorem laidOut : laidOutB Yba.prog = true := by kernel_rfl
theorem cells40 : Yba.prog.cellsOf 40 = 2 := by kernel_rfl
theorem cells3 : Yba.prog.cellsOf 3 = 1 := by kernel_rfl
theorem cells2 : Yba.prog.cellsOf 2 = 1 := by kernel_rfl

/-- What the walk is told of the slice of steps: nil, or a row of pairs of numbers. -/
def IsSteps (w : World) (a : Option Addr) (len : Nat) (N D : Nat → Int) : Prop :=
  (a = none ∧ len = 0) ∨
  ∃ x, a = some x ∧ len ≤ maxLen ∧ ∀ i, i < len → w.cell? (x.add (i * 2)) = some (.int .i64 (N i)) ∧ w.cell? (x.add (i * 2 + 1)) = some (.int .i64 (D i)) ∧ (Lit.int .i64 (N i)).wf = true ∧ (Lit.int .i64 (D i)).wf = true

theorem add_none (b off n : Nat) : (⟨b, off, none⟩ : Addr).add n = ⟨b, off + n, none⟩ := by
  unfold Addr.add
  split
  · rename_i h; simp only [h, Nat.add_zero]
  · rfl

theorem walk (a0 : Int) (a1 : Option Addr) (len cap : Nat) (N D : Nat → Int) (w : World) (w0 : (Lit.int .u16 a0).wf = true) (w1 : IsSteps w a1 len N D) :
    Calls Yba.prog 4 #[.int .u16 a0, .slice a1 len cap] w fun e w' => e = .returned (.bool true) ∧ Below w.heap.size w w' := by
  obtain ⟨p0, q0⟩ := bounds_u16 w0
  have hb : a0 % 1001 = ((a0 % 1001).toNat : Int) := by omega
  rcases w1 with ⟨rfl, rfl⟩ | ⟨x, rfl, hm, hc⟩
  · exact Lm.script_any a0 _ p0 q0 hb none 0 cap N D w (by omega) (fun i hi => absurd hi (Nat.not_lt_zero _)) (fun i hi => absurd hi (Nat.not_lt_zero _)) (fun i hi => absurd hi (Nat.not_lt_zero _))
  · by_cases h : len ≤ 1024
    · refine Lm.script_any a0 _ p0 q0 hb (some x) len cap N D w h (fun i hi => bounds_i64 (hc i hi).2.2.1) (fun i hi => bounds_i64 (hc i hi).2.2.2) (fun i hi => ?_)
      obtain ⟨b, off, spot⟩ := x
      have hspot : spot = none := by simpa [Addr.add] using World.cell?_spot (hc 0 (by omega)).1
      subst hspot
      obtain ⟨g0, g1, _, _⟩ := hc i hi
      rw [add_none] at g0 g1
      exact ⟨b, off, World.block_lt_of_cell? _ _ g0, rfl, g0, g1⟩
    · have hmax : maxLen ≤ 9223372036854775807 := by decide +kernel
      exact Lm.script_long a0 (some x) len cap w (by omega) (by omega)

set_option maxRecDepth 100000 in
theorem lifted (os : Os) (started : os.Started) (H : Type) (enc : TypeId × Value → H) :
    ReturnsInHanded {} Yba.checked os 4 .any (Rows.lawS4120AScriptSpec.pre6 enc Yba.prog Yba.f4 Rows.lawS4120AScriptRow.domain false) (Rows.lawS4120AScriptSpec.post enc Yba.prog Yba.f4 false true false false) := by
  refine returnsInHanded_of_change (C := Yba.checked) own started (by kernel_rfl) Yba.func4
    (ChangeSpec.witness6 (enc := enc) (C := Yba.checked) false ⟨#[], #[.int .u16 0, .slice none 0 0], []⟩ 8 (by kernel_rfl) (by kernel_rfl) (by kernel_rfl) (by kernel_rfl)) ?_
  intro W base args ds gs before hval0 hW hcnd _
  have hval : ∀ (j : Nat) t v, Yba.f4.params[j]? = some t → args[j]? = some v → Value.okWide Yba.prog W .any base t v := hval0
  have hW' := hW
  obtain ⟨p, q, hA0, hV, rfl, hfz, hnd⟩ := hW
  have hA : DataW.TrodAll enc Yba.prog W 0 (fun _ => true) true Yba.f4.params.toList args.toList ds p := hA0
  rw [Yba.params4] at hA hval
  obtain ⟨v0, vs0, d0, ds0, p0, q0, hargs, rfl, rfl, h0, r0⟩ := trodAll_cons hA
  obtain ⟨v1, vs1, d1, ds1, p1, q1, rfl, rfl, rfl, h1, r1⟩ := trodAll_cons r0
  obtain ⟨rfl, rfl, rfl⟩ := trodAll_nil r1
  obtain rfl : args = #[v0, v1] := by cases args; simp_all
  obtain ⟨rfl, rfl⟩ := trodVars_none hV
  obtain ⟨a0, rfl, rfl, rfl, w0⟩ := open_int Yba.underlying22 (hval 0 22 v0 rfl rfl) h0
  obtain ⟨a1, len1, cap1, rfl⟩ := okWide_slice Yba.underlying38 (hval 1 38 v1 rfl rfl)
  have k1 := h1
  have lt1 : ∀ x ∈ p1, x.block < W.heap.size := by obtain ⟨m, hm⟩ := k1; exact DataW.trod_lt m _ _ _ hm
  obtain ⟨N, D, w1⟩ : ∃ N D, IsSteps W a1 len1 N D := by
    obtain ⟨fuel, hf⟩ := h1
    rcases open_slice_pairs Yba.underlying38 Yba.underlying40 cells40 rfl rfl cells3 cells2 hf with ⟨hcs, _⟩ | ⟨x, l, c, m, k, V0, V1, D0, D1, P0, P1, hcs, _, hl, hm, hmm, _, hall⟩
    · simp [Value.cells] at hcs
      obtain ⟨rfl, rfl, rfl⟩ := hcs
      exact ⟨fun _ => 0, fun _ => 0, .inl ⟨rfl, rfl⟩⟩
    · simp [Value.cells] at hcs
      obtain ⟨rfl, rfl, rfl⟩ := hcs
      simp only [if_true] at hmm
      have e0 : ∀ i, ∃ n, i < len1 → V0 i = .int .i64 n ∧ (Lit.int .i64 n).wf = true := fun i => by
        by_cases hi : i < len1
        · obtain ⟨n, h1, h2, h3⟩ := DataW.trod_int Yba.underlying3 (hall i (by omega)).2.2.1
          simp only [List.cons.injEq, and_true] at h1
          exact ⟨n, fun _ => ⟨h1, h3⟩⟩
        · exact ⟨0, fun h => absurd h hi⟩
      have e1 : ∀ i, ∃ n, i < len1 → V1 i = .int .i64 n ∧ (Lit.int .i64 n).wf = true := fun i => by
        by_cases hi : i < len1
        · obtain ⟨n, h1, h2, h3⟩ := DataW.trod_int Yba.underlying2 (hall i (by omega)).2.2.2
          simp only [List.cons.injEq, and_true] at h1
          exact ⟨n, fun _ => ⟨h1, h3⟩⟩
        · exact ⟨0, fun h => absurd h hi⟩
      refine ⟨fun i => (e0 i).choose, fun i => (e1 i).choose, .inr ⟨_, rfl, by omega, fun i hi => ?_⟩⟩
      obtain ⟨g0, g1, _, _⟩ := hall i (by omega)
      obtain ⟨f0, f1⟩ := (e0 i).choose_spec hi
      obtain ⟨f2, f3⟩ := (e1 i).choose_spec hi
      exact ⟨by rw [g0, f0], by rw [g1, f2], f1, f3⟩
  clear hA0 hval0
  refine (walk a0 a1 len1 cap1 N D W w0 w1).mono fun e W' ⟨he, bel⟩ => ?_
  subst he
  exact ⟨_, rfl, _, _, _, [], _, [], hW', trodAll_mk1 (shut_bool Yba.underlying4 _), (trodAll_cons_mk (shut_int Yba.underlying22 w0) (trodAll_cons_mk (Below.trod laidOut (by kernel_rfl) (of_decide_eq_true (by kernel_rfl)) k1 bel lt1) trodAll_mk0)), rfl, bel.frame _, fun h => by cases h⟩

theorem over : Rows.lawS4120AScriptRow.holds Yba.pinned (OpenSpec.ofChange Rows.lawS4120AScriptSpec) :=
  OpenClaim.holds_of_wide 4 Yba.f4 rfl rfl rfl rfl rfl rfl rfl ⟨rfl, rfl, rfl, rfl, rfl⟩ rfl rfl rfl rfl rfl (by kernel_rfl) Yba.func4 (by kernel_rfl)
    (of_decide_eq_true (by kernel_rfl)) (by unfold Func.isWrapper; first | (rw [if_pos (by decide +kernel)]; kernel_rfl) | (rw [if_neg (by decide +kernel)]; exact ⟨rfl, rfl⟩))
    (fun os started H enc _ => lifted os started H enc)

/-- The statement. -/
theorem proved : Rows.LawS4120AScriptSaid := over
end Go.Proofs.Ybulkcghm.lawS4120AScript
