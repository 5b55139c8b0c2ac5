import Derived.Test.YbulkcghmAdv
namespace Go.Proofs.Ybulkcghm.Lm
open Go.RowKit Go.Deep Go.Proofs.Ybulkcghm.Tm
set_option linter.unusedVariables false

/-- A bucket's five cells stored. -/
def st5 (w : World) (L o T : Nat) (za zb : Int) : World :=
  ((((w.setCell ⟨L, o, none⟩ (.float .f64 T)).setCell ⟨L, o + 1, none⟩ (.float .f64 0)).setCell ⟨L, o + 2, none⟩ (.int .u64 za)).setCell ⟨L, o + 3, none⟩ (.int .i64 zb)).setCell ⟨L, o + 4, none⟩ (.pointer none)

attribute [local go_sem] run_store_float in
set_option maxHeartbeats 8000000 in
set_option maxRecDepth 100000 in
/-- The bucket is not full: its tokens fall. -/
theorem take_some (L o : Nat) (n za zb ta tb : Int) (r T N A fb D : Nat) (w : World) (hL : L < w.heap.size) (hfb : floatOfInt .f64 n = fb)
    (c0 : w.cell? ⟨L, o, none⟩ = some (.float .f64 T)) (c1 : w.cell? ⟨L, o + 1, none⟩ = some (.float .f64 0)) (c2 : w.cell? ⟨L, o + 2, none⟩ = some (.int .u64 za)) (c3 : w.cell? ⟨L, o + 3, none⟩ = some (.int .i64 zb)) (c4 : w.cell? ⟨L, o + 4, none⟩ = some (.pointer none)) (f0 : w.frozen? ⟨L, o, none⟩ = false)
    (hne : (FloatKind.f64.format.order A fb == some .eq) = false) (hsub : floatBits .sub .f64 T N = some D)
    (HA : Hid (Ret 50 #[.agg #[.float .f64 T, .float .f64 0, .int .u64 za, .int .i64 zb, .pointer none], .agg #[.int .u64 ta, .int .i64 tb, .pointer none], .float .f64 r, .int .i64 n] (.float .f64 A))) :
    Calls Yba.prog 52 #[.pointer (some ⟨L, o, none⟩), .agg #[.int .u64 ta, .int .i64 tb, .pointer none], .float .f64 N, .float .f64 r, .int .i64 n] w fun e w' => e = .returned (.tuple #[]) ∧ ∃ w1, Below w.heap.size w w1 ∧ w' = w1.setCell ⟨L, o, none⟩ (.float .f64 D) := by
  have hs := fun t (W : World) => run_float_arith (P := Yba.prog) W .sub t .f64 _ _ _ hsub
  clear hsub
  go_enter Yba.func52, Yba.ntmps52
  go_upto_region 1 with (fail)
  go_region_with (go_at_call 50; refine (HA.out _).mono ?_; rintro e w3 ⟨rfl, hB⟩)
  all_goals
    have B := hideP (bt (al (Below.refl _ w) _).drew hB)
    have k0 := (B.out.cell (p := ⟨L, o, none⟩) hL).trans c0
    have g0 := (B.out.frozen (p := ⟨L, o, none⟩) hL).trans f0
    clear hB c0 c1 c2 c3 c4 f0
    go_wp2_with fail
    go_end0
    exact ⟨rfl, _, B.out, rfl⟩

attribute [local go_sem] run_store_float in
set_option maxHeartbeats 8000000 in
set_option maxRecDepth 100000 in
/-- The bucket is full: it is anchored anew, and its tokens fall. -/
theorem take_full (L o : Nat) (n za zb ta tb : Int) (r T N A fb D : Nat) (w : World) (hL : L < w.heap.size) (hfb : floatOfInt .f64 n = fb)
    (c0 : w.cell? ⟨L, o, none⟩ = some (.float .f64 T)) (c1 : w.cell? ⟨L, o + 1, none⟩ = some (.float .f64 0)) (c2 : w.cell? ⟨L, o + 2, none⟩ = some (.int .u64 za)) (c3 : w.cell? ⟨L, o + 3, none⟩ = some (.int .i64 zb)) (c4 : w.cell? ⟨L, o + 4, none⟩ = some (.pointer none)) (f : ∀ k, w.frozen? ⟨L, k, none⟩ = false)
    (hne : (FloatKind.f64.format.order A fb == some .eq) = true) (hsub : floatBits .sub .f64 fb N = some D)
    (HA : Hid (Ret 50 #[.agg #[.float .f64 T, .float .f64 0, .int .u64 za, .int .i64 zb, .pointer none], .agg #[.int .u64 ta, .int .i64 tb, .pointer none], .float .f64 r, .int .i64 n] (.float .f64 A))) :
    Calls Yba.prog 52 #[.pointer (some ⟨L, o, none⟩), .agg #[.int .u64 ta, .int .i64 tb, .pointer none], .float .f64 N, .float .f64 r, .int .i64 n] w fun e w' => e = .returned (.tuple #[]) ∧ ∃ w1, Below w.heap.size w w1 ∧ w' = (st5 w1 L o fb ta tb).setCell ⟨L, o, none⟩ (.float .f64 D) := by
  have hs := fun t (W : World) => run_float_arith (P := Yba.prog) W .sub t .f64 _ _ _ hsub
  clear hsub
  go_enter Yba.func52, Yba.ntmps52
  go_upto_region 1 with (fail)
  go_region_with (go_at_call 50; refine (HA.out _).mono ?_; rintro e w3 ⟨rfl, hB⟩)
  all_goals
    have B := hideP (bt (al (Below.refl _ w) _).drew hB)
    have b0 := blk_below (blk_dr (blk_new w (.cells #[.int .u64 ta, .int .i64 tb, .pointer none] 31))) hB (by simp)
    have m0 : w3.cell? ⟨w.heap.size, 0, none⟩ = some (.int .u64 ta) := blk_cell b0 rfl
    have m1 : w3.cell? ⟨w.heap.size, 1, none⟩ = some (.int .i64 tb) := blk_cell b0 rfl
    have m2 : w3.cell? ⟨w.heap.size, 2, none⟩ = some (.pointer none) := blk_cell b0 rfl
    have k0 := (B.out.cell (p := ⟨L, o, none⟩) hL).trans c0
    have k1 := (B.out.cell (p := ⟨L, o + 1, none⟩) hL).trans c1
    have k2 := (B.out.cell (p := ⟨L, o + 2, none⟩) hL).trans c2
    have k3 := (B.out.cell (p := ⟨L, o + 3, none⟩) hL).trans c3
    have k4 := (B.out.cell (p := ⟨L, o + 4, none⟩) hL).trans c4
    have g0 := fun k => (B.out.frozen (p := ⟨L, k, none⟩) hL).trans (f k)
    have hneL : ¬ L = w.heap.size := by omega
    clear hB c0 c1 c2 c3 c4 f b0
    go_wp2_with fail
    go_end0
    exact ⟨rfl, _, B.out, rfl⟩

end Go.Proofs.Ybulkcghm.Lm
