import Derived.Test.YbulkcghmTake
namespace Go.Proofs.Ybulkcghm.Lm
open Go.RowKit Go.Deep Go.Proofs.Ybulkcghm.Tm
set_option linter.unusedVariables false

/-- What a take leaves: tokens and anchor. -/
def TakeR (T : Nat) (z t : Int) (A fb N T' : Nat) (z' : Int) : Prop :=
  ((FloatKind.f64.format.order A fb == some .eq) = true ∧ floatBits .sub .f64 fb N = some T' ∧ z' = t) ∨
  ((FloatKind.f64.format.order A fb == some .eq) = false ∧ floatBits .sub .f64 T N = some T' ∧ z' = z)

/-- A bucket's arguments to 'at'. -/
def atArgs (T : Nat) (z t : Int) (r : Nat) (n : Int) : Array Value :=
  #[.agg #[.float .f64 T, .float .f64 0, .int .u64 (z % 1000000000), .int .i64 (z / 1000000000), .pointer none], .agg #[.int .u64 (t % 1000000000), .int .i64 (t / 1000000000), .pointer none], .float .f64 r, .int .i64 n]

theorem arr5a (mu : Int) (r : Nat) (n : Int) (T : Nat) (z l : Int) (T2 : Nat) (z2 : Int) (D : Nat) : (lc mu r n T z l T2 z2).setIfInBounds 5 (.float .f64 D) = lc mu r n D z l T2 z2 := by
  unfold lc; simp
theorem arr13a (mu : Int) (r : Nat) (n : Int) (T : Nat) (z l : Int) (T2 : Nat) (z2 : Int) (D : Nat) : (lc mu r n T z l T2 z2).setIfInBounds 13 (.float .f64 D) = lc mu r n T z l D z2 := by
  unfold lc; simp
theorem arr5b (mu : Int) (r : Nat) (n : Int) (T : Nat) (z l : Int) (T2 : Nat) (z2 t : Int) (F D : Nat) :
    ((((((lc mu r n T z l T2 z2).setIfInBounds 5 (.float .f64 F)).setIfInBounds (5 + 1) (.float .f64 0)).setIfInBounds (5 + 2) (.int .u64 (t % 1000000000))).setIfInBounds (5 + 3) (.int .i64 (t / 1000000000))).setIfInBounds (5 + 4) (.pointer none)).setIfInBounds 5 (.float .f64 D) = lc mu r n D t l T2 z2 := by
  unfold lc
  generalize t % 1000000000 = ta
  generalize t / 1000000000 = tb
  generalize z % 1000000000 = za
  generalize z / 1000000000 = zb
  generalize l % 1000000000 = la
  generalize l / 1000000000 = lb
  generalize z2 % 1000000000 = ya
  generalize z2 / 1000000000 = yb
  simp
theorem arr13b (mu : Int) (r : Nat) (n : Int) (T : Nat) (z l : Int) (T2 : Nat) (z2 t : Int) (F D : Nat) :
    ((((((lc mu r n T z l T2 z2).setIfInBounds 13 (.float .f64 F)).setIfInBounds (13 + 1) (.float .f64 0)).setIfInBounds (13 + 2) (.int .u64 (t % 1000000000))).setIfInBounds (13 + 3) (.int .i64 (t / 1000000000))).setIfInBounds (13 + 4) (.pointer none)).setIfInBounds 13 (.float .f64 D) = lc mu r n T z l D t := by
  unfold lc
  generalize t % 1000000000 = ta
  generalize t / 1000000000 = tb
  generalize z % 1000000000 = za
  generalize z / 1000000000 = zb
  generalize l % 1000000000 = la
  generalize l / 1000000000 = lb
  generalize z2 % 1000000000 = ya
  generalize z2 / 1000000000 = yb
  simp

theorem btake5 {L : Nat} {mu : Int} {r : Nat} {n : Int} {T : Nat} {z l : Int} {T2 : Nat} {z2 t : Int} {A fb N T' : Nat} {z' : Int} (hfb : floatOfInt .f64 n = fb) (hT : TakeR T z t A fb N T' z') (HA : Ret 50 (atArgs T z t r n) (.float .f64 A)) (w : World) (h : Lim w L mu r n T z l T2 z2) :
    Calls Yba.prog 52 #[.pointer (some ⟨L, 5, none⟩), .agg #[.int .u64 (t % 1000000000), .int .i64 (t / 1000000000), .pointer none], .float .f64 N, .float .f64 r, .int .i64 n] w fun e w' => e = .returned (.tuple #[]) ∧ Lim w' L mu r n T' z' l T2 z2 ∧ OnlyL L w w' := by
  unfold atArgs at HA
  rcases hT with ⟨h1, h2, e⟩ | ⟨h1, h2, e⟩ <;> rw [e]
  · refine (take_full L 5 n (z % 1000000000) (z / 1000000000) (t % 1000000000) (t / 1000000000) r T N A fb T' w (blk_lt h) hfb h.c5 h.c6 h.c7 h.c8 h.c9 (blk_free h) h1 h2 HA).mono ?_
    rintro e w' ⟨rfl, w1, hB, rfl⟩
    refine ⟨rfl, ?_, ((((((Below.only hB).set _ _).set _ _).set _ _).set _ _).set _ _).set _ _⟩
    have := blk_set (blk_set (blk_set (blk_set (blk_set (blk_set (h.below hB) 5 (.float .f64 fb)) (5 + 1) (.float .f64 0)) (5 + 2) (.int .u64 (t % 1000000000))) (5 + 3) (.int .i64 (t / 1000000000))) (5 + 4) (.pointer none)) 5 (.float .f64 T')
    rw [arr5b] at this
    exact this
  · refine (take_some L 5 n (z % 1000000000) (z / 1000000000) (t % 1000000000) (t / 1000000000) r T N A fb T' w (blk_lt h) hfb h.c5 h.c6 h.c7 h.c8 h.c9 (blk_free h 5) h1 h2 HA).mono ?_
    rintro e w' ⟨rfl, w1, hB, rfl⟩
    refine ⟨rfl, ?_, (Below.only hB).set _ _⟩
    have := blk_set (h.below hB) 5 (.float .f64 T')
    rw [arr5a] at this
    exact this

theorem btake13 {L : Nat} {mu : Int} {r : Nat} {n : Int} {T : Nat} {z l : Int} {T2 : Nat} {z2 t : Int} {A fb N T' : Nat} {z' : Int} (hfb : floatOfInt .f64 n = fb) (hT : TakeR T2 z2 t A fb N T' z') (HA : Ret 50 (atArgs T2 z2 t r n) (.float .f64 A)) (w : World) (h : Lim w L mu r n T z l T2 z2) :
    Calls Yba.prog 52 #[.pointer (some ⟨L, 13, none⟩), .agg #[.int .u64 (t % 1000000000), .int .i64 (t / 1000000000), .pointer none], .float .f64 N, .float .f64 r, .int .i64 n] w fun e w' => e = .returned (.tuple #[]) ∧ Lim w' L mu r n T z l T' z' ∧ OnlyL L w w' := by
  unfold atArgs at HA
  rcases hT with ⟨h1, h2, e⟩ | ⟨h1, h2, e⟩ <;> rw [e]
  · refine (take_full L 13 n (z2 % 1000000000) (z2 / 1000000000) (t % 1000000000) (t / 1000000000) r T2 N A fb T' w (blk_lt h) hfb h.c13 h.c14 h.c15 h.c16 h.c17 (blk_free h) h1 h2 HA).mono ?_
    rintro e w' ⟨rfl, w1, hB, rfl⟩
    refine ⟨rfl, ?_, ((((((Below.only hB).set _ _).set _ _).set _ _).set _ _).set _ _).set _ _⟩
    have := blk_set (blk_set (blk_set (blk_set (blk_set (blk_set (h.below hB) 13 (.float .f64 fb)) (13 + 1) (.float .f64 0)) (13 + 2) (.int .u64 (t % 1000000000))) (13 + 3) (.int .i64 (t / 1000000000))) (13 + 4) (.pointer none)) 13 (.float .f64 T')
    rw [arr13b] at this
    exact this
  · refine (take_some L 13 n (z2 % 1000000000) (z2 / 1000000000) (t % 1000000000) (t / 1000000000) r T2 N A fb T' w (blk_lt h) hfb h.c13 h.c14 h.c15 h.c16 h.c17 (blk_free h 13) h1 h2 HA).mono ?_
    rintro e w' ⟨rfl, w1, hB, rfl⟩
    refine ⟨rfl, ?_, (Below.only hB).set _ _⟩
    have := blk_set (h.below hB) 13 (.float .f64 T')
    rw [arr13a] at this
    exact this

set_option maxHeartbeats 8000000 in
set_option maxRecDepth 100000 in
theorem use_any {L : Nat} {mu : Int} {r : Nat} {n : Int} {T : Nat} {z l : Int} {T2 : Nat} {z2 t : Int} {A fb N T' : Nat} {z' : Int} (hfb : floatOfInt .f64 n = fb) (hT : TakeR T2 z2 t A fb N T' z') (HA : Ret 50 (atArgs T2 z2 t r n) (.float .f64 A)) (w : World) (h : Lim w L mu r n T z l T2 z2) :
    Calls Yba.prog 35 #[.pointer (some ⟨L, 0, none⟩), tv t, .float .f64 N] w fun e w' => e = .returned (.tuple #[]) ∧ Lim w' L mu r n T z l T' z' ∧ OnlyL L w w' := by
  have HB := hideP (btake13 (L := L) (mu := mu) (T := T) (z := z) (l := l) hfb hT HA)
  have HI : Hid (Lim w L mu r n T z l T2 z2) := h
  have hL := blk_lt h
  have c3 := h.c3
  have c4 := h.c4
  clear h hT HA hfb
  simp only [tv]
  generalize t % 1000000000 = ta at *
  generalize t / 1000000000 = tb at *
  go_enter Yba.func35, Yba.ntmps35
  go_wp2_with fail
  go_region_with (go_at_call 52; refine (HB.out _ (blk_dr (blk_alloc HI.out _))).mono ?_; rintro e w3 ⟨rfl, hl, hO⟩)
  all_goals
    go_wp2_with fail
    go_end0
    exact ⟨rfl, hl, ((OnlyL.refl L w).alloc _).drew.trans hO⟩

set_option maxHeartbeats 8000000 in
set_option maxRecDepth 100000 in
theorem take_any {L : Nat} {mu : Int} {r : Nat} {n : Int} {T : Nat} {z l : Int} {T2 : Nat} {z2 t k : Int} {A fb N T' : Nat} {z' : Int} (hfb : floatOfInt .f64 n = fb) (hN : floatOfInt .f64 k = N) (hT : TakeR T z t A fb N T' z') (HA : Ret 50 (atArgs T z t r n) (.float .f64 A)) (w : World) (h : Lim w L mu r n T z l T2 z2) :
    Calls Yba.prog 34 #[.pointer (some ⟨L, 0, none⟩), tv t, .int .i64 k] w fun e w' => e = .returned (.tuple #[]) ∧ Lim w' L mu r n T' z' t T2 z2 ∧ OnlyL L w w' := by
  have HB := hideP (btake5 (L := L) (mu := mu) (l := t) (T2 := T2) (z2 := z2) hfb hT HA)
  have HV : Hid (∀ w, Lim w L mu r n T z l T2 z2 → _) := fun w => advance_any L mu r n T z l T2 z2 t w
  have HI : Hid (Lim w L mu r n T z l T2 z2) := h
  have hL := blk_lt h
  clear h hT HA hfb
  simp only [tv] at HV ⊢
  generalize t % 1000000000 = ta at *
  generalize t / 1000000000 = tb at *
  go_enter Yba.func34, Yba.ntmps34
  go_wp2_with fail
  refine (HV.out _ (blk_alloc HI.out _)).mono ?_
  rintro e w1 ⟨rfl, hl, hO⟩
  have b0 := (hO.block w.heap.size (by simp) (by omega)).trans (blk_new w _)
  have k0 : w1.cell? ⟨w.heap.size, 0, none⟩ = some (.int .u64 ta) := blk_cell b0 rfl
  have k1 : w1.cell? ⟨w.heap.size, 1, none⟩ = some (.int .i64 tb) := blk_cell b0 rfl
  have k2 : w1.cell? ⟨w.heap.size, 2, none⟩ = some (.pointer none) := blk_cell b0 rfl
  have c3 := hl.c3
  have c4 := hl.c4
  have c29 := hl.c29
  have O := hideP (((OnlyL.refl L w).alloc _).trans hO)
  have HI' := hideP hl
  clear hO b0 hl HI HV
  go_wp2_with fail
  go_region_with (go_at_call 52; refine (HB.out _ (blk_dr HI'.out)).mono ?_; rintro e w3 ⟨rfl, hl3, hO3⟩)
  all_goals
    go_wp2_with fail
    go_end0
    exact ⟨rfl, hl3, O.out.drew.trans hO3⟩

end Go.Proofs.Ybulkcghm.Lm
