import Derived.Test.YbulkcghmSoD
namespace Go.Proofs.Ybulkcghm.So
open Go.RowKit
open Go.Sort (swp size_swp ltInt)
set_option linter.unusedVariables false

def hintI : Go.Sort.Hint → Int
  | .unknown => 0
  | .increasing => 1
  | .decreasing => 2

theorem Sw.below {w : World} {s : Nat} {wx : World} (h : Sw w w.heap.size s wx) : Below w.heap.size w wx := ⟨h.os, h.tape, h.output, h.size, fun k hk => h.block k hk (by omega)⟩

theorem Sw.new (w : World) : Sw w w.heap.size 0 (w.alloc (.cells #[.int .i64 0] 3)) := by
  refine ⟨rfl, rfl, rfl, by simp, fun k hk _ => Below.heap_alloc _ _ _ hk, ?_⟩
  show (w.heap.push _)[w.heap.size]? = _
  rw [Array.getElem?_push, if_pos rfl]
  rfl

def hintOf (s : Nat) : Go.Sort.Hint := if s = 0 then .increasing else if s = 12 then .decreasing else .unknown

/-- choosePivot's four calls, or its one. -/
theorem choose_eq (d : Array Int) (a l : Nat) (h : 8 ≤ l) : Go.Sort.choosePivot ltInt d a (a + l) =
    (if 50 ≤ l then
      ((Go.Sort.median ltInt d (Go.Sort.medianAdjacent ltInt d (a + l / 4) 0).1 (Go.Sort.medianAdjacent ltInt d (a + l / 4 * 2) (Go.Sort.medianAdjacent ltInt d (a + l / 4) 0).2).1 (Go.Sort.medianAdjacent ltInt d (a + l / 4 * 3) (Go.Sort.medianAdjacent ltInt d (a + l / 4 * 2) (Go.Sort.medianAdjacent ltInt d (a + l / 4) 0).2).2).1 (Go.Sort.medianAdjacent ltInt d (a + l / 4 * 3) (Go.Sort.medianAdjacent ltInt d (a + l / 4 * 2) (Go.Sort.medianAdjacent ltInt d (a + l / 4) 0).2).2).2).1,
       hintOf (Go.Sort.median ltInt d (Go.Sort.medianAdjacent ltInt d (a + l / 4) 0).1 (Go.Sort.medianAdjacent ltInt d (a + l / 4 * 2) (Go.Sort.medianAdjacent ltInt d (a + l / 4) 0).2).1 (Go.Sort.medianAdjacent ltInt d (a + l / 4 * 3) (Go.Sort.medianAdjacent ltInt d (a + l / 4 * 2) (Go.Sort.medianAdjacent ltInt d (a + l / 4) 0).2).2).1 (Go.Sort.medianAdjacent ltInt d (a + l / 4 * 3) (Go.Sort.medianAdjacent ltInt d (a + l / 4 * 2) (Go.Sort.medianAdjacent ltInt d (a + l / 4) 0).2).2).2).2)
    else ((Go.Sort.median ltInt d (a + l / 4) (a + l / 4 * 2) (a + l / 4 * 3) 0).1, hintOf (Go.Sort.median ltInt d (a + l / 4) (a + l / 4 * 2) (a + l / 4 * 3) 0).2)) := by
  unfold Go.Sort.choosePivot hintOf
  simp only [show a + l - a = l by omega, Nat.mul_one, ge_iff_le, if_pos h]
  split <;> rfl

set_option maxHeartbeats 1000000 in
set_option maxRecDepth 100000 in
theorem choose_u (g off n cap a b : Nat) (d : Array Int) (w : World) (hR : Row w g off n d w) (hg : g < w.heap.size) (hab : a + 12 < b) (hb : b ≤ n) (hn : n ≤ 1024) :
    Calls Yba.prog 59 #[.slice (some ⟨g, off, none⟩) n cap, .int .i64 a, .int .i64 b] w fun e w' =>
      e = .returned (.tuple #[.int .i64 ((Go.Sort.choosePivot ltInt d a b).1 : Int), .int .i64 (hintI (Go.Sort.choosePivot ltInt d a b).2)]) ∧ Below w.heap.size w w' := by
  obtain ⟨l, rfl⟩ : ∃ l, b = a + l := ⟨b - a, by omega⟩
  have ha2 : a ≤ 1024 := by omega
  have hl2 : l ≤ 1024 := by omega
  rw [choose_eq d a l (by omega)]
  have i1 : 1 ≤ a + l / 4 := by omega
  have i2 : a + l / 4 + 1 < n := by omega
  have j1 : 1 ≤ a + l / 4 * 2 := by omega
  have j2 : a + l / 4 * 2 + 1 < n := by omega
  have k1 : 1 ≤ a + l / 4 * 3 := by omega
  have k2 : a + l / 4 * 3 + 1 < n := by omega
  have hgs : g ≠ w.heap.size := by omega
  have e0 : (a : Int) + (l : Int) - (a : Int) = (l : Int) := by omega
  have e1 : (a : Int) + (l : Int) / 4 = ((a + l / 4 : Nat) : Int) := by omega
  have e2 : (a : Int) + (l : Int) / 4 * 2 = ((a + l / 4 * 2 : Nat) : Int) := by omega
  have e3 : (a : Int) + (l : Int) / 4 * 3 = ((a + l / 4 * 3 : Nat) : Int) := by omega
  generalize a + l / 4 = i at *
  generalize a + l / 4 * 2 = j at *
  generalize a + l / 4 * 3 = k at *
  have HE := hideP (And.intro e0 (And.intro e1 (And.intro e2 e3)))
  clear e0 e1 e2 e3
  have t8 : decide ((8 : Int) ≤ (l : Int)) = true := by simp; omega
  by_cases h50 : 50 ≤ l
  · rw [if_pos h50]
    have t50 : decide ((50 : Int) ≤ (l : Int)) = true := by simp; omega
    have q1 := median_lt (d := d) (s := 0) (show i - 1 < n by omega) (show i < n by omega) i2
    have H1 := fun wy hy => adjacent_u g off n cap i w.heap.size 0 d w wy hR hg hgs hy i1 i2 hn (by omega)
    rw [show Go.Sort.median ltInt d (i - 1) i (i + 1) 0 = Go.Sort.medianAdjacent ltInt d i 0 from rfl] at q1
    generalize Go.Sort.medianAdjacent ltInt d i 0 = r1 at *
    have q2 := median_lt (d := d) (s := r1.2) (show j - 1 < n by omega) (show j < n by omega) j2
    have H2 := fun wy hy => adjacent_u g off n cap j w.heap.size r1.2 d w wy hR hg hgs hy j1 j2 hn (by omega)
    rw [show Go.Sort.median ltInt d (j - 1) j (j + 1) r1.2 = Go.Sort.medianAdjacent ltInt d j r1.2 from rfl] at q2
    generalize Go.Sort.medianAdjacent ltInt d j r1.2 = r2 at *
    have q3 := median_lt (d := d) (s := r2.2) (show k - 1 < n by omega) (show k < n by omega) k2
    have H3 := fun wy hy => adjacent_u g off n cap k w.heap.size r2.2 d w wy hR hg hgs hy k1 k2 hn (by omega)
    rw [show Go.Sort.median ltInt d (k - 1) k (k + 1) r2.2 = Go.Sort.medianAdjacent ltInt d k r2.2 from rfl] at q3
    generalize Go.Sort.medianAdjacent ltInt d k r2.2 = r3 at *
    have H4 := fun wy hy => median_u g off n cap r1.1 r2.1 r3.1 w.heap.size r3.2 d w wy hR hg hgs hy q1.1 q2.1 q3.1 hn (by omega)
    generalize Go.Sort.median ltInt d r1.1 r2.1 r3.1 r3.2 = r4 at *
    have H1 := hideP H1
    have H2 := hideP H2
    have H3 := hideP H3
    have H4 := hideP H4
    have HS := hideP (Sw.new w)
    clear hR q1 q2 q3 i1 i2 j1 j2 k1 k2
    go_enter Yba.func59, Yba.ntmps59
    go_upto_region 6 with (fail)
    obtain ⟨e0, e1, e2, e3⟩ := HE.out
    simp only [e0, e1, e2, e3]
    clear e0 e1 e2 e3 HE
    go_wp2_with fail
    refine Calls.mono (H1.out _ HS.out) ?_
    rintro e w1 ⟨rfl, h1⟩
    have K1 := hideP h1
    clear h1 H1 HS
    go_wp2_with fail
    refine Calls.mono (H2.out _ K1.out) ?_
    rintro e w2 ⟨rfl, h2⟩
    have K2 := hideP h2
    clear h2 H2 K1
    go_wp2_with fail
    refine Calls.mono (H3.out _ K2.out) ?_
    rintro e w3 ⟨rfl, h3⟩
    have K3 := hideP h3
    clear h3 H3 K2
    go_wp2_with fail
    refine Calls.mono (H4.out _ K3.out) ?_
    rintro e w4 ⟨rfl, h4⟩
    have K4 := hideP h4
    have kb : w4.cell? ⟨w.heap.size, 0, none⟩ = some (.int .i64 (r4.2 : Int)) := by simp [World.cell?, h4.box]
    clear h4 H4 K3
    by_cases z0 : r4.2 = 0
    · have z1 : ((r4.2 : Int) == 0) = true := by simp [z0]
      have hh : hintI (hintOf r4.2) = 1 := by simp [hintOf, hintI, z0]
      go_wp2_with fail
      go_ret2
      exact ⟨by rw [hh]; rfl, K4.out.below⟩
    · have z1 : ((r4.2 : Int) == 0) = false := by simp [z0]
      by_cases z2 : r4.2 = 12
      · have z3 : ((r4.2 : Int) == 12) = true := by simp [z2]
        have hh : hintI (hintOf r4.2) = 2 := by simp [hintOf, hintI, z2]
        go_wp2_with fail
        go_ret2
        exact ⟨by rw [hh]; rfl, K4.out.below⟩
      · have z3 : ((r4.2 : Int) == 12) = false := by simp; omega
        have hh : hintI (hintOf r4.2) = 0 := by simp [hintOf, hintI, z0, z2]
        go_wp2_with fail
        go_ret2
        exact ⟨by rw [hh]; rfl, K4.out.below⟩
  · rw [if_neg h50]
    have t50 : decide ((50 : Int) ≤ (l : Int)) = false := by simp; omega
    have H4 := fun wy hy => median_u g off n cap i j k w.heap.size 0 d w wy hR hg hgs hy (by omega) (by omega) (by omega) hn (by omega)
    generalize Go.Sort.median ltInt d i j k 0 = r4 at *
    have H4 := hideP H4
    have HS := hideP (Sw.new w)
    clear hR i1 i2 j1 j2 k1 k2
    go_enter Yba.func59, Yba.ntmps59
    go_upto_region 6 with (fail)
    obtain ⟨e0, e1, e2, e3⟩ := HE.out
    simp only [e0, e1, e2, e3]
    clear e0 e1 e2 e3 HE
    go_wp2_with fail
    refine Calls.mono (H4.out _ HS.out) ?_
    rintro e w4 ⟨rfl, h4⟩
    have K4 := hideP h4
    have kb : w4.cell? ⟨w.heap.size, 0, none⟩ = some (.int .i64 (r4.2 : Int)) := by simp [World.cell?, h4.box]
    clear h4 H4 HS
    by_cases z0 : r4.2 = 0
    · have z1 : ((r4.2 : Int) == 0) = true := by simp [z0]
      have hh : hintI (hintOf r4.2) = 1 := by simp [hintOf, hintI, z0]
      go_wp2_with fail
      go_ret2
      exact ⟨by rw [hh]; rfl, K4.out.below⟩
    · have z1 : ((r4.2 : Int) == 0) = false := by simp [z0]
      by_cases z2 : r4.2 = 12
      · have z3 : ((r4.2 : Int) == 12) = true := by simp [z2]
        have hh : hintI (hintOf r4.2) = 2 := by simp [hintOf, hintI, z2]
        go_wp2_with fail
        go_ret2
        exact ⟨by rw [hh]; rfl, K4.out.below⟩
      · have z3 : ((r4.2 : Int) == 12) = false := by simp; omega
        have hh : hintI (hintOf r4.2) = 0 := by simp [hintOf, hintI, z0, z2]
        go_wp2_with fail
        go_ret2
        exact ⟨by rw [hh]; rfl, K4.out.below⟩

end Go.Proofs.Ybulkcghm.So
