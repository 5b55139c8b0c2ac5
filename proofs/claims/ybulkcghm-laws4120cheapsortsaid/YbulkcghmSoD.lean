import Derived.Test.YbulkcghmSoA
namespace Go.Proofs.Ybulkcghm.So
open Go.RowKit
open Go.Sort (swp size_swp ltInt)
set_option linter.unusedVariables false

set_option maxHeartbeats 1000000 in
set_option maxRecDepth 100000 in
theorem reverse (g off n cap a b : Nat) (d : Array Int) (w : World) (hR : Row w g off n d w) (hab : a < b) (hb : b ≤ n) (hn : n ≤ 1024) :
    Calls Yba.prog 60 #[.slice (some ⟨g, off, none⟩) n cap, .int .i64 a, .int .i64 b] w fun e w' => e = .returned (.tuple #[]) ∧ Row w g off n (Go.Sort.reverseRange d a b) w' := by
  have HR := hideP hR
  clear hR
  go_enter Yba.func60, Yba.ntmps60
  go_wp2_with fail
  go_loopw [6, 7] (fun vi vj wr => ∃ (i j : Nat) (dk : Array Int), vi = .int .i64 i ∧ vj = .int .i64 j ∧ i ≤ n ∧ j < n ∧ Row w g off n dk wr ∧ Go.Sort.reverseLoop i j dk = Go.Sort.reverseLoop a (b - 1) d) (fun vi vj _ => (intOf vj - intOf vi).toNat)
  case atStart => exact ⟨a, b - 1, d, rfl, by congr 1; omega, by omega, by omega, HR.out, rfl⟩
  case round =>
    obtain ⟨i, j, dk, rfl, rfl, hi, hj, hRk, hO⟩ := hrel
    clear HR
    by_cases hlt : i < j
    · obtain ⟨G, hG⟩ : ∃ G : Nat → Int, ∀ t, G t = dk[t]! := ⟨fun t => dk[t]!, fun _ => rfl⟩
      have hc : ∀ t, t < n → wr.cell? ⟨g, off + t, none⟩ = some (.int .u64 (G t)) := fun t ht => by rw [hG]; exact hRk.cell t ht
      have hf : ∀ t, t < n → wr.frozen? ⟨g, off + t, none⟩ = false := hRk.free
      have h1 := hRk.swap i j (by omega) (by omega)
      simp only [← hG] at h1
      have H1 := hideP h1
      have HO := hideP hO
      clear hRk hO hG h1
      have j1 : (i : Int) < (n : Int) := by omega
      have j2 : (j : Int) < (n : Int) := by omega
      have hne : ¬ i = j := by omega
      have tt : decide ((i : Int) < (j : Int)) = true := by simp; omega
      go_wp2_with fail
      go_region
      go_wp2_with fail
      go_roundw
      case rel =>
        refine ⟨i + 1, j - 1, swp dk i j, by go_num, by congr 1; omega, by omega, by omega, H1.out.drew, ?_⟩
        have := HO.out
        rw [Go.Sort.reverseLoop, if_pos hlt] at this
        exact this
      case measure => simp [intOf]; omega
    · have tt : decide ((i : Int) < (j : Int)) = false := by simp; omega
      have HO := hideP hO
      have HRk := hideP hRk
      clear hO hRk
      go_wp2_with fail
      go_end0
      refine ⟨rfl, ?_⟩
      have := HO.out
      rw [Go.Sort.reverseLoop, if_neg hlt] at this
      rw [show Go.Sort.reverseRange d a b = Go.Sort.reverseLoop a (b - 1) d from rfl, ← this]
      exact HRk.out

/-- The world with the count of swaps in its box. -/
structure Sw (w : World) (sp s : Nat) (wx : World) : Prop where
  os : wx.os = w.os
  tape : wx.tape = w.tape
  output : wx.output = w.output
  size : w.heap.size ≤ wx.heap.size
  block : ∀ k, k < w.heap.size → k ≠ sp → wx.heap[k]? = w.heap[k]?
  box : wx.heap[sp]? = some (.cells #[.int .i64 (s : Int)] 3)

theorem Sw.drewN {w : World} {sp s : Nat} {wx : World} (h : Sw w sp s wx) (q : Nat) : Sw w sp s (wx.drewN q) := ⟨h.os, h.tape, h.output, h.size, h.block, h.box⟩
theorem Sw.up {w : World} {sp s : Nat} {wx : World} (h : Sw w sp s wx) : Sw w sp (s + 1) (wx.setCell ⟨sp, 0, none⟩ (.int .i64 ((s : Int) + 1))) :=
  ⟨h.os, h.tape, h.output, by simpa [World.setCell] using h.size, fun k hk hn => (Below.heap_setCell _ _ _ _ hn).trans (h.block k hk hn), by simp [World.setCell, Array.getElem?_modify, h.box]⟩
theorem Sw.row {w : World} {sp s : Nat} {wx : World} (h : Sw w sp s wx) {g off n : Nat} {d : Array Int} (hR : Row w g off n d w) (hg : g < w.heap.size) (hgs : g ≠ sp) : (∀ t, t < n → wx.cell? ⟨g, off + t, none⟩ = some (.int .u64 d[t]!)) ∧ ∀ t, t < n → wx.frozen? ⟨g, off + t, none⟩ = false :=
  ⟨fun t ht => (World.cell?_of_block (w := w) (h.block g hg hgs)).trans (hR.cell t ht), fun t ht => (World.frozen?_of_block (w := w) (h.block g hg hgs)).trans (hR.free t ht)⟩

set_option maxHeartbeats 1000000 in
set_option maxRecDepth 100000 in
theorem order2_u (g off n cap a b sp s : Nat) (d : Array Int) (w wx : World) (hR : Row w g off n d w) (hg : g < w.heap.size) (hgs : g ≠ sp) (hS : Sw w sp s wx) (ha : a < n) (hb : b < n) (hn : n ≤ 1024) (hs : s ≤ 1000) :
    Calls Yba.prog 102 #[.slice (some ⟨g, off, none⟩) n cap, .int .i64 a, .int .i64 b, .pointer (some ⟨sp, 0, none⟩)] wx fun e w' =>
      e = .returned (.tuple #[.int .i64 ((Go.Sort.order2 ltInt d a b s).1 : Int), .int .i64 ((Go.Sort.order2 ltInt d a b s).2.1 : Int)]) ∧ Sw w sp (Go.Sort.order2 ltInt d a b s).2.2 w' := by
  obtain ⟨hc0, hf0⟩ := hS.row hR hg hgs
  obtain ⟨G, hG⟩ : ∃ G : Nat → Int, ∀ t, G t = d[t]! := ⟨fun t => d[t]!, fun _ => rfl⟩
  have hc : ∀ t, t < n → wx.cell? ⟨g, off + t, none⟩ = some (.int .u64 (G t)) := fun t ht => by rw [hG]; exact hc0 t ht
  have kb : wx.cell? ⟨sp, 0, none⟩ = some (.int .i64 (s : Int)) := by simp [World.cell?, hS.box]
  have kf : wx.frozen? ⟨sp, 0, none⟩ = false := by simp [World.frozen?, hS.box]
  have HS := hideP hS
  unfold Go.Sort.order2
  rw [← hG, ← hG]
  clear hc0 hf0 hG hR hS
  have j1 : (a : Int) < (n : Int) := by omega
  have j2 : (b : Int) < (n : Int) := by omega
  obtain ⟨L, hL⟩ : ∃ L, ltInt (G b) (G a) = L := ⟨_, rfl⟩
  rw [hL]
  go_enter Yba.func102, Yba.ntmps102
  go_wp2_with fail
  go_quiet (first | (go_at_call 62; refine Calls.quiet_of_same (less_u _ _ _)))
  simp only [hL]
  cases L
  · go_wp2_with fail
    go_ret2
    exact ⟨rfl, HS.out.drewN _⟩
  · go_wp2_with fail
    go_ret2
    exact ⟨rfl, (HS.out.up).drewN _⟩

theorem order2_lt {d : Array Int} {a b s n : Nat} (ha : a < n) (hb : b < n) : (Go.Sort.order2 ltInt d a b s).1 < n ∧ (Go.Sort.order2 ltInt d a b s).2.1 < n ∧ (Go.Sort.order2 ltInt d a b s).2.2 ≤ s + 1 := by
  unfold Go.Sort.order2
  split
  · exact ⟨hb, ha, Nat.le_refl _⟩
  · exact ⟨ha, hb, Nat.le_succ _⟩

set_option maxHeartbeats 1000000 in
set_option maxRecDepth 100000 in
theorem median_u (g off n cap a b c sp s : Nat) (d : Array Int) (w wx : World) (hR : Row w g off n d w) (hg : g < w.heap.size) (hgs : g ≠ sp) (hS : Sw w sp s wx) (ha : a < n) (hb : b < n) (hc : c < n) (hn : n ≤ 1024) (hs : s ≤ 900) :
    Calls Yba.prog 87 #[.slice (some ⟨g, off, none⟩) n cap, .int .i64 a, .int .i64 b, .int .i64 c, .pointer (some ⟨sp, 0, none⟩)] wx fun e w' =>
      e = .returned (.int .i64 ((Go.Sort.median ltInt d a b c s).1 : Int)) ∧ Sw w sp (Go.Sort.median ltInt d a b c s).2 w' := by
  have e0 : Go.Sort.median ltInt d a b c s = ((Go.Sort.order2 ltInt d (Go.Sort.order2 ltInt d a b s).1 (Go.Sort.order2 ltInt d (Go.Sort.order2 ltInt d a b s).2.1 c (Go.Sort.order2 ltInt d a b s).2.2).1 (Go.Sort.order2 ltInt d (Go.Sort.order2 ltInt d a b s).2.1 c (Go.Sort.order2 ltInt d a b s).2.2).2.2).2.1, (Go.Sort.order2 ltInt d (Go.Sort.order2 ltInt d a b s).1 (Go.Sort.order2 ltInt d (Go.Sort.order2 ltInt d a b s).2.1 c (Go.Sort.order2 ltInt d a b s).2.2).1 (Go.Sort.order2 ltInt d (Go.Sort.order2 ltInt d a b s).2.1 c (Go.Sort.order2 ltInt d a b s).2.2).2.2).2.2) := rfl
  rw [e0]
  clear e0
  have l := order2_lt (d := d) (s := s) ha hb
  have H1 := order2_u g off n cap a b sp s d w wx hR hg hgs hS ha hb hn (by omega)
  generalize Go.Sort.order2 ltInt d a b s = r1 at *
  obtain ⟨l1, l2, l3⟩ := l
  have l := order2_lt (d := d) (s := r1.2.2) l2 hc
  have H2 := fun wy hy => order2_u g off n cap r1.2.1 c sp r1.2.2 d w wy hR hg hgs hy l2 hc hn (by omega)
  generalize Go.Sort.order2 ltInt d r1.2.1 c r1.2.2 = r2 at *
  obtain ⟨m1, m2, m3⟩ := l
  have H3 := fun wy hy => order2_u g off n cap r1.1 r2.1 sp r2.2.2 d w wy hR hg hgs hy l1 m1 hn (by omega)
  generalize Go.Sort.order2 ltInt d r1.1 r2.1 r2.2.2 = r3 at *
  have H1 := hideP H1
  have H2 := hideP H2
  have H3 := hideP H3
  clear hR hS
  go_enter Yba.func87, Yba.ntmps87
  go_wp2_with fail
  refine Calls.mono H1.out ?_
  rintro e w1 ⟨rfl, h1⟩
  have K1 := hideP h1
  clear h1 H1
  go_wp2_with fail
  refine Calls.mono (H2.out _ K1.out) ?_
  rintro e w2 ⟨rfl, h2⟩
  have K2 := hideP h2
  clear h2 H2 K1
  go_wp2_with fail
  refine Calls.mono (H3.out _ K2.out) ?_
  rintro e w3 ⟨rfl, h3⟩
  have K3 := hideP h3
  clear h3 H3 K2
  go_wp2_with fail
  go_ret
  exact ⟨rfl, K3.out⟩

theorem median_lt {d : Array Int} {a b c s n : Nat} (ha : a < n) (hb : b < n) (hc : c < n) : (Go.Sort.median ltInt d a b c s).1 < n ∧ (Go.Sort.median ltInt d a b c s).2 ≤ s + 3 := by
  obtain ⟨l1, l2, l3⟩ := order2_lt (d := d) (s := s) ha hb
  obtain ⟨m1, m2, m3⟩ := order2_lt (d := d) (s := (Go.Sort.order2 ltInt d a b s).2.2) l2 hc
  obtain ⟨n1, n2, n3⟩ := order2_lt (d := d) (s := (Go.Sort.order2 ltInt d (Go.Sort.order2 ltInt d a b s).2.1 c (Go.Sort.order2 ltInt d a b s).2.2).2.2) l1 m1
  exact ⟨n2, by unfold Go.Sort.median; simp only; omega⟩

set_option maxHeartbeats 1000000 in
set_option maxRecDepth 100000 in
theorem adjacent_u (g off n cap a sp s : Nat) (d : Array Int) (w wx : World) (hR : Row w g off n d w) (hg : g < w.heap.size) (hgs : g ≠ sp) (hS : Sw w sp s wx) (ha0 : 1 ≤ a) (ha : a + 1 < n) (hn : n ≤ 1024) (hs : s ≤ 900) :
    Calls Yba.prog 86 #[.slice (some ⟨g, off, none⟩) n cap, .int .i64 a, .pointer (some ⟨sp, 0, none⟩)] wx fun e w' =>
      e = .returned (.int .i64 ((Go.Sort.medianAdjacent ltInt d a s).1 : Int)) ∧ Sw w sp (Go.Sort.medianAdjacent ltInt d a s).2 w' := by
  have H1 := median_u g off n cap (a - 1) a (a + 1) sp s d w wx hR hg hgs hS (by omega) (by omega) ha hn hs
  rw [show ((a - 1 : Nat) : Int) = (a : Int) - 1 by omega, show ((a + 1 : Nat) : Int) = (a : Int) + 1 by omega] at H1
  have H1' := hideP H1
  have e : Go.Sort.medianAdjacent ltInt d a s = Go.Sort.median ltInt d (a - 1) a (a + 1) s := rfl
  rw [e]
  generalize Go.Sort.median ltInt d (a - 1) a (a + 1) s = r1 at *
  clear hR hS H1 e
  go_enter Yba.func86, Yba.ntmps86
  go_wp2_with fail
  refine Calls.mono H1'.out ?_
  rintro e w1 ⟨rfl, h1⟩
  have K1 := hideP h1
  clear h1 H1'
  go_wp2_with fail
  go_ret
  exact ⟨rfl, K1.out⟩

end Go.Proofs.Ybulkcghm.So
