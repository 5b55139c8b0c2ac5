import Derived.Test.YbulkcghmProg
import Derived.WalkKit
import Derived.Below
import Derived.BigGuard
import Derived.BigCall
import Derived.BigQuiet
import Derived.BigRegion
import Derived.CellFam
import Derived.Deep.QuietTactic
import Derived.Deep.Draws
import Derived.Deep.Cut
import Derived.Deep.DeepCutAuto
import Derived.WalkSpells
import Derived.WalkSmall
import Derived.Sort.AssemblyPlain
import Derived.Sort.Row
namespace Go.Proofs.Ybulkcghm.So
open Go.RowKit
open Go.Sort (swp size_swp ltInt)
set_option linter.unusedVariables false

def intOf : Value → Int | .int _ q => q | _ => 0

/-- The row: n cells of block g from 0 on hold the numbers of d, and may be written; every block but g is as in w. -/
structure Row (w : World) (g off n : Nat) (d : Array Int) (wx : World) : Prop where
  os : wx.os = w.os
  tape : wx.tape = w.tape
  output : wx.output = w.output
  size : w.heap.size ≤ wx.heap.size
  block : ∀ k, k < w.heap.size → k ≠ g → wx.heap[k]? = w.heap[k]?
  len : d.size = n
  cell : ∀ j, j < n → wx.cell? ⟨g, off + j, none⟩ = some (.int .u64 d[j]!)
  free : ∀ j, j < n → wx.frozen? ⟨g, off + j, none⟩ = false

theorem Row.drewN {w : World} {g off n : Nat} {d : Array Int} {wx : World} (h : Row w g off n d wx) (q : Nat) : Row w g off n d (wx.drewN q) := ⟨h.os, h.tape, h.output, h.size, h.block, h.len, h.cell, h.free⟩
theorem Row.drew {w : World} {g off n : Nat} {d : Array Int} {wx : World} (h : Row w g off n d wx) : Row w g off n d wx.drew := ⟨h.os, h.tape, h.output, h.size, h.block, h.len, h.cell, h.free⟩

theorem Row.trans {w : World} {g off n : Nat} {d d' : Array Int} {wx wy : World} (h : Row w g off n d wx) (k : Row wx g off n d' wy) : Row w g off n d' wy :=
  ⟨k.os.trans h.os, k.tape.trans h.tape, k.output.trans h.output, Nat.le_trans h.size k.size, fun i hi hn => (k.block i (Nat.lt_of_lt_of_le hi h.size) hn).trans (h.block i hi hn), k.len, k.cell, k.free⟩

theorem Row.self {w : World} {g off n : Nat} {d : Array Int} {wx : World} (h : Row w g off n d wx) : Row wx g off n d wx :=
  ⟨rfl, rfl, rfl, Nat.le_refl _, fun _ _ _ => rfl, h.len, h.cell, h.free⟩

theorem Row.set {w : World} {g off n : Nat} {d : Array Int} {wx : World} (h : Row w g off n d wx) (i : Nat) (hi : i < n) (x : Int) : Row w g off n (d.setIfInBounds i x) (wx.setCell ⟨g, off + i, none⟩ (.int .u64 x)) := by
  refine ⟨h.os, h.tape, h.output, by simpa [World.setCell] using h.size, fun k hk hn => (Below.heap_setCell _ _ _ _ hn).trans (h.block k hk hn), by simpa using h.len, fun j hj => ?_, fun j hj => by simpa using h.free j hj⟩
  by_cases e : j = i
  · subst e
    rw [World.cell?_setCell_same _ _ _ (h.cell j hj), Go.Sort.getElem!_set_same d j x (by rw [h.len]; exact hi)]
  · rw [World.cell?_setCell_other _ _ _ _ (fun h => e (by injection h with _ h2; omega)), h.cell j hj, Go.Sort.getElem!_set_other d i j x e]

theorem Row.swap {w : World} {g off n : Nat} {d : Array Int} {wx : World} (h : Row w g off n d wx) (i j : Nat) (hi : i < n) (hj : j < n) :
    Row w g off n (swp d i j) ((wx.setCell ⟨g, off + i, none⟩ (.int .u64 d[j]!)).setCell ⟨g, off + j, none⟩ (.int .u64 d[i]!)) := (h.set i hi _).set j hj _

set_option maxHeartbeats 1000000 in
theorem isNaN_u (x : Int) (w : World) : Calls Yba.prog 88 #[.int .u64 x] w fun e w' => e = .returned (.bool false) ∧ w' = w := by
  go_enter Yba.func88, Yba.ntmps88
  go_wp2
  go_ret
  exact ⟨by simp, rfl⟩

set_option maxHeartbeats 1000000 in
theorem less_u (x y : Int) (w : World) : Calls Yba.prog 62 #[.int .u64 x, .int .u64 y] w fun e w' => e = .returned (.bool (ltInt x y)) ∧ w' = w := by
  go_enter Yba.func62, Yba.ntmps62
  go_wp2_with (go_at_call 88; refine (isNaN_u _ _).mono ?_; rintro e w' ⟨rfl, rfl⟩)
  go_ret
  exact ⟨rfl, rfl⟩

/-! The plain functions, a round at a time. -/
section
open Go.Sort
theorem ins_go {a j : Nat} {d : Array Int} (hj : a < j) (hl : ltInt d[j]! d[j - 1]! = true) : insInner ltInt a j d = insInner ltInt a (j - 1) (swp d j (j - 1)) := by
  cases j with
  | zero => omega
  | succ k => rw [insInner]; simp only [Nat.add_sub_cancel] at hl ⊢; rw [if_pos (by simp [hl]; omega)]
theorem ins_at {a j : Nat} {d : Array Int} (hj : j ≤ a) : insInner ltInt a j d = d := by
  cases j with
  | zero => rw [insInner]
  | succ k => rw [insInner, if_neg (by simp; omega)]
theorem ins_no {a j : Nat} {d : Array Int} (hl : ltInt d[j]! d[j - 1]! = false) : insInner ltInt a j d = d := by
  cases j with
  | zero => rw [insInner]
  | succ k => simp only [Nat.add_sub_cancel] at hl; rw [insInner, if_neg (by simp [hl])]
theorem out_go {a b i : Nat} {d : Array Int} (h : i < b) : insOuter ltInt a b i d = insOuter ltInt a b (i + 1) (insInner ltInt a i d) := by rw [insOuter, if_pos h]
theorem out_no {a b i : Nat} {d : Array Int} (h : b ≤ i) : insOuter ltInt a b i d = d := by rw [insOuter, if_neg (by omega)]
end

theorem hideP {p : Prop} (h : p) : Hid p := h

set_option maxHeartbeats 4000000 in
set_option maxRecDepth 100000 in
theorem insertion (g off n cap a b : Nat) (d : Array Int) (w : World) (hR : Row w g off n d w) (hab : a ≤ b) (hb : b ≤ n) (hn : n ≤ 1024) :
    Calls Yba.prog 56 #[.slice (some ⟨g, off, none⟩) n cap, .int .i64 a, .int .i64 b] w fun e w' => e = .returned (.tuple #[]) ∧ Row w g off n (Go.Sort.insertionSort ltInt d a b) w' := by
  have HR := hideP hR
  clear hR
  go_enter Yba.func56, Yba.ntmps56
  go_wp2_with fail
  go_loopw [6] (fun vi wr => ∃ (i : Nat) (dk : Array Int), vi = .int .i64 i ∧ a < i ∧ i ≤ b + 1 ∧ Row w g off n dk wr ∧ Go.Sort.insOuter ltInt a b i dk = Go.Sort.insertionSort ltInt d a b) (fun vi _ => b + 1 - (intOf vi).toNat)
  case atStart => exact ⟨a + 1, d, by go_num, by omega, by omega, HR.out, rfl⟩
  case round =>
    obtain ⟨i, dk, rfl, hai, hib, hRk, hO⟩ := hrel
    have HO := hideP hO
    have HRk := hideP hRk
    clear hO hRk HR
    by_cases hlt : i < b
    · go_wp2_with fail
      go_loopw [7] (fun vj wr2 => ∃ (j : Nat) (dj : Array Int), vj = .int .i64 j ∧ a ≤ j ∧ j ≤ i ∧ Row w g off n dj wr2 ∧ Go.Sort.insInner ltInt a j dj = Go.Sort.insInner ltInt a i dk) (fun vj _ => (intOf vj).toNat)
      case atStart => exact ⟨i, dk, rfl, by omega, Nat.le_refl _, HRk.out, rfl⟩
      case round =>
        obtain ⟨j, dj, rfl, haj, hji, hRj, hI⟩ := hrel
        obtain ⟨G, hG⟩ : ∃ G : Nat → Int, ∀ t, G t = dj[t]! := ⟨fun t => dj[t]!, fun _ => rfl⟩
        have hc : ∀ t, t < n → wr.cell? ⟨g, off + t, none⟩ = some (.int .u64 (G t)) := fun t ht => by rw [hG]; exact hRj.cell t ht
        have hf : ∀ t, t < n → wr.frozen? ⟨g, off + t, none⟩ = false := hRj.free
        have HG := hideP hG
        have HRj := hideP hRj
        have HI := hideP hI
        have OUT : Hid ((j ≤ a ∨ ltInt (G j) (G (j - 1)) = false) → ∀ q, ∃ (i' : Nat) (dk' : Array Int), Value.int .i64 ((i : Int) + 1) = .int .i64 i' ∧ a < i' ∧ i' ≤ b + 1 ∧ Row w g off n dk' (wr.drewN q) ∧ Go.Sort.insOuter ltInt a b i' dk' = Go.Sort.insertionSort ltInt d a b) := fun hs q => by
          refine ⟨i + 1, dj, by go_num, by omega, by omega, hRj.drewN q, ?_⟩
          rw [← HO.out, out_go hlt, ← hI]
          rcases hs with hs | hs
          · rw [ins_at hs]
          · rw [hG, hG] at hs; rw [ins_no hs]
        clear hG hRj hI HRk
        by_cases hja : a < j
        · have tg : decide ((a : Int) < (j : Int)) = true := by simp; omega
          obtain ⟨L, hL⟩ : ∃ L, ltInt (G j) (G (j - 1)) = L := ⟨_, rfl⟩
          have j1 : (j : Int) < (n : Int) := by omega
          have j2 : (0 : Int) ≤ (j : Int) - 1 := by omega
          have j3 : (j : Int) - 1 < (n : Int) := by omega
          go_wp2_with fail
          go_quiet (first | (go_at_call 62; refine Calls.quiet_of_same (less_u _ _ _)))
          cases L
          · go_wp2_with fail
            go_roundw
            case rel => exact OUT.out (Or.inr hL) nq
            case measure => simp [intOf]; omega
          · go_wp2_with fail
            go_region
            go_wp2_with fail
            go_roundw
            case rel =>
              refine ⟨j - 1, swp dj j (j - 1), by congr 1; omega, by omega, by omega, ?_, ?_⟩
              · have := (HRj.out.drewN (nq + 1)).swap j (j - 1) (by omega) (by omega)
                rw [HG.out, HG.out]
                exact this
              · rw [HG.out, HG.out] at hL
                rw [← HI.out, ins_go hja hL]
            case measure => simp [intOf]; omega
        · have tg : decide ((a : Int) < (j : Int)) = false := by simp; omega
          go_wp2_with fail
          go_quiet (first | (go_at_call 62; refine Calls.quiet_of_same (less_u _ _ _)))
          go_wp2_with fail
          go_roundw
          case rel => exact OUT.out (Or.inl (by omega)) nq
          case measure => simp [intOf]; omega
    · go_wp2_with fail
      go_end0
      refine ⟨rfl, ?_⟩
      rw [← HO.out, out_no (by omega)]
      exact HRk.out

end Go.Proofs.Ybulkcghm.So
