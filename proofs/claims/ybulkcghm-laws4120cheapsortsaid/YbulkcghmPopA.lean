import Derived.Test.YbulkcghmProg
import Derived.WalkKit
import Derived.Below
import Derived.Deep.OwnRows
namespace Go.Proofs.Ybulkcghm.Pop
open Go.RowKit Go.Deep

theorem info62 : (Yba.prog.info? 62).map (fun i => (i.zero, i.size, i.bytes)) = some (some (.pointer none), 1, 8) := by kernel_rfl

/-- A fake timer's eight cells. -/
def timer (s : Int) (j : Int) : Array Value := #[.pointer none, .chan none, .nilFunc, .int .u64 0, .int .i64 0, .pointer none, .int .u64 s, .int .i64 j]

/-- The row of pointers, k timers made. -/
def top (B k : Nat) : Nat → Value := fun j => if j < k then .pointer (some ⟨B + 1 + j, 0, none⟩) else .pointer none

/-- k timers are made: block B holds the pointers, block B + 1 + j timer j. -/
structure Built (w wr : World) (n k : Nat) (Z : Nat → Int) : Prop where
  below : Below w.heap.size w wr
  size : wr.heap.size = w.heap.size + 1 + k
  top : wr.rowIs w.heap.size 62 n (top w.heap.size k)
  made : ∀ j, j < k → wr.heap[w.heap.size + 1 + j]? = some (.cells (timer (Z j) j) 67 (0, 0))

theorem built_start (w : World) (n : Nat) (Z : Nat → Int) : Built w (w.alloc (.cells (madeCells #[.pointer none] n) 62)) n 0 Z :=
  ⟨(Below.refl _ _).alloc (Nat.le_refl _) _, by simp, (World.rowIs_made w _ n 62).congr (fun j _ => by simp [Pop.top]), fun j hj => absurd hj (Nat.not_lt_zero _)⟩

theorem built_step {w wr : World} {n k : Nat} {Z : Nat → Int} (h : Built w wr n k Z) :
    Built w ((wr.alloc (.cells (timer (Z k) k) 67)).setCell ⟨w.heap.size, k, none⟩ (.pointer (some ⟨w.heap.size + 1 + k, 0, none⟩))) n (k + 1) Z := by
  refine ⟨(h.below.alloc (by rw [h.size]; omega) _).setCell (Nat.le_refl _) _, by simp [h.size]; omega, ((h.top.alloc _).set k _).congr (fun j _ => ?_), fun j hj => ?_⟩
  · simp only [Pop.top]
    by_cases e : j = k
    · subst e; simp
    · rw [if_neg e]
      by_cases hlt : j < k
      · rw [if_pos hlt, if_pos (by omega)]
      · rw [if_neg hlt, if_neg (by omega)]
  · rw [blk_setCell_other _ _ _ _ (by simp; omega)]
    by_cases e : j = k
    · subst e
      rw [← h.size]
      exact blk_alloc_new _ _
    · rw [blk_alloc_lt _ _ _ (by rw [h.size]; omega)]
      exact h.made j (by omega)

/-- What the walks ask of the slice that came in. -/
def Reads (w : World) (a0 : Option Addr) (len : Nat) (Z : Nat → Int) : Prop :=
  ∀ i, i < len → ∃ b off, b < w.heap.size ∧ a0 = some ⟨b, off, none⟩ ∧ ∀ i, i < len → w.cell? ⟨b, off + i, none⟩ = some (.int .u64 (Z i))

set_option maxHeartbeats 1000000 in
set_option maxRecDepth 100000 in
theorem build_any (a0 : Option Addr) (len cap : Nat) (Z : Nat → Int) (w : World) (hl : len ≤ 1024) (hc : Reads w a0 len Z) :
    Calls Yba.prog 20 #[.slice a0 len cap] w fun e w' =>
      e = .returned (.slice (some ⟨w.heap.size, 0, none⟩) (len + 1) (len + 1)) ∧ Built w w' (len + 1) (len + 1) (fun i => if i < len then Z i else 0) := by
  have hmk : ∀ W : World, (Instr.makeSlice 58 (.int .i64 ((len : Int) + 1)) (.int .i64 ((len : Int) + 1))).run Yba.prog W = .ok (.slice (some ⟨W.heap.size, 0, none⟩) (len + 1) (len + 1)) (W.alloc (.cells (madeCells #[.pointer none] (len + 1)) 62)) :=
    fun W => run_make_row' (P := Yba.prog) 58 62 (.pointer none) 8 Yba.underlying58 info62 rfl .i64 .i64 (len + 1) (by omega) (by omega) W
  rcases Nat.eq_zero_or_pos len with h0 | h0
  · have H0 : len < 1 := by omega
    clear h0 hc
    go_enter Yba.func20, Yba.ntmps20
    go_wp2
    clear hmk
    go_loopw [5] (fun i wr => ∃ k : Nat, k ≤ len + 1 ∧ i = .int .i64 k ∧ Built w wr (len + 1) k (fun i => if i < len then Z i else 0)) (fun i _ => len + 1 - (intOf i).toNat)
    case atStart => exact ⟨0, Nat.zero_le _, rfl, built_start _ _ _⟩
    case round =>
      obtain ⟨k, hk, rfl, hB⟩ := hrel
      have hlt : ¬ k < len := by omega
      by_cases hlt2 : k < len + 1
      · have hkl : ¬ (k : Int) < len := by omega
        have hz := hB.size
        have hf := fun o => (hB.top.alloc o).frozen k
        have ht := fun o => (hB.top.alloc o).cell (i := k) (by omega)
        have hstep := built_step hB
        simp only [if_neg hlt] at hstep
        go_wp2
        go_roundw
        case rel => exact ⟨k + 1, by omega, by go_num, hstep⟩
        case measure => simp [intOf]; omega
      · have hkl : k = len + 1 := by omega
        subst hkl
        go_wp2
        go_ret
        exact ⟨rfl, hB⟩
  · obtain ⟨b, off, hb, rfl, hcell⟩ := hc 0 h0
    go_enter Yba.func20, Yba.ntmps20
    go_wp2
    clear hmk hc
    go_loopw [5] (fun i wr => ∃ k : Nat, k ≤ len + 1 ∧ i = .int .i64 k ∧ Built w wr (len + 1) k (fun i => if i < len then Z i else 0)) (fun i _ => len + 1 - (intOf i).toNat)
    case atStart => exact ⟨0, Nat.zero_le _, rfl, built_start _ _ _⟩
    case round =>
      obtain ⟨k, hk, rfl, hB⟩ := hrel
      by_cases hlt : k < len
      · have hx := (hB.below.cell (p := ⟨b, off + k, none⟩) hb).trans (hcell k hlt)
        have hz := hB.size
        have hf := fun o => (hB.top.alloc o).frozen k
        have ht := fun o => (hB.top.alloc o).cell (i := k) (by omega)
        have hstep := built_step hB
        simp only [if_pos hlt] at hstep
        go_wp2
        go_roundw
        case rel => exact ⟨k + 1, by omega, by go_num, hstep⟩
        case measure => simp [intOf]; omega
      · by_cases hlt2 : k < len + 1
        · have hkl : ¬ (k : Int) < len := by omega
          have hz := hB.size
          have hf := fun o => (hB.top.alloc o).frozen k
          have ht := fun o => (hB.top.alloc o).cell (i := k) (by omega)
          have hstep := built_step hB
          simp only [if_neg hlt] at hstep
          go_wp2
          go_roundw
          case rel => exact ⟨k + 1, by omega, by go_num, hstep⟩
          case measure => simp [intOf]; omega
        · have hkl : k = len + 1 := by omega
          subst hkl
          go_wp2
          go_ret
          exact ⟨rfl, hB⟩

end Go.Proofs.Ybulkcghm.Pop
