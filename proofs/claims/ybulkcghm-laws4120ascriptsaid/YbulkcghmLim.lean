import Derived.Test.YbulkcghmAt
import Derived.Test.YbulkcghmMu
namespace Go.Proofs.Ybulkcghm.Lm
open Go.RowKit Go.Deep Go.Proofs.Ybulkcghm.Tm
set_option linter.unusedVariables false

theorem blk_cell {w : World} {L : Nat} {c : Array Value} {t : TypeId} (h : w.heap[L]? = some (.cells c t)) {k : Nat} {v : Value} (hk : c[k]? = some v) : w.cell? ⟨L, k, none⟩ = some v := by
  simp [World.cell?, h, hk]

theorem blk_free {w : World} {L : Nat} {c : Array Value} {t : TypeId} (h : w.heap[L]? = some (.cells c t)) (k : Nat) : w.frozen? ⟨L, k, none⟩ = false := by
  simp [World.frozen?, h]

theorem blk_set {w : World} {L : Nat} {c : Array Value} {t : TypeId} (h : w.heap[L]? = some (.cells c t)) (k : Nat) (v : Value) : (w.setCell ⟨L, k, none⟩ v).heap[L]? = some (.cells (c.setIfInBounds k v) t) := by
  simp [World.setCell, Array.getElem?_modify, h]

theorem blk_lt {w : World} {L : Nat} {o : Obj} (h : w.heap[L]? = some o) : L < w.heap.size := by
  rcases Nat.lt_or_ge L w.heap.size with h1 | h1
  · exact h1
  · rw [Array.getElem?_eq_none h1] at h; cases h

theorem blk_other {w : World} {L B : Nat} (hne : L ≠ B) (k : Nat) (v : Value) : (w.setCell ⟨B, k, none⟩ v).heap[L]? = w.heap[L]? := Below.heap_setCell w ⟨B, k, none⟩ v L hne

theorem blk_alloc {w : World} {L : Nat} {o : Obj} (h : w.heap[L]? = some o) (o' : Obj) : (w.alloc o').heap[L]? = some o := (Below.heap_alloc w o' L (blk_lt h)).trans h

theorem blk_below {w w' : World} {L B : Nat} {o : Obj} (h : w.heap[L]? = some o) (hB : Below B w w') (hl : L < B) : w'.heap[L]? = some o := (hB.block L hl).trans h

theorem blk_new (w : World) (o : Obj) : (w.alloc o).heap[w.heap.size]? = some o := by
  show (w.heap.push o)[w.heap.size]? = _
  rw [Array.getElem?_push, if_pos rfl]

/-- The cells of a limiter: nothing owing, no ledger. -/
def lc (mu : Int) (r : Nat) (n : Int) (T : Nat) (z l : Int) (T2 : Nat) (z2 : Int) : Array Value :=
  #[.nilIface, .int .i32 mu, .int .u32 0, .float .f64 r, .int .i64 n,
    .float .f64 T, .float .f64 0, .int .u64 (z % 1000000000), .int .i64 (z / 1000000000), .pointer none,
    .int .u64 (l % 1000000000), .int .i64 (l / 1000000000), .pointer none,
    .float .f64 T2, .float .f64 0, .int .u64 (z2 % 1000000000), .int .i64 (z2 / 1000000000), .pointer none,
    .slice none 0 0, .int .i64 0, .int .i64 0, .float .f64 0, .int .u64 0, .float .f64 0,
    .float .f64 0, .float .f64 0, .int .u64 0, .int .i64 0, .pointer none, .bool false]

def Lim (w : World) (L : Nat) (mu : Int) (r : Nat) (n : Int) (T : Nat) (z l : Int) (T2 : Nat) (z2 : Int) : Prop := w.heap[L]? = some (.cells (lc mu r n T z l T2 z2) 92)

theorem Lim.below {w w' : World} {L : Nat} {mu : Int} {r : Nat} {n : Int} {T : Nat} {z l : Int} {T2 : Nat} {z2 : Int} (h : Lim w L mu r n T z l T2 z2) (hB : Below w.heap.size w w') : Lim w' L mu r n T z l T2 z2 := blk_below h hB (blk_lt h)

section
variable {w : World} {L : Nat} {mu : Int} {r : Nat} {n : Int} {T : Nat} {z l : Int} {T2 : Nat} {z2 : Int} (h : Lim w L mu r n T z l T2 z2)
include h
theorem Lim.c1 : w.cell? ⟨L, 1, none⟩ = some (.int .i32 mu) := blk_cell h rfl
theorem Lim.c2 : w.cell? ⟨L, 2, none⟩ = some (.int .u32 0) := blk_cell h rfl
theorem Lim.c3 : w.cell? ⟨L, 3, none⟩ = some (.float .f64 r) := blk_cell h rfl
theorem Lim.c4 : w.cell? ⟨L, 4, none⟩ = some (.int .i64 n) := blk_cell h rfl
theorem Lim.c5 : w.cell? ⟨L, 5, none⟩ = some (.float .f64 T) := blk_cell h rfl
theorem Lim.c6 : w.cell? ⟨L, 6, none⟩ = some (.float .f64 0) := blk_cell h rfl
theorem Lim.c7 : w.cell? ⟨L, 7, none⟩ = some (.int .u64 (z % 1000000000)) := blk_cell h rfl
theorem Lim.c8 : w.cell? ⟨L, 8, none⟩ = some (.int .i64 (z / 1000000000)) := blk_cell h rfl
theorem Lim.c9 : w.cell? ⟨L, 9, none⟩ = some (.pointer none) := blk_cell h rfl
theorem Lim.c10 : w.cell? ⟨L, 10, none⟩ = some (.int .u64 (l % 1000000000)) := blk_cell h rfl
theorem Lim.c11 : w.cell? ⟨L, 11, none⟩ = some (.int .i64 (l / 1000000000)) := blk_cell h rfl
theorem Lim.c12 : w.cell? ⟨L, 12, none⟩ = some (.pointer none) := blk_cell h rfl
theorem Lim.c13 : w.cell? ⟨L, 13, none⟩ = some (.float .f64 T2) := blk_cell h rfl
theorem Lim.c14 : w.cell? ⟨L, 14, none⟩ = some (.float .f64 0) := blk_cell h rfl
theorem Lim.c15 : w.cell? ⟨L, 15, none⟩ = some (.int .u64 (z2 % 1000000000)) := blk_cell h rfl
theorem Lim.c16 : w.cell? ⟨L, 16, none⟩ = some (.int .i64 (z2 / 1000000000)) := blk_cell h rfl
theorem Lim.c17 : w.cell? ⟨L, 17, none⟩ = some (.pointer none) := blk_cell h rfl
theorem Lim.c19 : w.cell? ⟨L, 19, none⟩ = some (.int .i64 0) := blk_cell h rfl
theorem Lim.c29 : w.cell? ⟨L, 29, none⟩ = some (.bool false) := blk_cell h rfl
end

set_option maxHeartbeats 8000000 in
set_option maxRecDepth 100000 in
theorem new_any (r fb : Nat) (n : Int) (w : World) (hfb : floatOfInt .f64 n = fb) :
    Calls Yba.prog 10 #[.float .f64 r, .int .i64 n] w fun e w' => e = .returned (.pointer (some ⟨w.heap.size, 0, none⟩)) ∧ Below w.heap.size w w' ∧ w.heap.size < w'.heap.size ∧ Lim w' w.heap.size 0 r n fb 0 0 fb 0 := by
  go_enter Yba.func10, Yba.ntmps10
  go_wp2_with fail
  go_ret
  exact ⟨rfl, al (Below.refl _ w) _, by simp, blk_new _ _⟩

set_option maxHeartbeats 8000000 in
set_option maxRecDepth 100000 in
theorem counted_any (L : Nat) (mu : Int) (r : Nat) (n : Int) (T : Nat) (z l : Int) (T2 : Nat) (z2 t : Int) (w : World) (h : Lim w L mu r n T z l T2 z2) :
    Calls Yba.prog 48 #[.pointer (some ⟨L, 0, none⟩), tv t] w fun e w' => e = .returned (tv (if t < l then l else t)) ∧ Below w.heap.size w w' := by
  have hL := blk_lt h
  have c10 := h.c10
  have c11 := h.c11
  have c12 := h.c12
  have d10 := fun o1 o2 o3 o4 => Lim.c10 (blk_alloc (blk_alloc (blk_alloc (blk_alloc h o1) o2) o3) o4)
  have d11 := fun o1 o2 o3 o4 => Lim.c11 (blk_alloc (blk_alloc (blk_alloc (blk_alloc h o1) o2) o3) o4)
  have d12 := fun o1 o2 o3 o4 => Lim.c12 (blk_alloc (blk_alloc (blk_alloc (blk_alloc h o1) o2) o3) o4)
  have HB : Hid (∀ w, _) := fun w => before_any t l w
  clear h
  by_cases hc : t < l
  · rw [if_pos hc]
    simp only [decide_eq_true hc, tv] at HB ⊢
    clear hc
    generalize t % 1000000000 = ta at *
    generalize t / 1000000000 = tb at *
    generalize l % 1000000000 = la at *
    generalize l / 1000000000 = lb at *
    go_enter Yba.func48, Yba.ntmps48
    go_wp2_with fail
    go_region_with (go_at_call 75; refine (HB.out _).mono ?_; rintro e w2 ⟨rfl, rfl⟩)
    all_goals
      go_wp2_with fail
      exact bodyPost_ret (v := .agg #[.int .u64 la, .int .i64 lb, .pointer none]) (by simp [results, Yba.results48, go_sem]) rfl ⟨rfl, (al (al (al (al (Below.refl _ w) _) _) _) _).drew⟩
  · rw [if_neg hc]
    simp only [decide_eq_false hc, tv] at HB ⊢
    clear hc
    generalize t % 1000000000 = ta at *
    generalize t / 1000000000 = tb at *
    generalize l % 1000000000 = la at *
    generalize l / 1000000000 = lb at *
    go_enter Yba.func48, Yba.ntmps48
    go_wp2_with fail
    go_region_with (go_at_call 75; refine (HB.out _).mono ?_; rintro e w2 ⟨rfl, rfl⟩)
    all_goals
      go_wp2_with fail
      exact bodyPost_ret (v := .agg #[.int .u64 ta, .int .i64 tb, .pointer none]) (by simp [results, Yba.results48, go_sem]) rfl ⟨rfl, (al (al (al (al (Below.refl _ w) _) _) _) _).drew⟩

theorem run_store_float {P : Program} {w : World} {a : Addr} {m : Mode} (k : FloatKind) (b : Nat) : (store a (.float k b) m).run P w = stored P w a (.float k b) m := run_store P w a _ m rfl

attribute [local go_sem] run_store_float in
set_option maxHeartbeats 8000000 in
set_option maxRecDepth 100000 in
theorem settled_any (L : Nat) (mu : Int) (r : Nat) (n : Int) (T : Nat) (z l : Int) (T2 : Nat) (z2 t : Int) (w : World) (h : Lim w L mu r n T z l T2 z2) :
    Calls Yba.prog 49 #[.pointer (some ⟨L, 0, none⟩), tv t] w fun e w' => e = .returned (.tuple #[.agg #[.float .f64 T, .float .f64 0, .int .u64 (z % 1000000000), .int .i64 (z / 1000000000), .pointer none], .bool false]) ∧ Below w.heap.size w w' := by
  have hL := blk_lt h
  have c5 := h.c5
  have c6 := h.c6
  have c7 := h.c7
  have c8 := h.c8
  have c9 := h.c9
  have c29 := h.c29
  clear h
  simp only [tv]
  generalize t % 1000000000 = ta at *
  generalize t / 1000000000 = tb at *
  generalize z % 1000000000 = za at *
  generalize z / 1000000000 = zb at *
  go_enter Yba.func49, Yba.ntmps49
  go_wp2_with fail
  exact bodyPost_ret (v := .tuple #[.agg #[.float .f64 T, .float .f64 0, .int .u64 za, .int .i64 zb, .pointer none], .bool false]) (by simp [results, Yba.results49, go_sem]) rfl ⟨rfl, al (al (Below.refl _ w) _) _⟩

end Go.Proofs.Ybulkcghm.Lm
