import Derived.Test.YbulkcghmProg
import Derived.WalkKit
import Derived.Below
import Derived.Deep.OwnRows
import Derived.BigQuiet
import Derived.Deep.QuietTactic
import Derived.WalkSpells
import Derived.WalkSmall
import Derived.BigRegion
import Derived.Laws.FloatArith
import Derived.Test.YbulkcghmFlt
import Derived.Test.YbulkcghmAvl
import Derived.Test.YbulkcghmTime
namespace Go.Proofs.Ybulkcghm.Bk
open Go.RowKit Go.Deep
set_option linter.unusedVariables false

open Go.Proofs.Ybulkcghm.Flt (F)

open Go.Proofs.Ybulkcghm.Avl

/-- Its fifteen cells. -/
def fld (x : Nd) : Nat → Value
  | 0 => .int .u64 x.id
  | 1 => .int .u64 (x.t % 1000000000)
  | 2 => .int .i64 (x.t / 1000000000)
  | 3 => .pointer none
  | 4 => .float .f64 (F x.tok)
  | 5 => .int .u8 0
  | 6 => .int .i64 x.l
  | 7 => .int .i64 x.r
  | 8 => .int .i64 x.h
  | 9 => .float .f64 (F x.s)
  | 10 => .int .i64 x.c
  | 11 => .int .i64 0
  | 12 => .int .i64 0
  | 13 => .float .f64 0
  | _ => .bool false

/-- The node table: block g, len nodes in use. -/
def Tab (w : World) (g len cap : Nat) (N : Nat → Nd) : Prop :=
  ∃ c : Array Value, w.heap[g]? = some (.cells c 108 (0, 0)) ∧ c.size = cap * 15 ∧ len ≤ cap ∧ ∀ i, i < len → ∀ k, k < 15 → c[i * 15 + k]? = some (fld (N i) k)

namespace Tab
variable {w : World} {g len cap : Nat} {N : Nat → Nd}

theorem cell (h : Tab w g len cap N) {i k : Nat} (hi : i < len) (hk : k < 15) : w.cell? ⟨g, i * 15 + k, none⟩ = some (fld (N i) k) := by
  obtain ⟨c, hc, _, _, hf⟩ := h
  simp [World.cell?, hc, hf i hi k hk]

theorem free (h : Tab w g len cap N) (o : Nat) : w.frozen? ⟨g, o, none⟩ = false := by
  obtain ⟨c, hc, _, _, hf⟩ := h
  simp [World.frozen?, hc]

theorem lt (h : Tab w g len cap N) : g < w.heap.size := by
  obtain ⟨c, hb, _, _⟩ := h
  exact (Array.getElem?_eq_some_iff.1 hb).1

theorem of_block {w' : World} (h : Tab w g len cap N) (e : w'.heap[g]? = w.heap[g]?) : Tab w' g len cap N := by
  obtain ⟨c, hb, r⟩ := h
  exact ⟨c, e.trans hb, r⟩

/-- A store into field k of node i. -/
theorem set (h : Tab w g len cap N) {i k : Nat} (hi : i < len) (hk : k < 15) (x : Nd) (v : Value) (hv : fld x k = v) (ho : ∀ k', k' < 15 → k' ≠ k → fld x k' = fld (N i) k') :
    Tab (w.setCell ⟨g, i * 15 + k, none⟩ v) g len cap (put N i x) := by
  obtain ⟨c, hb, hn, hl, hc⟩ := h
  refine ⟨c.setIfInBounds (i * 15 + k) v, ?_, by simpa using hn, hl, fun j hj k' hk' => ?_⟩
  · simp [World.setCell, Array.getElem?_modify, hb]
  · rw [Array.getElem?_setIfInBounds]
    by_cases e : i * 15 + k = j * 15 + k'
    · have e1 : j = i := by omega
      have e2 : k' = k := by omega
      subst e1; subst e2
      rw [if_pos rfl, if_pos (by omega), put_same, hv]
    · rw [if_neg e, hc j hj k' hk']
      by_cases e1 : j = i
      · subst e1
        rw [put_same, ho k' hk' (by omega)]
      · rw [put_ne _ _ e1]

theorem drewN (h : Tab w g len cap N) (n : Nat) : Tab (w.drewN n) g len cap N := h
theorem drew (h : Tab w g len cap N) : Tab w.drew g len cap N := h

theorem congr {N' : Nat → Nd} (h : Tab w g len cap N) (e : ∀ i, i < len → N i = N' i) : Tab w g len cap N' := by
  obtain ⟨c, hb, hn, hl, hc⟩ := h
  exact ⟨c, hb, hn, hl, fun i hi k hk => by rw [← e i hi]; exact hc i hi k hk⟩

variable {i : Nat} {y : Nd}
theorem cell_ne (h : Tab w g len cap (put N i y)) {j k : Nat} (hj : j < len) (hji : j ≠ i) (hk : k < 15) : w.cell? ⟨g, j * 15 + k, none⟩ = some (fld (N j) k) := by
  rw [h.cell hj hk, put_ne _ _ hji]
theorem cell_eq (h : Tab w g len cap (put N i y)) {k : Nat} (hi : i < len) (hk : k < 15) : w.cell? ⟨g, i * 15 + k, none⟩ = some (fld y k) := by
  rw [h.cell hi hk, put_same]

theorem st (h : Tab w g len cap (put N i y)) (hi : i < len) {k : Nat} (hk : k < 15) (y' : Nd) (v : Value) (hv : fld y' k = v) (ho : ∀ k', k' < 15 → k' ≠ k → fld y' k' = fld y k') :
    Tab (w.setCell ⟨g, i * 15 + k, none⟩ v) g len cap (put N i y') := by
  have := h.set hi hk y' v hv (by rw [put_same]; exact ho)
  rwa [put_put] at this

theorem stl (h : Tab w g len cap (put N i y)) (hi : i < len) (a : Nat) : Tab (w.setCell ⟨g, i * 15 + 6, none⟩ (.int .i64 (a : Int))) g len cap (put N i { y with l := a }) :=
  h.st hi (by omega) _ _ (by simp only [fld]) (fun k' hk' hne => by
    match k', hk' with
    | 0, _ | 1, _ | 2, _ | 3, _ | 4, _ | 5, _ | 7, _ | 8, _ | 9, _ | 10, _ | 11, _ | 12, _ | 13, _ | 14, _ => simp only [fld]
    | 6, _ => exact absurd rfl hne)
theorem str (h : Tab w g len cap (put N i y)) (hi : i < len) (a : Nat) : Tab (w.setCell ⟨g, i * 15 + 7, none⟩ (.int .i64 (a : Int))) g len cap (put N i { y with r := a }) :=
  h.st hi (by omega) _ _ (by simp only [fld]) (fun k' hk' hne => by
    match k', hk' with
    | 0, _ | 1, _ | 2, _ | 3, _ | 4, _ | 5, _ | 6, _ | 8, _ | 9, _ | 10, _ | 11, _ | 12, _ | 13, _ | 14, _ => simp only [fld]
    | 7, _ => exact absurd rfl hne)
theorem sth (h : Tab w g len cap (put N i y)) (hi : i < len) (a : Nat) : Tab (w.setCell ⟨g, i * 15 + 8, none⟩ (.int .i64 (a : Int))) g len cap (put N i { y with h := a }) :=
  h.st hi (by omega) _ _ (by simp only [fld]) (fun k' hk' hne => by
    match k', hk' with
    | 0, _ | 1, _ | 2, _ | 3, _ | 4, _ | 5, _ | 6, _ | 7, _ | 9, _ | 10, _ | 11, _ | 12, _ | 13, _ | 14, _ => simp only [fld]
    | 8, _ => exact absurd rfl hne)
theorem sts (h : Tab w g len cap (put N i y)) (hi : i < len) (a : Nat) : Tab (w.setCell ⟨g, i * 15 + 9, none⟩ (.float .f64 (F a))) g len cap (put N i { y with s := a }) :=
  h.st hi (by omega) _ _ (by simp only [fld]) (fun k' hk' hne => by
    match k', hk' with
    | 0, _ | 1, _ | 2, _ | 3, _ | 4, _ | 5, _ | 6, _ | 7, _ | 8, _ | 10, _ | 11, _ | 12, _ | 13, _ | 14, _ => simp only [fld]
    | 9, _ => exact absurd rfl hne)
theorem stc (h : Tab w g len cap (put N i y)) (hi : i < len) (a : Nat) : Tab (w.setCell ⟨g, i * 15 + 10, none⟩ (.int .i64 (a : Int))) g len cap (put N i { y with c := a }) :=
  h.st hi (by omega) _ _ (by simp only [fld]) (fun k' hk' hne => by
    match k', hk' with
    | 0, _ | 1, _ | 2, _ | 3, _ | 4, _ | 5, _ | 6, _ | 7, _ | 8, _ | 9, _ | 11, _ | 12, _ | 13, _ | 14, _ => simp only [fld]
    | 10, _ => exact absurd rfl hne)
theorem stx (h : Tab w g len cap (put N i y)) (hi : i < len) {k : Nat} (hk : k < 15) (v : Value) (hv : fld y k = v) : Tab (w.setCell ⟨g, i * 15 + k, none⟩ v) g len cap (put N i y) :=
  h.st hi hk _ _ hv (fun _ _ _ => rfl)
end Tab

/-- Of what was there only block g has turned. -/
structure Only (g : Nat) (w w' : World) : Prop where
  os : w'.os = w.os
  tape : w'.tape = w.tape
  output : w'.output = w.output
  size : w.heap.size ≤ w'.heap.size
  block : ∀ k, k < w.heap.size → k ≠ g → w'.heap[k]? = w.heap[k]?

namespace Only
variable {g : Nat} {w w' w'' : World}
theorem refl (g : Nat) (w : World) : Only g w w := ⟨rfl, rfl, rfl, Nat.le_refl _, fun _ _ _ => rfl⟩
theorem trans (h : Only g w w') (k : Only g w' w'') : Only g w w'' :=
  ⟨k.os.trans h.os, k.tape.trans h.tape, k.output.trans h.output, Nat.le_trans h.size k.size, fun i hi hg => (k.block i (Nat.lt_of_lt_of_le hi h.size) hg).trans (h.block i hi hg)⟩
theorem drew (h : Only g w w') : Only g w w'.drew := ⟨h.os, h.tape, h.output, h.size, h.block⟩
theorem drewN (h : Only g w w') (n : Nat) : Only g w (w'.drewN n) := ⟨h.os, h.tape, h.output, h.size, h.block⟩
theorem set (h : Only g w w') (o : Nat) (v : Value) : Only g w (w'.setCell ⟨g, o, none⟩ v) :=
  h.trans ⟨rfl, rfl, rfl, by simp [World.setCell], fun k _ hk => blk_setCell_other _ _ _ _ hk⟩
theorem alloc (h : Only g w w') (o : Obj) : Only g w (w'.alloc o) :=
  h.trans ⟨rfl, rfl, rfl, by simp, fun k hk _ => blk_alloc_lt _ _ _ hk⟩
theorem cell (h : Only g w w') {b o : Nat} (hl : b < w.heap.size) (hb : b ≠ g) : w'.cell? ⟨b, o, none⟩ = w.cell? ⟨b, o, none⟩ := World.cell?_of_block (w := w) (h.block b hl hb)
theorem below (h : Only g w w') {B : Nat} {w0 : World} (hb : Below B w0 w) (hB : B ≤ w.heap.size) (hg : B ≤ g) : Below B w0 w' :=
  hb.trans ⟨h.os, h.tape, h.output, h.size, fun k hk => h.block k (by omega) (by omega)⟩
end Only

/-- The header: the slice of nodes, the root, the free list, the rate. -/
def Hdr (w : World) (p g len cap root fr : Nat) : Prop :=
  w.heap[p]? = some (.cells #[.slice (some ⟨g, 0, none⟩) len cap, .int .i64 root, .int .i64 fr, .float .f64 0] 88 (0, 0))

theorem Hdr.nodes {w : World} {p g len cap root fr : Nat} (h : Hdr w p g len cap root fr) : w.cell? ⟨p, 0, none⟩ = some (.slice (some ⟨g, 0, none⟩) len cap) := by
  unfold Hdr at h
  simp [World.cell?, h]

theorem Hdr.lt {w : World} {p g len cap root fr : Nat} (h : Hdr w p g len cap root fr) : p < w.heap.size := (Array.getElem?_eq_some_iff.1 h).1

theorem Hdr.ne {w : World} {p g len cap root fr : Nat} {N : Nat → Nd} (h : Hdr w p g len cap root fr) (hT : Tab w g len cap N) : p ≠ g := by
  intro e
  subst e
  obtain ⟨c, hc, _⟩ := hT
  unfold Hdr at h
  rw [h] at hc
  simp at hc

theorem Hdr.kept {w w' : World} {p g len cap root fr : Nat} (h : Hdr w p g len cap root fr) (ho : Only g w w') (hp : p ≠ g) : Hdr w' p g len cap root fr := by
  have hl := h.lt
  unfold Hdr at h ⊢
  rw [ho.block p hl hp]
  exact h

theorem run_store_float {P : Program} {w : World} {a : Addr} {m : Mode} (k : FloatKind) (b : Nat) : (store a (.float k b) m).run P w = stored P w a (.float k b) m := run_store P w a _ m rfl

theorem run_F_add (a b : Nat) (ha : a < 9007199254740992) (hb : b < 9007199254740992) (t : TypeId) (w : World) : (binOp .add t (.float .f64 (F a)) (.float .f64 (F b))).run Yba.prog w = .ok (.float .f64 (F (a + b))) w :=
  run_float_arith w .add t .f64 _ _ _ (Flt.F_add a b ha hb)

end Go.Proofs.Ybulkcghm.Bk
