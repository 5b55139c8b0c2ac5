import Derived.Test.YbulkcghmUnl
namespace Go.Proofs.Ybulkcghm.Bk
open Go.RowKit Go.Deep
open Go.Proofs.Ybulkcghm.Flt (F)
open Go.Proofs.Ybulkcghm.Avl
open Go.Proofs.Ybulkcghm.Srt
set_option linter.unusedVariables false
set_option linter.unusedSimpArgs false
attribute [local go_sem] run_store_float

/-- Of what was there only the header and the table have turned. -/
structure Two (p g : Nat) (w w' : World) : Prop where
  os : w'.os = w.os
  tape : w'.tape = w.tape
  output : w'.output = w.output
  size : w.heap.size ≤ w'.heap.size
  block : ∀ k, k < w.heap.size → k ≠ p → k ≠ g → w'.heap[k]? = w.heap[k]?

namespace Two
variable {p g : Nat} {w w' w'' : World}
theorem refl (p g : Nat) (w : World) : Two p g w w := ⟨rfl, rfl, rfl, Nat.le_refl _, fun _ _ _ _ => rfl⟩
theorem trans (h : Two p g w w') (k : Two p g w' w'') : Two p g w w'' :=
  ⟨k.os.trans h.os, k.tape.trans h.tape, k.output.trans h.output, Nat.le_trans h.size k.size, fun i hi hp hg => (k.block i (Nat.lt_of_lt_of_le hi h.size) hp hg).trans (h.block i hi hp hg)⟩
theorem drew (h : Two p g w w') : Two p g w w'.drew := ⟨h.os, h.tape, h.output, h.size, h.block⟩
theorem drewN (h : Two p g w w') (n : Nat) : Two p g w (w'.drewN n) := ⟨h.os, h.tape, h.output, h.size, h.block⟩
theorem alloc (h : Two p g w w') (o : Obj) : Two p g w (w'.alloc o) := h.trans ⟨rfl, rfl, rfl, by simp, fun k hk _ _ => blk_alloc_lt _ _ _ hk⟩
theorem setp (h : Two p g w w') (o : Nat) (v : Value) : Two p g w (w'.setCell ⟨p, o, none⟩ v) :=
  h.trans ⟨rfl, rfl, rfl, by simp [World.setCell], fun k _ hk _ => blk_setCell_other _ _ _ _ hk⟩
theorem only (h : Two p g w w') (k : Only g w' w'') : Two p g w w'' :=
  h.trans ⟨k.os, k.tape, k.output, k.size, fun i hi _ hg => k.block i hi hg⟩
/-- A store into a block that is new. -/
theorem setn (h : Two p g w w') {b : Nat} (hb : w.heap.size ≤ b) (o : Nat) (v : Value) : Two p g w (w'.setCell ⟨b, o, none⟩ v) :=
  ⟨h.os, h.tape, h.output, by have := h.size; simp [World.setCell]; exact this, fun k hk hp hg => by
    rw [blk_setCell_other _ _ _ _ (show k ≠ b by omega)]; exact h.block k hk hp hg⟩
theorem below (h : Two p g w w') {B : Nat} {w0 : World} (hb : Below B w0 w) (hB : B ≤ w.heap.size) (hp : B ≤ p) (hg : B ≤ g) : Below B w0 w' :=
  hb.trans ⟨h.os, h.tape, h.output, h.size, fun k hk => h.block k (by omega) (by omega) (by omega)⟩
end Two

theorem hdr_set2 {w : World} {p : Nat} {a b c d v : Value} {t : TypeId} (h : w.heap[p]? = some (.cells #[a, b, c, d] t (0, 0))) : (w.setCell ⟨p, 2, none⟩ v).heap[p]? = some (.cells #[a, b, v, d] t (0, 0)) := by
  simp [World.setCell, Array.getElem?_modify, h]

/-- A freed node. -/
def freed (fr : Nat) : Nd := ⟨0, 0, 0, 0, fr, 0, 0, 0⟩

set_option maxHeartbeats 4000000 in
set_option maxRecDepth 100000 in
theorem recycle_any (p g len cap root fr i : Nat) (N : Nat → Nd) (w : World) (hT : Tab w g len cap N) (hH : Hdr w p g len cap root fr) (hi : i < len) :
    Calls Yba.prog 40 #[.pointer (some ⟨p, 0, none⟩), .int .i64 i] w fun e w' => e = .returned (.tuple #[]) ∧ Two p g w w' ∧ Hdr w' p g len cap root i ∧ Tab w' g len cap (put N i (freed fr)) := by
  have h0 := hH.nodes
  have hpg := hH.ne hT
  have h2 := cellB hH 2
  have h2f := freeB hH 2
  simp only [List.getElem?_toArray, List.getElem?_cons_succ, List.getElem?_cons_zero] at h2
  have k0 := hT.cell (k := 0) hi (by omega)
  have k1 := hT.cell (k := 1) hi (by omega)
  have k2 := hT.cell (k := 2) hi (by omega)
  have k3 := hT.cell (k := 3) hi (by omega)
  have k4 := hT.cell (k := 4) hi (by omega)
  have k5 := hT.cell (k := 5) hi (by omega)
  have k6 := hT.cell (k := 6) hi (by omega)
  have k7 := hT.cell (k := 7) hi (by omega)
  have k8 := hT.cell (k := 8) hi (by omega)
  have k9 := hT.cell (k := 9) hi (by omega)
  have k10 := hT.cell (k := 10) hi (by omega)
  have k11 := hT.cell (k := 11) hi (by omega)
  have k12 := hT.cell (k := 12) hi (by omega)
  have k13 := hT.cell (k := 13) hi (by omega)
  have k14 := hT.cell (k := 14) hi (by omega)
  simp only [Nat.add_zero] at k0
  have kf := hT.free
  have hT4 := hT.putAll hi (freed fr) [.int .u64 0, .int .u64 0, .int .i64 0, .pointer none, .float .f64 0, .int .u8 0, .int .i64 0, .int .i64 fr, .int .i64 0, .float .f64 0, .int .i64 0, .int .i64 0, .int .i64 0, .float .f64 0, .bool false] rfl (by
    intro k hk
    match k, hk with
    | 4, _ => simp [fld, freed, Flt.F_zero]
    | 9, _ => simp [fld, freed, Flt.F_zero]
    | 0, _ | 1, _ | 2, _ | 3, _ | 5, _ | 6, _ | 7, _ | 8, _ | 10, _ | 11, _ | 12, _ | 13, _ | 14, _ => simp [fld, freed])
  have O4 := sets_only [.int .u64 0, .int .u64 0, .int .i64 0, .pointer none, .float .f64 0, .int .u8 0, .int .i64 0, .int .i64 fr, .int .i64 0, .float .f64 0, .int .i64 0, .int .i64 0, .int .i64 0, .float .f64 0, .bool false] (i * 15) w (Only.refl g w)
  simp only [sets, Nat.add_assoc, Nat.reduceAdd] at hT4 O4
  replace hT4 := hT4.drew
  replace O4 := O4.drew
  go_enter Yba.func40, Yba.ntmps40
  go_wp2_with fail
  go_region
  clear k0 k1 k2 k3 k4 k5 k6 k7 k8 k9 k10 k11 k12 k13 k14 kf h0 h2 h2f
  revert hT4 O4
  generalize (World.drew _) = w4
  intro hT4 O4
  have hH4 := hH.kept O4 hpg
  have s2 := cellB hH4 2
  have s2f := freeB hH4 2
  simp only [List.getElem?_toArray, List.getElem?_cons_succ, List.getElem?_cons_zero] at s2
  have hH5 : Hdr (w4.setCell ⟨p, 2, none⟩ (.int .i64 (i : Int))) p g len cap root i := hdr_set2 hH4
  have hT5 : Tab (w4.setCell ⟨p, 2, none⟩ (.int .i64 (i : Int))) g len cap (put N i (freed fr)) := hT4.of_block (blk_setCell_other _ _ _ _ (Ne.symm hpg))
  have O5 : Two p g w (w4.setCell ⟨p, 2, none⟩ (.int .i64 (i : Int))) := ((Two.refl p g w).only O4).setp 2 _
  clear hT4 O4 hH4
  go_wp2_with fail
  go_end0
  exact ⟨rfl, O5, hH5, hT5⟩

/-- What removeFirst leaves. -/
structure RPost (N N' : Nat → Nd) (root' : Nat) (l' : List Nat) : Prop where
  tree : T N' root' l'
  z : N' 0 = nul
  id : ∀ j, j ∈ l' → (N' j).id = (N j).id
  t : ∀ j, j ∈ l' → (N' j).t = (N j).t
  tok : ∀ j, j ∈ l' → (N' j).tok = (N j).tok

theorem RPost.of {N N1 : Nat → Nd} {r x fr h : Nat} {l' : List Nat} (z : N 0 = nul) (nd : (x :: l').Nodup) (hx : x ≠ 0) (P : UPost N N1 r x l' h) : RPost N (put N1 x (freed fr)) r l' := by
  have xl : x ∉ l' := (List.nodup_cons.1 nd).1
  have en : ∀ j, j ∈ l' → put N1 x (freed fr) j = N1 j := fun j hj => put_ne _ _ (fun e => xl (e ▸ hj))
  have e0 : put N1 x (freed fr) 0 = N1 0 := put_ne _ _ (Ne.symm hx)
  have z1 : 0 ∉ x :: l' := fun h => by rcases List.mem_cons.1 h with e | e; exact hx e.symm; exact P.tree.pos e
  exact ⟨P.tree.frame e0 en, by rw [e0, P.frame 0 z1]; exact z, fun j hj => by rw [en j hj, P.id], fun j hj => by rw [en j hj, P.t], fun j hj => by rw [en j hj, P.tok]⟩

set_option maxHeartbeats 4000000 in
set_option maxRecDepth 100000 in
theorem removeFirst_any (p g len cap root fr : Nat) (N : Nat → Nd) (l : List Nat) (w : World) (hT : Tab w g len cap N) (hH : Hdr w p g len cap root fr) (hr0 : root ≠ 0) (tr : T N root l) (nd : l.Nodup) (f : Fine N len l) :
    Calls Yba.prog 18 #[.pointer (some ⟨p, 0, none⟩)] w fun e w' => ∃ N' r x l', l = x :: l' ∧ e = .returned (.agg (bc (N x).id (N x).t (N x).tok)) ∧ Two p g w w' ∧ Hdr w' p g len cap r x ∧ Tab w' g len cap N' ∧ RPost N N' r l' := by
  have hpg := hH.ne hT
  have hpl := hH.lt
  have hgl := hT.lt
  have h1 := cellB hH 1
  simp only [List.getElem?_toArray, List.getElem?_cons_succ, List.getElem?_cons_zero] at h1
  have HU := hideP (unlink_any p g len cap root fr N tr hr0 nd f)
  have HND := hideP nd
  have HF := hideP f
  have HTR := hideP tr
  clear nd f tr
  go_enter Yba.func18, Yba.ntmps18
  go_wp2_with fail
  have O0 : Only g w (w.alloc (Obj.cells #[.int .u64 0, .int .u64 0, .int .i64 0, .pointer none, .float .f64 0, .int .u8 0] 53)) := (Only.refl g w).alloc _
  have R0 : (w.alloc (Obj.cells #[.int .u64 0, .int .u64 0, .int .i64 0, .pointer none, .float .f64 0, .int .u8 0] 53)).heap[w.heap.size]? = some (.cells #[.int .u64 0, .int .u64 0, .int .i64 0, .pointer none, .float .f64 0, .int .u8 0] 53 (0, 0)) := blk_alloc_new _ _
  have S0 : (w.alloc (Obj.cells #[.int .u64 0, .int .u64 0, .int .i64 0, .pointer none, .float .f64 0, .int .u8 0] 53)).heap.size = w.heap.size + 1 := nblk_alloc _ _
  refine (HU.out _ (hT.alloc _) (hH.kept O0 hpg)).mono ?_
  rintro e w2 ⟨N1, r, x, rfl, O2, hT2, l', rfl, P1⟩
  have R2 : w2.heap[w.heap.size]? = some (.cells #[.int .u64 0, .int .u64 0, .int .i64 0, .pointer none, .float .f64 0, .int .u8 0] 53 (0, 0)) := by
    rw [O2.block _ (by rw [S0]; omega) (by omega)]; exact R0
  have O02 := O0.trans O2
  have hH2 := hH.kept O02 hpg
  have hx : x < len := HF.out.lt x (by simp)
  have hx0 : x ≠ 0 := fun h => HTR.out.pos (by rw [h]; simp)
  have hs2 : w.heap.size < w2.heap.size := by have := O2.size; rw [S0] at this; omega
  have RP := hideP (RPost.of (fr := fr) HF.out.z HND.out hx0 P1)
  have k0 := hT2.cell (k := 0) hx (by omega)
  have k1 := hT2.cell (k := 1) hx (by omega)
  have k2 := hT2.cell (k := 2) hx (by omega)
  have k3 := hT2.cell (k := 3) hx (by omega)
  have k4 := hT2.cell (k := 4) hx (by omega)
  have k5 := hT2.cell (k := 5) hx (by omega)
  simp only [fld, Nat.add_zero] at k0 k1 k2 k3 k4 k5
  rw [P1.id] at k0
  rw [P1.t] at k1 k2
  rw [P1.tok] at k4
  have n2 := hH2.nodes
  have m1 := cellB hH2 1
  have m1f := freeB hH2 1
  simp only [List.getElem?_toArray, List.getElem?_cons_succ, List.getElem?_cons_zero] at m1
  -- the world ahead of recycle
  have hpl2 : p < w2.heap.size := hH2.lt
  have hgl2 : g < w2.heap.size := hT2.lt
  have z2 : (w2.setCell ⟨p, 1, none⟩ (.int .i64 (r : Int))).heap.size = w2.heap.size := nblk_setCell _ _ _
  have E3 : ∀ e : Array Value, ((w2.setCell ⟨p, 1, none⟩ (.int .i64 (r : Int))).alloc (.cells e 53)).heap[w2.heap.size]? = some (.cells e 53 (0, 0)) := fun e => by
    rw [← z2]; exact blk_alloc_new _ _
  have H3 : ∀ e : Array Value, Hdr ((w2.setCell ⟨p, 1, none⟩ (.int .i64 (r : Int))).alloc (.cells e 53)) p g len cap r fr := fun e => by
    unfold Hdr
    rw [blk_alloc_lt _ _ _ (by rw [z2]; exact hpl2)]
    exact hdr_set1 hH2
  have T3 : ∀ e : Array Value, Tab ((w2.setCell ⟨p, 1, none⟩ (.int .i64 (r : Int))).alloc (.cells e 53)) g len cap N1 := fun e => (hT2.of_block (blk_setCell_other _ _ _ _ (Ne.symm hpg))).alloc _
  have R3 : ∀ e : Array Value, ((w2.setCell ⟨p, 1, none⟩ (.int .i64 (r : Int))).alloc (.cells e 53)).heap[w.heap.size]? = some (.cells #[.int .u64 0, .int .u64 0, .int .i64 0, .pointer none, .float .f64 0, .int .u8 0] 53 (0, 0)) := fun e => by
    rw [blk_alloc_lt _ _ _ (by rw [z2]; exact hs2), blk_setCell_other _ _ _ _ (show w.heap.size ≠ p by omega)]; exact R2
  have W3 : ∀ e : Array Value, Two p g w ((w2.setCell ⟨p, 1, none⟩ (.int .i64 (r : Int))).alloc (.cells e 53)) := fun e => (((Two.refl p g w).only O02).setp 1 _).alloc _
  have HX := hideP (And.intro E3 (And.intro H3 (And.intro T3 (And.intro R3 W3))))
  clear E3 H3 T3 R3 W3 O0 R0 S0 O2 R2 O02 HU P1 z2
  obtain ⟨xi, hxi⟩ : ∃ a, a = (N x).id := ⟨_, rfl⟩
  obtain ⟨xa, hxa⟩ : ∃ a, a = (N x).t % 1000000000 := ⟨_, rfl⟩
  obtain ⟨xb, hxb⟩ : ∃ a, a = (N x).t / 1000000000 := ⟨_, rfl⟩
  obtain ⟨xk, hxk⟩ : ∃ a, a = (N x).tok := ⟨_, rfl⟩
  rw [← hxi] at k0
  rw [← hxa] at k1
  rw [← hxb] at k2
  rw [← hxk] at k4
  have HE : Hid (Value.agg #[.int .u64 xi, .int .u64 xa, .int .i64 xb, .pointer none, .float .f64 (F xk), .int .u8 0] = .agg (bc (N x).id (N x).t (N x).tok)) := by
    unfold Hid bc
    rw [hxi, hxa, hxb, hxk]
  clear hxi hxa hxb hxk
  clear h1
  go_wp2_with fail
  obtain ⟨E3, H3, T3, R3, W3⟩ := HX.out
  refine (recycle_any p g len cap r fr x N1 _ (T3 _) (H3 _) hx).mono ?_
  rintro e w4 ⟨rfl, O4, H4, T4⟩
  have W4 := (W3 _).trans O4
  have R3' := R3 #[.int .u64 xi, .int .u64 xa, .int .i64 xb, .pointer none, .float .f64 (F xk), .int .u8 0]
  have E3' := E3 #[.int .u64 xi, .int .u64 xa, .int .i64 xb, .pointer none, .float .f64 (F xk), .int .u8 0]
  have R4 : w4.heap[w.heap.size]? = some (.cells #[.int .u64 0, .int .u64 0, .int .i64 0, .pointer none, .float .f64 0, .int .u8 0] 53 (0, 0)) := by
    rw [O4.block _ (Array.getElem?_eq_some_iff.1 R3').1 (by omega) (by omega)]; exact R3'
  have E4 : w4.heap[w2.heap.size]? = some (.cells #[.int .u64 xi, .int .u64 xa, .int .i64 xb, .pointer none, .float .f64 (F xk), .int .u8 0] 53 (0, 0)) := by
    rw [O4.block _ (Array.getElem?_eq_some_iff.1 E3').1 (by omega) (by omega)]; exact E3'
  clear HX E3 H3 T3 R3 W3 R3' E3' O4 k0 k1 k2 k3 k4 k5 n2 m1 m1f
  have e0 := cellB E4 0
  have e1 := cellB E4 1
  have e2 := cellB E4 2
  have e3 := cellB E4 3
  have e4 := cellB E4 4
  have e5 := cellB E4 5
  have r0 := cellB R4 0
  have r1 := cellB R4 1
  have r2 := cellB R4 2
  have r3 := cellB R4 3
  have r4 := cellB R4 4
  have r5 := cellB R4 5
  have rf := freeB R4
  simp only [List.getElem?_toArray, List.getElem?_cons_succ, List.getElem?_cons_zero] at e0 e1 e2 e3 e4 e5 r0 r1 r2 r3 r4 r5
  have H4' := hideP H4
  have T4' := hideP T4
  have W4' := hideP W4
  clear H4 T4 W4
  go_wp2_with fail
  have wz : ∀ (W : World) (o : Nat) (v : Value), w.heap.size ≠ p ∧ w.heap.size ≠ g ∧ Two p g w W → Two p g w (W.setCell ⟨w.heap.size, o, none⟩ v) := fun W o v h => h.2.2.setn (Nat.le_refl _) o v
  have hz1 : w.heap.size ≠ p := by omega
  have hz2 : w.heap.size ≠ g := by omega
  refine bodyPost_ret (v := .agg #[.int .u64 xi, .int .u64 xa, .int .i64 xb, .pointer none, .float .f64 (F xk), .int .u8 0]) (by simp [results, Yba.results18, go_sem, r0, r1, r2, r3, r4, r5]) rfl ⟨_, r, x, l', rfl, ?_, ?_, ?_, ?_, RP.out⟩
  · rw [HE.out]
  · exact wz _ _ _ ⟨hz1, hz2, wz _ _ _ ⟨hz1, hz2, wz _ _ _ ⟨hz1, hz2, wz _ _ _ ⟨hz1, hz2, wz _ _ _ ⟨hz1, hz2, wz _ _ _ ⟨hz1, hz2, W4'.out⟩⟩⟩⟩⟩⟩
  · unfold Hdr
    rw [blk_setCell_other _ _ _ _ (Ne.symm hz1), blk_setCell_other _ _ _ _ (Ne.symm hz1), blk_setCell_other _ _ _ _ (Ne.symm hz1), blk_setCell_other _ _ _ _ (Ne.symm hz1), blk_setCell_other _ _ _ _ (Ne.symm hz1), blk_setCell_other _ _ _ _ (Ne.symm hz1)]
    exact H4'.out
  · refine T4'.out.of_block ?_
    rw [blk_setCell_other _ _ _ _ (Ne.symm hz2), blk_setCell_other _ _ _ _ (Ne.symm hz2), blk_setCell_other _ _ _ _ (Ne.symm hz2), blk_setCell_other _ _ _ _ (Ne.symm hz2), blk_setCell_other _ _ _ _ (Ne.symm hz2), blk_setCell_other _ _ _ _ (Ne.symm hz2)]

end Go.Proofs.Ybulkcghm.Bk
