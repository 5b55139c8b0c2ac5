import Derived.Test.YbulkcghmIns2
import Derived.Test.YbulkcghmApp
import Derived.Test.YbulkcghmPut
import Derived.BigRegion
namespace Go.Proofs.Ybulkcghm.Bk
open Go.RowKit Go.Deep
open Go.Proofs.Ybulkcghm.Flt (F)
open Go.Proofs.Ybulkcghm.Avl
open Go.Proofs.Ybulkcghm.Srt
set_option linter.unusedVariables false
attribute [local go_sem] run_store_float

/-- A booking's six cells. -/
def bc (id : Nat) (t : Int) (tok : Nat) : Array Value := #[.int .u64 id, .int .u64 (t % 1000000000), .int .i64 (t / 1000000000), .pointer none, .float .f64 (F tok), .int .u8 0]

/-- The node that insert lays: e, and nothing below. -/
def fresh (id : Nat) (t : Int) (tok : Nat) : Nd := ⟨id, t, tok, 0, 0, 0, 0, 0⟩

theorem hdr_set {w : World} {p : Nat} {a b c d v : Value} {t : TypeId} (h : w.heap[p]? = some (.cells #[a, b, c, d] t (0, 0))) : (w.setCell ⟨p, 0, none⟩ v).heap[p]? = some (.cells #[v, b, c, d] t (0, 0)) := by
  simp [World.setCell, Array.getElem?_modify, h]

theorem hdr_set1 {w : World} {p : Nat} {a b c d v : Value} {t : TypeId} (h : w.heap[p]? = some (.cells #[a, b, c, d] t (0, 0))) : (w.setCell ⟨p, 1, none⟩ v).heap[p]? = some (.cells #[a, v, c, d] t (0, 0)) := by
  simp [World.setCell, Array.getElem?_modify, h]

theorem cellB {w : World} {b : Nat} {c : Array Value} {t : TypeId} {f : Nat × Nat} (h : w.heap[b]? = some (.cells c t f)) (i : Nat) : w.cell? ⟨b, i, none⟩ = c[i]? := by
  simp [World.cell?, h]

theorem freeB {w : World} {b : Nat} {c : Array Value} {t : TypeId} (h : w.heap[b]? = some (.cells c t (0, 0))) (i : Nat) : w.frozen? ⟨b, i, none⟩ = false := by
  simp [World.frozen?, h]

theorem hdr_after {w w2 : World} {p g len cap root fr : Nat} {N : Nat → Nd} {o o' : Obj} (hT : Tab w g len cap N) (hH : Hdr w p g len cap root fr) (hg : ((w.alloc o).alloc o').grownBy w2 (some g)) :
    w2.heap[p]? = some (.cells #[.slice (some ⟨g, 0, none⟩) len cap, .int .i64 root, .int .i64 fr, .float .f64 0] 88 (0, 0)) := by
  have hpg := hH.ne hT
  have hpl := hH.lt
  rw [hg.block p (by simp; omega) (by simp [hpg]), blk_alloc_lt _ _ _ (by simp; omega), blk_alloc_lt _ _ _ (by omega)]
  exact hH

/-- Behind the append of a node. -/
structure Aft (B : Nat) (w0 w3 : World) (p g len cap root bx : Nat) (N : Nat → Nd) (e : Array Value) : Prop where
  below : Below B w0 w3
  tab : Tab w3 g len cap N
  hdr : Hdr w3 p g len cap root 0
  box : w3.heap[bx]? = some (.cells e 53 (0, 0))
  cap : cap ≤ maxLen
  bg : B ≤ g
  bp : B ≤ p

theorem aft_append {B : Nat} {w0 w w2 : World} {p g len cap root g' cap' : Nat} {N : Nat → Nd} {e z : Array Value} (hB : Below B w0 w) (hBw : B ≤ w.heap.size) (hBp : B ≤ p) (hBg : B ≤ g) (hT : Tab w g len cap N) (hH : Hdr w p g len cap root 0)
    (hT' : Tab w2 g' (len + 1) cap' (put N len nul)) (hc : cap' ≤ maxLen) (hb : B ≤ g') (hg : ((w.alloc (.cells e 53)).alloc (.cells z 108)).grownBy w2 (some g)) :
    Aft B w0 (w2.setCell ⟨p, 0, none⟩ (.slice (some ⟨g', 0, none⟩) (len + 1) cap')) p g' (len + 1) cap' root w.heap.size (put N len nul) e := by
  have hpg := hH.ne hT
  have hpl := hH.lt
  have hgl := hT.lt
  have eP : w2.heap[p]? = w.heap[p]? := by
    rw [hg.block p (by simp; omega) (by simp [hpg]), blk_alloc_lt _ _ _ (by simp; omega), blk_alloc_lt _ _ _ (by omega)]
  have eB : w2.heap[w.heap.size]? = some (.cells e 53 (0, 0)) := by
    rw [hg.block w.heap.size (by simp; omega) (by simp; omega), blk_alloc_lt _ _ _ (by simp), blk_alloc_new]
  have hP : w2.heap[p]? = some (.cells #[.slice (some ⟨g, 0, none⟩) len cap, .int .i64 root, .int .i64 (0 : Nat), .float .f64 0] 88 (0, 0)) := eP.trans hH
  have hpg' : g' ≠ p := by
    intro e
    subst e
    obtain ⟨c, hc, _⟩ := hT'
    rw [hP] at hc
    simp at hc
  refine ⟨?_, hT'.of_block (blk_setCell_other _ _ _ _ hpg'), hdr_set hP, ?_, hc, hb, hBp⟩
  · have b1 : Below B w0 ((w.alloc (.cells e 53)).alloc (.cells z 108)) := (hB.alloc hBw _).alloc (by simp; omega) _
    exact (b1.grown hg (by simp; omega) (fun k hk => by cases hk; exact hBg)).setCell hBp _
  · rw [blk_setCell_other _ _ _ _ (by show w.heap.size ≠ p; omega)]; exact eB

/-- What insert leaves of the tree. -/
structure InsPost (N N' : Nat → Nd) (root' x : Nat) (l : List Nat) (id tok : Nat) (t : Int) : Prop where
  tree : T N' root' (ins (fun j => (N' j).t) x l)
  z : N' 0 = nul
  nid : (N' x).id = id
  nt : (N' x).t = t
  ntok : (N' x).tok = tok
  oid : ∀ j, j ≠ x → (N' j).id = (N j).id
  ot : ∀ j, j ≠ x → (N' j).t = (N j).t
  otok : ∀ j, j ≠ x → (N' j).tok = (N j).tok

/-- What insert asks of it. -/
structure InsPre (N : Nat → Nd) (root x : Nat) (l : List Nat) (tok : Nat) : Prop where
  tree : T N root l
  z : N 0 = nul
  x0 : x ≠ 0
  lt : ∀ j, j ∈ l → j < x
  nd : l.Nodup
  tk : ∀ j, j ∈ l → (N j).tok ≤ 1024
  tk' : tok ≤ 1024
  len : l.length + 1 ≤ 1024
  srt : Sorted (fun j => (N j).t) l

theorem InsPre.updPre {N : Nat → Nd} {root x : Nat} {l : List Nat} {tok : Nat} (h : InsPre N root x l tok) (id : Nat) (t : Int) : UpdPre (put N x (fresh id t tok)) (x + 1) x := by
  have hx0 := h.x0
  have e : put N x (fresh id t tok) x = fresh id t tok := put_same _ _ _
  have e0 : put N x (fresh id t tok) 0 = nul := by rw [put_ne _ _ (Ne.symm hx0)]; exact h.z
  have tk := h.tk'
  refine ⟨by omega, by rw [e]; show 0 < x + 1; omega, by rw [e]; show 0 < x + 1; omega, by rw [e]; exact Ne.symm hx0, by rw [e]; exact Ne.symm hx0, ?_, ?_, by rw [e]; show tok ≤ _; omega⟩
  · rw [e]; show Bq _ (put N x (fresh id t tok) 0); rw [e0]; exact ⟨by simp [nul], by simp [nul], by simp [nul]⟩
  · rw [e]; show Bq _ (put N x (fresh id t tok) 0); rw [e0]; exact ⟨by simp [nul], by simp [nul], by simp [nul]⟩

theorem InsPre.next {N : Nat → Nd} {root x : Nat} {l : List Nat} {tok : Nat} (h : InsPre N root x l tok) (id : Nat) (t : Int) (N5 : Nat → Nd) (h5 : N5 = upd (put N x (fresh id t tok)) x) :
    Leaf N5 x ∧ T N5 root l ∧ (x :: l).Nodup ∧ Fine N5 (x + 1) (x :: l) ∧ Sorted (fun j => (N5 j).t) l ∧ (N5 x).id = id ∧ (N5 x).t = t ∧ (N5 x).tok = tok ∧ (∀ j, j ≠ x → N5 j = N j) := by
  have hx0 := h.x0
  have e : put N x (fresh id t tok) x = fresh id t tok := put_same _ _ _
  have e0 : put N x (fresh id t tok) 0 = nul := by rw [put_ne _ _ (Ne.symm hx0)]; exact h.z
  have ex : N5 x = { fresh id t tok with h := 1, s := tok, c := 1 } := by
    rw [h5, Avl.upd, put_same]
    unfold updNd
    rw [e]
    show ({ fresh id t tok with h := 1 + max (put N x (fresh id t tok) 0).h (put N x (fresh id t tok) 0).h, s := (put N x (fresh id t tok) 0).s + (put N x (fresh id t tok) 0).s + tok, c := (put N x (fresh id t tok) 0).c + (put N x (fresh id t tok) 0).c + 1 } : Nd) = _
    rw [e0]
    simp [nul, fresh]
  have eo : ∀ j, j ≠ x → N5 j = N j := fun j hj => by rw [h5, Avl.upd, put_ne _ _ hj, put_ne _ _ hj]
  have xl : x ∉ l := fun hm => by have := h.lt x hm; omega
  have el : ∀ j, j ∈ l → N5 j = N j := fun j hj => eo j (fun e => xl (e ▸ hj))
  refine ⟨⟨hx0, by rw [ex]; rfl, by rw [ex]; rfl, by rw [ex], by rw [ex]; rfl, by rw [ex]⟩, h.tree.frame (eo 0 (Ne.symm hx0)) el, List.nodup_cons.2 ⟨xl, h.nd⟩, ⟨by rw [eo 0 (Ne.symm hx0)]; exact h.z, by omega, ?_, ?_, by simp; have := h.len; omega⟩,
    h.srt.congr (fun a ha => by rw [el a ha]), by rw [ex]; rfl, by rw [ex]; rfl, by rw [ex]; rfl, eo⟩
  · intro j hj
    rcases List.mem_cons.1 hj with rfl | hj
    · omega
    · have := h.lt j hj; omega
  · intro j hj
    rcases List.mem_cons.1 hj with rfl | hj
    · rw [ex]; exact h.tk'
    · rw [el j hj]; exact h.tk j hj

theorem InsPre.done {N N5 N' : Nat → Nd} {root i' x : Nat} {l : List Nat} {tok id lo hi : Nat} {t : Int} (h : InsPre N root x l tok) (eo : ∀ j, j ≠ x → N5 j = N j) (e1 : (N5 x).id = id) (e2 : (N5 x).t = t) (e3 : (N5 x).tok = tok)
    (P : Post N5 N' i' (ins (fun j => (N5 j).t) x l) lo hi) : InsPost N N' i' x l id tok t := by
  have z0 : 0 ∉ ins (fun j => (N5 j).t) x l := P.tree.pos
  refine ⟨?_, by rw [P.frame 0 z0, eo 0 (Ne.symm h.x0)]; exact h.z, by rw [P.id]; exact e1, by rw [P.t]; exact e2, by rw [P.tok]; exact e3, fun j hj => by rw [P.id, eo j hj], fun j hj => by rw [P.t, eo j hj], fun j hj => by rw [P.tok, eo j hj]⟩
  have : (fun j => (N' j).t) = (fun j => (N5 j).t) := funext P.t
  rw [this]
  exact P.tree

set_option maxHeartbeats 4000000 in
set_option maxRecDepth 100000 in
theorem insert_pos (B p g len cap root id tok : Nat) (t : Int) (N : Nat → Nd) (w0 w : World) (hB : Below B w0 w) (hBw : B ≤ w.heap.size) (hBp : B ≤ p) (hBg : B ≤ g) (hcap : cap ≤ maxLen)
    (hT : Tab w g len cap N) (hH : Hdr w p g len cap root 0) (hlen : 0 < len) (hlen2 : len ≤ 1500) (l : List Nat) (hI : InsPre N root len l tok) :
    Calls Yba.prog 36 #[.pointer (some ⟨p, 0, none⟩), .agg (bc id t tok)] w fun e w' => e = .returned (.tuple #[]) ∧
      ∃ g' cap' N' root', Hdr w' p g' (len + 1) cap' root' 0 ∧ Tab w' g' (len + 1) cap' N' ∧ cap' ≤ maxLen ∧ B ≤ g' ∧ Below B w0 w' ∧ InsPost N N' root' len l id tok t := by
  have h0 := hH.nodes
  have hgl := hT.lt
  have hpl := hH.lt
  have hpg := hH.ne hT
  have hH2 : w.cell? ⟨p, 2, none⟩ = some (.int .i64 0) := by unfold Hdr at hH; simp [World.cell?, hH]
  have n0 : ((len : Int) == 0) = false := by simp; omega
  unfold bc
  have HI : Hid (InsPre N root len l tok) := hI
  clear hI
  obtain ⟨ta, hta⟩ : ∃ a, t % 1000000000 = a := ⟨_, rfl⟩
  obtain ⟨tb, htb⟩ : ∃ a, t / 1000000000 = a := ⟨_, rfl⟩
  rw [hta, htb]
  have HT : Hid (t % 1000000000 = ta ∧ t / 1000000000 = tb) := ⟨hta, htb⟩
  clear hta htb
  go_enter Yba.func36, Yba.ntmps36
  go_wp2_with (at_builtin; go_must (refine wpList_append_tab _ rfl (.tmp 31) (.tmp 33) rfl B g len cap (w.heap.size + 1) N (by exact (hT.alloc _).alloc _) hcap hBg (by simp; omega) (by simp [Act.eval]) (by simp [Act.eval]) ?hb (by omega) ?_))
  case hb =>
    have := blk_alloc_new (w.alloc (.cells #[.int .u64 id, .int .u64 ta, .int .i64 tb, .pointer none, .float .f64 (F tok), .int .u8 0] 53)) (.cells zc 108)
    rw [nblk_alloc] at this
    exact this
  intro g' cap' w2 hT2 hc2 hb2 hg2
  have A := aft_append hB hBw hBp hBg hT hH hT2 hc2 hb2 hg2
  have hP := hdr_after hT hH hg2
  have hp2 := cellB hP 0
  have hp2f := freeB hP 0
  simp only [List.getElem?_toArray, List.getElem?_cons_zero] at hp2
  clear hg2 hT2 h0 hH2 hP
  have q0 := A.hdr.nodes
  go_wp2_with fail
  clear hp2 hp2f
  generalize w2.setCell ⟨p, 0, none⟩ (.slice (some ⟨g', 0, none⟩) (len + 1) cap') = w3 at *
  generalize w.heap.size = bx at *
  have hx : len < len + 1 := by omega
  have e0 := cellB A.box 0
  have e1 := cellB A.box 1
  have e2 := cellB A.box 2
  have e3 := cellB A.box 3
  have e4 := cellB A.box 4
  have e5 := cellB A.box 5
  simp at e0 e1 e2 e3 e4 e5
  have k0 := A.tab.cell (k := 0) hx (by omega)
  have k1 := A.tab.cell (k := 1) hx (by omega)
  have k2 := A.tab.cell (k := 2) hx (by omega)
  have k3 := A.tab.cell (k := 3) hx (by omega)
  have k4 := A.tab.cell (k := 4) hx (by omega)
  have k5 := A.tab.cell (k := 5) hx (by omega)
  have k6 := A.tab.cell (k := 6) hx (by omega)
  have k7 := A.tab.cell (k := 7) hx (by omega)
  have k8 := A.tab.cell (k := 8) hx (by omega)
  have k9 := A.tab.cell (k := 9) hx (by omega)
  have k10 := A.tab.cell (k := 10) hx (by omega)
  have k11 := A.tab.cell (k := 11) hx (by omega)
  have k12 := A.tab.cell (k := 12) hx (by omega)
  have k13 := A.tab.cell (k := 13) hx (by omega)
  have k14 := A.tab.cell (k := 14) hx (by omega)
  rw [put_same] at k0 k1 k2 k3 k4 k5 k6 k7 k8 k9 k10 k11 k12 k13 k14
  simp only [Nat.add_zero] at k0
  have kf := A.tab.free
  go_region
  have hT4 := A.tab.putAll hx (fresh id t tok) [.int .u64 id, .int .u64 ta, .int .i64 tb, .pointer none, .float .f64 (F tok), .int .u8 0, .int .i64 0, .int .i64 0, .int .i64 0, .float .f64 0, .int .i64 0, .int .i64 0, .int .i64 0, .float .f64 0, .bool false] rfl (by
    intro k hk
    match k, hk with
    | 1, _ => simp [fld, fresh, HT.out.1]
    | 2, _ => simp [fld, fresh, HT.out.2]
    | 9, _ => simp [fld, fresh, Flt.F_zero]
    | 0, _ | 3, _ | 4, _ | 5, _ | 6, _ | 7, _ | 8, _ | 10, _ | 11, _ | 12, _ | 13, _ | 14, _ => simp [fld, fresh])
  rw [put_put] at hT4
  have O4 := sets_only [.int .u64 id, .int .u64 ta, .int .i64 tb, .pointer none, .float .f64 (F tok), .int .u8 0, .int .i64 0, .int .i64 0, .int .i64 0, .float .f64 0, .int .i64 0, .int .i64 0, .int .i64 0, .float .f64 0, .bool false] (len * 15) w3 (Only.refl g' w3)
  simp only [sets, Nat.add_assoc, Nat.reduceAdd] at hT4 O4
  replace hT4 := hT4.drew
  replace O4 := O4.drew
  clear e0 e1 e2 e3 e4 e5 k0 k1 k2 k3 k4 k5 k6 k7 k8 k9 k10 k11 k12 k13 k14 kf
  revert hT4 O4
  generalize (World.drew _) = w4
  intro hT4 O4
  have hpg' := A.hdr.ne A.tab
  have hH4 := A.hdr.kept O4 hpg'
  have hB4 := O4.below A.below (Nat.le_trans A.bp (Nat.le_of_lt A.hdr.lt)) A.bg
  have BP := A.bp
  clear A q0 O4
  go_wp2_with fail
  refine (update_pre p g' (len + 1) cap' root 0 len _ _ hT4 hH4 (HI.out.updPre id t)).mono ?_
  rintro e w5 ⟨rfl, O5, hT5⟩
  have hH5 := hH4.kept O5 hpg'
  have hB5 := O5.below hB4 (Nat.le_trans BP (Nat.le_of_lt hH4.lt)) hb2
  obtain ⟨N5, hN5⟩ : ∃ N5, N5 = Avl.upd (put N len (fresh id t tok)) len := ⟨_, rfl⟩
  obtain ⟨a1, a2, a3, a4, a5, a6, a7, a8, a9⟩ := HI.out.next id t N5 hN5
  rw [← hN5] at hT5
  have r1 := cellB hH5 1
  simp only [List.getElem?_toArray, List.getElem?_cons_succ, List.getElem?_cons_zero] at r1
  have HA : Hid (Leaf N5 len ∧ T N5 root l ∧ (len :: l).Nodup ∧ Fine N5 (len + 1) (len :: l) ∧ Sorted (fun j => (N5 j).t) l ∧ (N5 len).id = id ∧ (N5 len).t = t ∧ (N5 len).tok = tok ∧ (∀ j, j ≠ len → N5 j = N j)) := ⟨a1, a2, a3, a4, a5, a6, a7, a8, a9⟩
  clear a1 a2 a3 a4 a5 a6 a7 a8 a9 hN5 hT4 hH4 O5
  go_wp2_with fail
  refine (insertAt_any p g' (len + 1) cap' root 0 len N5 (by omega) HA.out.1 HA.out.2.1 HA.out.2.2.1 HA.out.2.2.2.1 HA.out.2.2.2.2.1 _ hT5 hH5).mono ?_
  rintro e w6 ⟨N6, i6, rfl, O6, hT6, P6⟩
  have hH6 := hH5.kept O6 hpg'
  have hB6 := O6.below hB5 (Nat.le_trans BP (Nat.le_of_lt hH5.lt)) hb2
  have s1 := cellB hH6 1
  have s1f := freeB hH6 1
  simp only [List.getElem?_toArray, List.getElem?_cons_succ, List.getElem?_cons_zero] at s1
  have hH7 : Hdr (w6.setCell ⟨p, 1, none⟩ (.int .i64 (i6 : Int))) p g' (len + 1) cap' i6 0 := hdr_set1 hH6
  have hT7 : Tab (w6.setCell ⟨p, 1, none⟩ (.int .i64 (i6 : Int))) g' (len + 1) cap' N6 := hT6.of_block (blk_setCell_other _ _ _ _ (Ne.symm hpg'))
  have hB7 := hB6.setCell (p := ⟨p, 1, none⟩) BP (.int .i64 (i6 : Int))
  have PF := HI.out.done HA.out.2.2.2.2.2.2.2.2 HA.out.2.2.2.2.2.1 HA.out.2.2.2.2.2.2.1 HA.out.2.2.2.2.2.2.2.1 P6
  clear hT6 hH6 hB6 hT5 hH5 hB5 O6 r1 P6
  go_wp2_with fail
  go_end0
  exact ⟨rfl, g', cap', N6, i6, hH7, hT7, hc2, hb2, hB7, PF⟩

theorem aft_append2 {B : Nat} {w0 w w2 : World} {p g len cap root g' cap' bx : Nat} {N : Nat → Nd} {e z : Array Value} (hB : Below B w0 w) (hBw : B ≤ w.heap.size) (hBp : B ≤ p) (hBg : B ≤ g) (hT : Tab w g len cap N) (hH : Hdr w p g len cap root 0)
    (hbx : w.heap[bx]? = some (.cells e 53 (0, 0))) (hbp : bx ≠ p) (hT' : Tab w2 g' (len + 1) cap' (put N len nul)) (hc : cap' ≤ maxLen) (hb : B ≤ g') (hg : (w.alloc (.cells z 108)).grownBy w2 (some g)) :
    w2.heap[p]? = some (.cells #[.slice (some ⟨g, 0, none⟩) len cap, .int .i64 root, .int .i64 (0 : Nat), .float .f64 0] 88 (0, 0)) ∧
    Aft B w0 (w2.setCell ⟨p, 0, none⟩ (.slice (some ⟨g', 0, none⟩) (len + 1) cap')) p g' (len + 1) cap' root bx (put N len nul) e := by
  have hpg := hH.ne hT
  have hpl := hH.lt
  have hgl := hT.lt
  have hbl : bx < w.heap.size := (Array.getElem?_eq_some_iff.1 hbx).1
  have hbg : bx ≠ g := by
    intro e
    subst e
    obtain ⟨c, hc, _⟩ := hT
    rw [hbx] at hc
    simp at hc
  have eP : w2.heap[p]? = w.heap[p]? := by
    rw [hg.block p (by simp; omega) (by simp [hpg]), blk_alloc_lt _ _ _ (by omega)]
  have eB : w2.heap[bx]? = some (.cells e 53 (0, 0)) := by
    rw [hg.block bx (by simp; omega) (by simp [hbg]), blk_alloc_lt _ _ _ (by omega)]; exact hbx
  have hP : w2.heap[p]? = some (.cells #[.slice (some ⟨g, 0, none⟩) len cap, .int .i64 root, .int .i64 (0 : Nat), .float .f64 0] 88 (0, 0)) := eP.trans hH
  have hpg' : g' ≠ p := by
    intro e
    subst e
    obtain ⟨c, hc, _⟩ := hT'
    rw [hP] at hc
    simp at hc
  refine ⟨hP, ?_, hT'.of_block (blk_setCell_other _ _ _ _ hpg'), hdr_set hP, ?_, hc, hb, hBp⟩
  · have b1 : Below B w0 (w.alloc (.cells z 108)) := hB.alloc hBw _
    exact (b1.grown hg (by simp; omega) (fun k hk => by cases hk; exact hBg)).setCell hBp _
  · rw [blk_setCell_other _ _ _ _ hbp]; exact eB

/-- Behind the very first append. -/
theorem first_append {B : Nat} {w0 w w2 : World} {p g' cap' : Nat} {e z : Array Value} (hB : Below B w0 w) (hBw : B ≤ w.heap.size) (hBp : B ≤ p)
    (hH : w.heap[p]? = some (.cells #[.slice none 0 0, .int .i64 (0 : Nat), .int .i64 (0 : Nat), .float .f64 0] 88 (0, 0)))
    (hT' : Tab w2 g' 1 cap' (fun _ => nul)) (hc : cap' ≤ maxLen) (hb : B ≤ g') (hg : ((w.alloc (.cells e 53)).alloc (.cells z 108)).grownBy w2 none) :
    w2.heap[p]? = some (.cells #[.slice none 0 0, .int .i64 (0 : Nat), .int .i64 (0 : Nat), .float .f64 0] 88 (0, 0)) ∧
    Aft B w0 (w2.setCell ⟨p, 0, none⟩ (.slice (some ⟨g', 0, none⟩) 1 cap')) p g' 1 cap' 0 w.heap.size (fun _ => nul) e := by
  have hpl : p < w.heap.size := (Array.getElem?_eq_some_iff.1 hH).1
  have eP : w2.heap[p]? = w.heap[p]? := by
    rw [hg.block p (by simp; omega) (by simp), blk_alloc_lt _ _ _ (by simp; omega), blk_alloc_lt _ _ _ (by omega)]
  have eB : w2.heap[w.heap.size]? = some (.cells e 53 (0, 0)) := by
    rw [hg.block w.heap.size (by simp; omega) (by simp), blk_alloc_lt _ _ _ (by simp), blk_alloc_new]
  have hP := eP.trans hH
  have hpg' : g' ≠ p := by
    intro e
    subst e
    obtain ⟨c, hc, _⟩ := hT'
    rw [hP] at hc
    simp at hc
  refine ⟨hP, ?_, hT'.of_block (blk_setCell_other _ _ _ _ hpg'), hdr_set hP, ?_, hc, hb, hBp⟩
  · have b1 : Below B w0 ((w.alloc (.cells e 53)).alloc (.cells z 108)) := (hB.alloc hBw _).alloc (by simp; omega) _
    exact (b1.grown hg (by simp; omega) (fun k hk => by cases hk)).setCell hBp _
  · rw [blk_setCell_other _ _ _ _ (by show w.heap.size ≠ p; omega)]; exact eB

theorem insPre_zero (tok : Nat) (h : tok ≤ 1024) : InsPre (fun _ => nul) 0 1 [] tok :=
  ⟨T.nil _, rfl, by omega, by simp, by simp, by simp, h, by simp, by simp [Sorted]⟩

set_option maxHeartbeats 4000000 in
set_option maxRecDepth 100000 in
theorem insert_zero (B p id tok : Nat) (t : Int) (w0 w : World) (hB : Below B w0 w) (hBw : B ≤ w.heap.size) (hBp : B ≤ p) (htok : tok ≤ 1024)
    (hH : w.heap[p]? = some (.cells #[.slice none 0 0, .int .i64 (0 : Nat), .int .i64 (0 : Nat), .float .f64 0] 88 (0, 0))) :
    Calls Yba.prog 36 #[.pointer (some ⟨p, 0, none⟩), .agg (bc id t tok)] w fun e w' => e = .returned (.tuple #[]) ∧
      ∃ g' cap' N' root', Hdr w' p g' 2 cap' root' 0 ∧ Tab w' g' 2 cap' N' ∧ cap' ≤ maxLen ∧ B ≤ g' ∧ Below B w0 w' ∧ InsPost (fun _ => nul) N' root' 1 [] id tok t := by
  have h0 := cellB hH 0
  have hpl : p < w.heap.size := (Array.getElem?_eq_some_iff.1 hH).1
  simp only [List.getElem?_toArray, List.getElem?_cons_zero] at h0
  unfold bc
  obtain ⟨ta, hta⟩ : ∃ a, t % 1000000000 = a := ⟨_, rfl⟩
  obtain ⟨tb, htb⟩ : ∃ a, t / 1000000000 = a := ⟨_, rfl⟩
  rw [hta, htb]
  have HT : Hid (t % 1000000000 = ta ∧ t / 1000000000 = tb) := ⟨hta, htb⟩
  clear hta htb
  go_enter Yba.func36, Yba.ntmps36
  go_wp2_with (at_builtin; go_must (refine wpList_append_tab0 _ rfl (.tmp 15) (.tmp 17) rfl B (w.heap.size + 1) (by simp; omega) (by simp [Act.eval]) (by simp [Act.eval]) ?hb ?_))
  case hb =>
    have := blk_alloc_new (w.alloc (.cells #[.int .u64 id, .int .u64 ta, .int .i64 tb, .pointer none, .float .f64 (F tok), .int .u8 0] 53)) (.cells zc 108)
    rw [nblk_alloc] at this
    exact this
  intro g cap w1 hT1 hc1 hb1 hg1
  obtain ⟨hP1, A1⟩ := first_append hB hBw hBp hH hT1 hc1 hb1 hg1
  have hp1 := cellB hP1 0
  have hp1f := freeB hP1 0
  have hfr := cellB A1.hdr 2
  have hnd := A1.hdr.nodes
  have hBz : B ≤ (w1.setCell ⟨p, 0, none⟩ (.slice (some ⟨g, 0, none⟩) 1 cap)).heap.size := Nat.le_trans hBp (Nat.le_of_lt A1.hdr.lt)
  simp only [List.getElem?_toArray, List.getElem?_cons_zero, List.getElem?_cons_succ] at hp1 hfr
  have HA1 : Hid (Aft B w0 (w1.setCell ⟨p, 0, none⟩ (.slice (some ⟨g, 0, none⟩) 1 cap)) p g 1 cap 0 w.heap.size (fun _ => nul) #[.int .u64 id, .int .u64 ta, .int .i64 tb, .pointer none, .float .f64 (F tok), .int .u8 0]) := A1
  clear hg1 hT1 h0 hP1 hH A1
  have hbp : w.heap.size ≠ p := by omega
  have hzz : ∀ z : Obj, B ≤ ((w1.setCell ⟨p, 0, none⟩ (.slice (some ⟨g, 0, none⟩) 1 cap)).alloc z).heap.size := fun z => by rw [nblk_alloc]; omega
  have hbn : ((w1.setCell ⟨p, 0, none⟩ (.slice (some ⟨g, 0, none⟩) 1 cap)).alloc (.cells zc 108)).heap[w1.heap.size]? = some (.cells zc 108) := by
    rw [← nblk_setCell w1 ⟨p, 0, none⟩ (.slice (some ⟨g, 0, none⟩) 1 cap)]
    exact blk_alloc_new _ _
  have HBN : Hid (((w1.setCell ⟨p, 0, none⟩ (.slice (some ⟨g, 0, none⟩) 1 cap)).alloc (.cells zc 108)).heap[w1.heap.size]? = some (.cells zc 108)) := hbn
  clear hbn
  go_wp2_with (at_builtin; go_must (refine wpList_append_tab _ rfl (.tmp 31) (.tmp 33) rfl B g 1 cap w1.heap.size (fun _ => nul) (by exact HA1.out.tab.alloc _) hc1 hb1 (by exact hzz _) (by simp [Act.eval]) (by simp [Act.eval]) (by exact HBN.out) (by omega) ?_))
  intro g' cap' w2 hT2 hc2 hb2 hg2
  obtain ⟨hP2, A⟩ := aft_append2 HA1.out.below hBz hBp hb1 HA1.out.tab HA1.out.hdr HA1.out.box hbp hT2 hc2 hb2 hg2
  have hp2 := cellB hP2 0
  have hp2f := freeB hP2 0
  simp only [List.getElem?_toArray, List.getElem?_cons_zero] at hp2
  clear hg2 hT2 hP2 HA1 hp1 hp1f hfr hnd hBz hzz
  have q0 := A.hdr.nodes
  go_wp2_with fail
  clear hp2 hp2f
  generalize w2.setCell ⟨p, 0, none⟩ (.slice (some ⟨g', 0, none⟩) 2 cap') = w3 at *
  have hx : 1 < 2 := by omega
  have e0 := cellB A.box 0
  have e1 := cellB A.box 1
  have e2 := cellB A.box 2
  have e3 := cellB A.box 3
  have e4 := cellB A.box 4
  have e5 := cellB A.box 5
  simp at e0 e1 e2 e3 e4 e5
  have k0 := A.tab.cell (k := 0) hx (by omega)
  have k1 := A.tab.cell (k := 1) hx (by omega)
  have k2 := A.tab.cell (k := 2) hx (by omega)
  have k3 := A.tab.cell (k := 3) hx (by omega)
  have k4 := A.tab.cell (k := 4) hx (by omega)
  have k5 := A.tab.cell (k := 5) hx (by omega)
  have k6 := A.tab.cell (k := 6) hx (by omega)
  have k7 := A.tab.cell (k := 7) hx (by omega)
  have k8 := A.tab.cell (k := 8) hx (by omega)
  have k9 := A.tab.cell (k := 9) hx (by omega)
  have k10 := A.tab.cell (k := 10) hx (by omega)
  have k11 := A.tab.cell (k := 11) hx (by omega)
  have k12 := A.tab.cell (k := 12) hx (by omega)
  have k13 := A.tab.cell (k := 13) hx (by omega)
  have k14 := A.tab.cell (k := 14) hx (by omega)
  rw [put_same] at k0 k1 k2 k3 k4 k5 k6 k7 k8 k9 k10 k11 k12 k13 k14
  simp only [Nat.add_zero, Nat.reduceAdd, Nat.one_mul] at k0 k1 k2 k3 k4 k5 k6 k7 k8 k9 k10 k11 k12 k13 k14
  have kf := A.tab.free
  go_region
  have hT4 := A.tab.putAll hx (fresh id t tok) [.int .u64 id, .int .u64 ta, .int .i64 tb, .pointer none, .float .f64 (F tok), .int .u8 0, .int .i64 0, .int .i64 0, .int .i64 0, .float .f64 0, .int .i64 0, .int .i64 0, .int .i64 0, .float .f64 0, .bool false] rfl (by
    intro k hk
    match k, hk with
    | 1, _ => simp [fld, fresh, HT.out.1]
    | 2, _ => simp [fld, fresh, HT.out.2]
    | 9, _ => simp [fld, fresh, Flt.F_zero]
    | 0, _ | 3, _ | 4, _ | 5, _ | 6, _ | 7, _ | 8, _ | 10, _ | 11, _ | 12, _ | 13, _ | 14, _ => simp [fld, fresh])
  rw [put_put] at hT4
  have O4 := sets_only [.int .u64 id, .int .u64 ta, .int .i64 tb, .pointer none, .float .f64 (F tok), .int .u8 0, .int .i64 0, .int .i64 0, .int .i64 0, .float .f64 0, .int .i64 0, .int .i64 0, .int .i64 0, .float .f64 0, .bool false] (1 * 15) w3 (Only.refl g' w3)
  simp only [sets, Nat.reduceAdd, Nat.one_mul] at hT4 O4
  replace hT4 := hT4.drew
  replace O4 := O4.drew
  clear e0 e1 e2 e3 e4 e5 k0 k1 k2 k3 k4 k5 k6 k7 k8 k9 k10 k11 k12 k13 k14 kf
  revert hT4 O4
  generalize (World.drew _) = w4
  intro hT4 O4
  have hpg' := A.hdr.ne A.tab
  have hH4 := A.hdr.kept O4 hpg'
  have hB4 := O4.below A.below (Nat.le_trans A.bp (Nat.le_of_lt A.hdr.lt)) A.bg
  have BP := A.bp
  clear A q0 O4
  go_wp2_with fail
  refine (update_pre p g' 2 cap' 0 0 1 _ _ hT4 hH4 ((insPre_zero tok htok).updPre id t)).mono ?_
  rintro e w5 ⟨rfl, O5, hT5⟩
  have hH5 := hH4.kept O5 hpg'
  have hB5 := O5.below hB4 (Nat.le_trans BP (Nat.le_of_lt hH4.lt)) hb2
  obtain ⟨N5, hN5⟩ : ∃ N5, N5 = Avl.upd (put (fun _ => nul) 1 (fresh id t tok)) 1 := ⟨_, rfl⟩
  obtain ⟨a1, a2, a3, a4, a5, a6, a7, a8, a9⟩ := (insPre_zero tok htok).next id t N5 hN5
  rw [← hN5] at hT5
  have r1 := cellB hH5 1
  simp only [List.getElem?_toArray, List.getElem?_cons_succ, List.getElem?_cons_zero] at r1
  have HA : Hid (Leaf N5 1 ∧ T N5 0 [] ∧ (1 :: []).Nodup ∧ Fine N5 2 (1 :: []) ∧ Sorted (fun j => (N5 j).t) [] ∧ (N5 1).id = id ∧ (N5 1).t = t ∧ (N5 1).tok = tok ∧ (∀ j, j ≠ 1 → N5 j = nul)) := ⟨a1, a2, a3, a4, a5, a6, a7, a8, a9⟩
  clear a1 a2 a3 a4 a5 a6 a7 a8 a9 hN5 hT4 hH4 O5
  go_wp2_with fail
  refine (insertAt_any p g' 2 cap' 0 0 1 N5 (by omega) HA.out.1 HA.out.2.1 HA.out.2.2.1 HA.out.2.2.2.1 HA.out.2.2.2.2.1 _ hT5 hH5).mono ?_
  rintro e w6 ⟨N6, i6, rfl, O6, hT6, P6⟩
  have hH6 := hH5.kept O6 hpg'
  have hB6 := O6.below hB5 (Nat.le_trans BP (Nat.le_of_lt hH5.lt)) hb2
  have s1 := cellB hH6 1
  have s1f := freeB hH6 1
  simp only [List.getElem?_toArray, List.getElem?_cons_succ, List.getElem?_cons_zero] at s1
  have hH7 : Hdr (w6.setCell ⟨p, 1, none⟩ (.int .i64 (i6 : Int))) p g' 2 cap' i6 0 := hdr_set1 hH6
  have hT7 : Tab (w6.setCell ⟨p, 1, none⟩ (.int .i64 (i6 : Int))) g' 2 cap' N6 := hT6.of_block (blk_setCell_other _ _ _ _ (Ne.symm hpg'))
  have hB7 := hB6.setCell (p := ⟨p, 1, none⟩) BP (.int .i64 (i6 : Int))
  have PF := (insPre_zero tok htok).done HA.out.2.2.2.2.2.2.2.2 HA.out.2.2.2.2.2.1 HA.out.2.2.2.2.2.2.1 HA.out.2.2.2.2.2.2.2.1 P6
  clear hT6 hH6 hB6 hT5 hH5 hB5 O6 r1 P6
  go_wp2_with fail
  go_end0
  exact ⟨rfl, g', cap', N6, i6, hH7, hT7, hc2, hb2, hB7, PF⟩

end Go.Proofs.Ybulkcghm.Bk
