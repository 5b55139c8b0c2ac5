import Derived.Test.YbulkcghmOrd
import Derived.Deep.RegionLaw
namespace Go.Proofs.Ybulkcghm.Bk
open Go.RowKit Go.Deep
open Go.Proofs.Ybulkcghm.Flt (F)
open Go.Proofs.Ybulkcghm.Avl
open Go.Proofs.Ybulkcghm.Srt
set_option linter.unusedVariables false
set_option linter.unusedSimpArgs false
attribute [local go_sem] run_store_float

/-- The variable that 'out' points to, and the row that it owns. -/
structure Out (w : World) (q base : Nat) (ao : Option Addr) (cap : Nat) (xs : List Nat) : Prop where
  cell : w.heap[q]? = some (.cells #[.slice ao xs.length cap] 48 (0, 0))
  own : w.ownsRow base 28 1 (.slice ao xs.length cap) xs.length (xs.map fun n : Nat => .int .u64 (n : Int))

/-- What the walk leaves alone: all that was there but the variable and, from 'base' on, rows of numbers. -/
structure Fr (base q : Nat) (w w' : World) : Prop where
  os : w'.os = w.os
  tape : w'.tape = w.tape
  output : w'.output = w.output
  size : w.heap.size ≤ w'.heap.size
  block : ∀ k, k < w.heap.size → k ≠ q → (k < base ∨ ∀ c, w.heap[k]? ≠ some (.cells c 28 (0, 0))) → w'.heap[k]? = w.heap[k]?

namespace Fr
variable {base q : Nat} {w w' w'' : World}
theorem refl (base q : Nat) (w : World) : Fr base q w w := ⟨rfl, rfl, rfl, Nat.le_refl _, fun _ _ _ _ => rfl⟩
theorem trans (h : Fr base q w w') (k : Fr base q w' w'') : Fr base q w w'' :=
  ⟨k.os.trans h.os, k.tape.trans h.tape, k.output.trans h.output, Nat.le_trans h.size k.size, fun i hi hq ho => by
    have e := h.block i hi hq ho
    rw [k.block i (Nat.lt_of_lt_of_le hi h.size) hq (ho.elim .inl fun ho => .inr (by rw [e]; exact ho)), e]⟩
theorem drew (h : Fr base q w w') : Fr base q w w'.drew := ⟨h.os, h.tape, h.output, h.size, h.block⟩
theorem drewN (h : Fr base q w w') (n : Nat) : Fr base q w (w'.drewN n) := ⟨h.os, h.tape, h.output, h.size, h.block⟩
theorem alloc (h : Fr base q w w') (o : Obj) : Fr base q w (w'.alloc o) :=
  h.trans ⟨rfl, rfl, rfl, by simp, fun k hk _ _ => blk_alloc_lt _ _ _ hk⟩
theorem setq (h : Fr base q w w') (o : Nat) (v : Value) : Fr base q w (w'.setCell ⟨q, o, none⟩ v) :=
  h.trans ⟨rfl, rfl, rfl, by simp [World.setCell], fun k _ hk _ => blk_setCell_other _ _ _ _ hk⟩
theorem grown {v : Value} {n : Nat} {xs : List Value} (h : Fr base q w w') (ho : w'.ownsRow base 28 1 v n xs) (hg : w'.grownBy w'' v.ownBlock) : Fr base q w w'' :=
  h.trans ⟨hg.os, hg.tape, hg.output, hg.size, fun k hk _ hf => hg.block k hk (fun e => by
    rcases ho.2 with ⟨rfl, _⟩ | ⟨g, cap, cur, rfl, hb, hh, _⟩
    · simp [Value.ownBlock] at e
    · simp only [Value.ownBlock, Option.some.injEq] at e
      subst e
      rcases hf with hf | hf
      · omega
      · exact hf cur hh)⟩
theorem below (h : Fr base q w w') {B : Nat} {w0 : World} (hb : Below B w0 w) (hB : B ≤ base) (hq : B ≤ q) (hs : B ≤ w.heap.size) : Below B w0 w' :=
  hb.trans ⟨h.os, h.tape, h.output, h.size, fun k hk => h.block k (by omega) (by omega) (.inl (by omega))⟩
end Fr

theorem Tab.fr {base q : Nat} {w w' : World} {g len cap : Nat} {N : Nat → Nd} (h : Tab w g len cap N) (f : Fr base q w w') (hq : g ≠ q) : Tab w' g len cap N := by
  have hl := h.lt
  obtain ⟨c, hc, r⟩ := h
  refine ⟨c, ?_, r⟩
  rw [f.block g hl hq (.inr fun c' h' => by rw [hc] at h'; simp at h')]
  exact hc

theorem Hdr.fr {base q : Nat} {w w' : World} {p g len cap root fr : Nat} (h : Hdr w p g len cap root fr) (f : Fr base q w w') (hq : p ≠ q) : Hdr w' p g len cap root fr := by
  have hl := h.lt
  unfold Hdr at h ⊢
  rw [f.block p hl hq (.inr fun c' h' => by rw [h] at h'; simp at h')]
  exact h

theorem step_append_own {P : Program} {ops : Array Oper} {o : Oper} {a : Act} {w : World} {K : Act → World → Prop} {Q : Exit → Act → World → Prop} {E : Prop} (hgd : o.guard = none) (s x : Operand) (t : TypeId)
    (ho : o.op = .call { callee := .builtin .append, args := #[s, x], argTypes := #[t, t] })
    (base : Nat) (e : TypeId) (i : TypeInfo) (z : Value) (size bytes : Nat) (ht : P.underlying t = some (.slice e)) (hi : P.info? e = some i) (hz : i.zero = some z)
    (hsize : i.size = size) (hby : i.bytes = bytes) (hzs : z.cells.size = size) (hsz : 0 < size)
    (v : Value) (n : Nat) (xs : List Value) (hs : a.eval s = v) (hown : w.ownsRow base e size v n xs)
    (ad : Addr) (m c : Nat) (news : List Value) (hx : a.eval x = .slice (some ad) m c) (hl : news.length = m * size) (hnews : ∀ j u, news[j]? = some u → w.cell? (ad.add j) = some u) (h1 : ∀ u ∈ news, u.oneCell' = true)
    (h63 : n + m ≤ maxLen) (hbytes : (n + m) * bytes ≤ 140737488355328) (hbase : base ≤ w.heap.size)
    (h : ∀ v' w', w'.ownsRow base e size v' (n + m) (xs ++ news) → w.grownBy w' v.ownBlock → K (a.put o.dst v') w') :
    if Region.wanted o (yielded ops a.tmps) = true then Oper.wp P o a w K Q else E := by
  have hw : Region.wanted o (yielded ops a.tmps) = true := by simp [Region.wanted, hgd]
  rw [if_pos hw]
  exact wp_append_own w s x t ho base e i z size bytes ht hi hz hsize hby hzs hsz v n xs hs hown ad m c news hx hl hnews h1 h63 hbytes hbase fun v' w' h2 h3 _ => h v' w' h2 h3

/-- '*out = append(*out, id)' in a region that draws. -/
theorem step_append_id {ops : Array Oper} {o : Oper} {a : Act} {w : World} {K : Act → World → Prop} {Q : Exit → Act → World → Prop} {E : Prop} (hgd : o.guard = none) (s x : Operand)
    (ho : o.op = .call { callee := .builtin .append, args := #[s, x], argTypes := #[48, 48] }) (base : Nat) (ao : Option Addr) (cap id b : Nat) (xs : List Nat)
    (hs : a.eval s = .slice ao xs.length cap) (hown : w.ownsRow base 28 1 (.slice ao xs.length cap) xs.length (xs.map fun n : Nat => .int .u64 (n : Int))) (hx : a.eval x = .slice (some ⟨b, 0, none⟩) 1 1)
    (hb : w.cell? ⟨b, 0, none⟩ = some (.int .u64 (id : Int))) (hl : xs.length ≤ 4000) (hbase : base ≤ w.heap.size)
    (h : ∀ g2 cap2 w2, Hid (w2.ownsRow base 28 1 (.slice (some ⟨g2, 0, none⟩) (xs.length + 1) cap2) (xs.length + 1) ((xs ++ [id]).map fun n : Nat => .int .u64 (n : Int))) → Hid (w.grownBy w2 (Value.slice ao xs.length cap).ownBlock) →
      K (a.put o.dst (.slice (some ⟨g2, 0, none⟩) (xs.length + 1) cap2)) w2) :
    if Region.wanted o (yielded ops a.tmps) = true then Oper.wp Yba.prog o a w K Q else E := by
  obtain ⟨i0, hi, hz0, hz1, hz2⟩ := info_parts info28
  refine step_append_own hgd s x 48 ho base 28 i0 (.int .u64 0) 1 8 Yba.underlying48 hi hz0 hz1 hz2 rfl (by decide) _ xs.length _ hs hown ⟨b, 0, none⟩ 1 1 [.int .u64 (id : Int)] hx rfl ?_ ?_ (by unfold maxLen; omega) (by omega) hbase ?_
  · intro j u hj
    match j, hj with
    | 0, hj => simp at hj; subst hj; simpa [Addr.add] using hb
  · intro u hu; simp at hu; subst hu; rfl
  · intro v' w' ho' hg'
    have e : (xs.map fun n : Nat => (Value.int .u64 (n : Int))) ++ [.int .u64 (id : Int)] = (xs ++ [id]).map fun n : Nat => .int .u64 (n : Int) := by simp
    rw [e] at ho'
    have ho2 := ho'
    rcases ho'.2 with ⟨_, h0⟩ | ⟨g, c, cur, rfl, _⟩
    · omega
    · exact h g c w' ho2 hg'

set_option maxRecDepth 100000 in
theorem walk_zero (p q : Nat) (d : Int) (w : World) : Calls Yba.prog 37 #[.pointer (some ⟨p, 0, none⟩), .int .i64 0, .int .i64 d, .pointer (some ⟨q, 0, none⟩)] w fun e w' =>
    e = .returned (.tuple #[.int .i64 0, .int .i64 0, .float .f64 0, .bool true]) ∧ w' = w := by
  go_enter Yba.func37, Yba.ntmps37
  go_wp2_with fail
  exact bodyPost_ret (v := .tuple #[.int .i64 0, .int .i64 0, .float .f64 0, .bool true]) (by simp [results, Yba.results37, go_sem]) rfl ⟨rfl, rfl⟩

theorem order_F (a : Nat) (ha : a < 9007199254740992) : FloatKind.f64.format.order (F a) (F a) = some .eq := by
  show Ieee.double.order (F a) (F a) = _
  rw [Flt.F_order a a ha ha]; simp [compare, compareOfLessAndEq]

theorem run_neq_F (a : Nat) (ha : a < 9007199254740992) (t : TypeId) (hu : Yba.prog.underlying t = some (.float .f64)) (w : World) : (binOp .neq t (.float .f64 (F a)) (.float .f64 (F a))).run Yba.prog w = .ok (.bool false) w := by
  have ho : FloatKind.f64.format.order (F a) (F a) = some .eq := by
    show Ieee.double.order (F a) (F a) = _
    rw [Flt.F_order a a ha ha]; simp [compare, compareOfLessAndEq]
  simp [binOp, Op.floatCmp, ho]

theorem q_after {W w3 : World} {q base n cap : Nat} {ao : Option Addr} {xs : List Value} (ho : W.ownsRow base 28 1 (.slice ao n cap) n xs) (hg : W.grownBy w3 (Value.slice ao n cap).ownBlock) (hq : W.heap[q]? = some (.cells #[.slice ao n cap] 48 (0, 0))) :
    w3.heap[q]? = some (.cells #[.slice ao n cap] 48 (0, 0)) := by
  rw [hg.block q (Array.getElem?_eq_some_iff.1 hq).1 ?_]
  · exact hq
  · intro e
    rcases ho.2 with ⟨h1, _⟩ | ⟨g, c, cur, hv, _, hh, _⟩
    · rw [h1] at e; simp [Value.ownBlock] at e
    · rw [hv] at e
      simp only [Value.ownBlock, Option.some.injEq] at e
      subst e
      rw [hq] at hh
      simp at hh

/-- The variable behind the append's store. -/
theorem out_after {w3 : World} {q base g2 c2 id : Nat} {u : Value} {ys : List Nat} (hq : w3.heap[q]? = some (.cells #[u] 48 (0, 0)))
    (ho : w3.ownsRow base 28 1 (.slice (some ⟨g2, 0, none⟩) (ys.length + 1) c2) (ys.length + 1) ((ys ++ [id]).map fun n : Nat => .int .u64 (n : Int))) :
    Out (w3.setCell ⟨q, 0, none⟩ (.slice (some ⟨g2, 0, none⟩) (ys.length + 1) c2)) q base (some ⟨g2, 0, none⟩) c2 (ys ++ [id]) := by
  have e : (ys ++ [id]).length = ys.length + 1 := by simp
  refine ⟨?_, ?_⟩
  · rw [e]; simp [World.setCell, Array.getElem?_modify, hq]
  · rw [e]
    refine ⟨ho.1, ?_⟩
    rcases ho.2 with ⟨_, h0⟩ | ⟨g, c, cur, hv, hb, hh, r⟩
    · omega
    · refine .inr ⟨g, c, cur, hv, hb, ?_, r⟩
      rw [blk_setCell_other _ _ _ _ ?_]
      · exact hh
      · intro e
        have e' : g = q := e
        subst e'
        rw [hq] at hh
        simp at hh

/-- The cells of a node. -/
def rowOf (x : Nd) : Array Value := #[.int .u64 x.id, .int .u64 (x.t % 1000000000), .int .i64 (x.t / 1000000000), .pointer none, .float .f64 (F x.tok), .int .u8 0, .int .i64 x.l, .int .i64 x.r, .int .i64 x.h, .float .f64 (F x.s), .int .i64 x.c, .int .i64 0, .int .i64 0, .float .f64 0, .bool false]

set_option maxHeartbeats 4000000 in
set_option maxRecDepth 100000 in
theorem walk_node (p g len cap root fr q base i : Nat) (d : Int) (N : Nat → Nd) (w : World) (ao : Option Addr) (ac : Nat) (xs l1 l2 : List Nat) (hT : Tab w g len cap N) (hH : Hdr w p g len cap root fr) (hO : Out w q base ao ac xs) (hbs : base ≤ w.heap.size)
    (hi : i < len) (hi0 : i ≠ 0) (hd0 : 0 ≤ d) (hd : d ≤ 64) (hlen : len ≤ 2000) (hqg : g ≠ q) (hqp : p ≠ q) (ok : Ok N i) (hxl : xs.length + l1.length + l2.length ≤ 3000)
    (bl : (N (N i).l).h ≤ 2000000 ∧ (N (N i).l).c ≤ 2000000 ∧ (N (N i).l).s ≤ 2000000) (br : (N (N i).r).h ≤ 2000000 ∧ (N (N i).r).c ≤ 2000000 ∧ (N (N i).r).s ≤ 2000000) (bt : (N i).tok ≤ 2000000)
    (HL : ∀ W, Tab W g len cap N → Hdr W p g len cap root fr → Out W q base ao ac xs → base ≤ W.heap.size → Calls Yba.prog 37 #[.pointer (some ⟨p, 0, none⟩), .int .i64 ((N i).l : Nat), .int .i64 (d + 1), .pointer (some ⟨q, 0, none⟩)] W fun e w' =>
      ∃ ao' ac', e = .returned (.tuple #[.int .i64 ((N (N i).l).h : Nat), .int .i64 ((N (N i).l).c : Nat), .float .f64 (F (N (N i).l).s), .bool true]) ∧ Out w' q base ao' ac' (xs ++ l1.map fun j => (N j).id) ∧ Fr base q W w')
    (HR : ∀ W ao2 ac2 ys, ys.length ≤ xs.length + l1.length + 1 → Tab W g len cap N → Hdr W p g len cap root fr → Out W q base ao2 ac2 ys → base ≤ W.heap.size → Calls Yba.prog 37 #[.pointer (some ⟨p, 0, none⟩), .int .i64 ((N i).r : Nat), .int .i64 (d + 1), .pointer (some ⟨q, 0, none⟩)] W fun e w' =>
      ∃ ao' ac', e = .returned (.tuple #[.int .i64 ((N (N i).r).h : Nat), .int .i64 ((N (N i).r).c : Nat), .float .f64 (F (N (N i).r).s), .bool true]) ∧ Out w' q base ao' ac' (ys ++ l2.map fun j => (N j).id) ∧ Fr base q W w') :
    Calls Yba.prog 37 #[.pointer (some ⟨p, 0, none⟩), .int .i64 i, .int .i64 d, .pointer (some ⟨q, 0, none⟩)] w fun e w' =>
      ∃ ao' ac', e = .returned (.tuple #[.int .i64 ((N i).h : Nat), .int .i64 ((N i).c : Nat), .float .f64 (F (N i).s), .bool true]) ∧ Out w' q base ao' ac' (xs ++ (l1 ++ i :: l2).map fun j => (N j).id) ∧ Fr base q w w' := by
  have h0 := hH.nodes
  have n0 : ((i : Int) == 0) = false := by simp [hi0]
  have t1 : decide ((64 : Int) < d) = false := by simp; omega
  have t2 : decide ((i : Int) < 0) = false := by simp
  have t3 : decide (len ≤ i) = false := by simp; omega
  have c0 := hT.cell (k := 0) hi (by omega)
  have c1 := hT.cell (k := 1) hi (by omega)
  have c2 := hT.cell (k := 2) hi (by omega)
  have c3 := hT.cell (k := 3) hi (by omega)
  have c4 := hT.cell (k := 4) hi (by omega)
  have c5 := hT.cell (k := 5) hi (by omega)
  have c6 := hT.cell (k := 6) hi (by omega)
  have c7 := hT.cell (k := 7) hi (by omega)
  have c8 := hT.cell (k := 8) hi (by omega)
  have c9 := hT.cell (k := 9) hi (by omega)
  have c10 := hT.cell (k := 10) hi (by omega)
  have c11 := hT.cell (k := 11) hi (by omega)
  have c12 := hT.cell (k := 12) hi (by omega)
  have c13 := hT.cell (k := 13) hi (by omega)
  have c14 := hT.cell (k := 14) hi (by omega)
  simp only [fld, Nat.add_zero] at c0 c1 c2 c3 c4 c5 c6 c7 c8 c9 c10 c11 c12 c13 c14
  have HL' : Hid (∀ W, _) := HL
  have HR' : Hid (∀ W, _) := HR
  have HOK : Hid (Ok N i) := ok
  clear HL HR ok
  have hql : q < w.heap.size := (Array.getElem?_eq_some_iff.1 hO.cell).1
  have F0 : Fr base q w (w.alloc (.cells (rowOf (N i)) 108)) := (Fr.refl base q w).alloc _
  have T0 : Tab (w.alloc (.cells (rowOf (N i)) 108)) g len cap N := hT.alloc _
  have H0 : Hdr (w.alloc (.cells (rowOf (N i)) 108)) p g len cap root fr := hH.fr F0 hqp
  have B0 : (w.alloc (.cells (rowOf (N i)) 108)).heap[w.heap.size]? = some (.cells (rowOf (N i)) 108 (0, 0)) := blk_alloc_new _ _
  have Out0 : Out (w.alloc (.cells (rowOf (N i)) 108)) q base ao ac xs := ⟨by rw [blk_alloc_lt _ _ _ hql]; exact hO.cell, hO.own.alloc _⟩
  have HW : Hid (Fr base q w (w.alloc (.cells (rowOf (N i)) 108)) ∧ Tab (w.alloc (.cells (rowOf (N i)) 108)) g len cap N ∧ Hdr (w.alloc (.cells (rowOf (N i)) 108)) p g len cap root fr ∧ (w.alloc (.cells (rowOf (N i)) 108)).heap[w.heap.size]? = some (.cells (rowOf (N i)) 108 (0, 0)) ∧ Out (w.alloc (.cells (rowOf (N i)) 108)) q base ao ac xs ∧ base ≤ (w.alloc (.cells (rowOf (N i)) 108)).heap.size) := ⟨F0, T0, H0, B0, Out0, by rw [nblk_alloc]; omega⟩
  clear F0 T0 H0 B0 Out0
  go_enter Yba.func37, Yba.ntmps37
  go_wp2_with fail
  show Calls _ _ _ (w.alloc (.cells (rowOf (N i)) 108)) _
  obtain ⟨F0, T0, H0, B0, Out0, S0⟩ := HW.out
  generalize w.alloc (.cells (rowOf (N i)) 108) = w1 at *
  clear HW h0 t1 t2 t3 c0 c1 c2 c3 c4 c5 c6 c7 c8 c9 c10 c11 c12 c13 c14
  refine (HL'.out w1 T0 H0 Out0 S0).mono ?_
  rintro e w2 ⟨ao2, ac2, rfl, Out2, F2⟩
  have hbl : w.heap.size < w1.heap.size := (Array.getElem?_eq_some_iff.1 B0).1
  have hbq : w.heap.size ≠ q := by omega
  have T2 := T0.fr F2 hqg
  have H2 := H0.fr F2 hqp
  have B2 : w2.heap[w.heap.size]? = some (.cells (rowOf (N i)) 108 (0, 0)) := by
    rw [F2.block _ hbl hbq (.inr fun c h => by rw [B0] at h; simp at h)]; exact B0
  have F02 := F0.trans F2
  have S2 : base ≤ w2.heap.size := Nat.le_trans S0 F2.size
  clear T0 H0 B0 S0 F2 F0 Out0 hT hH hO HL'
  generalize w.heap.size = bn at *
  have b0 := cellB B2 0
  have b7 := cellB B2 7
  have o0 := cellB Out2.cell 0
  have o0f := freeB Out2.cell 0
  simp [rowOf] at b0 b7 o0
  obtain ⟨ys, hys⟩ : ∃ ys, ys = xs ++ l1.map fun j => (N j).id := ⟨_, rfl⟩
  rw [← hys] at Out2 
  have hyl : ys.length = xs.length + l1.length := by rw [hys]; simp
  have o1 := cellB Out2.cell 0
  simp at o1
  clear o0
  have HY : Hid (ys = xs ++ l1.map fun j => (N j).id) := hys
  have hyl2 : ys.length ≤ 3000 := by omega
  have HYL : Hid (ys.length = xs.length + l1.length) := hyl
  clear hys hyl
  have HO2 : Hid (Out w2 q base ao2 ac2 ys) := Out2
  have hqs : q < w2.heap.size := (Array.getElem?_eq_some_iff.1 Out2.cell).1
  clear Out2
  go_wp2_with fail
  go_region_law (refine step_append_id rfl (.tmp 65) (.tmp 69) rfl base ao2 ac2 (N i).id w2.heap.size ys (by simp [Act.eval, Act.put]) (by exact HO2.out.own.alloc _) (by simp [Act.eval, Act.put]) (by simp) (by omega) (by simp; omega) ?_; intro g2 c2 w3 ho3 hg3; have hq3 := q_after (q := q) (by exact HO2.out.own.alloc _) hg3.out (by exact (blk_alloc_lt _ _ _ hqs).trans HO2.out.cell); have hq3c := cellB hq3 0; have hq3f := freeB hq3 0; simp only [List.getElem?_toArray, List.getElem?_cons_zero] at hq3c)
  all_goals
    have FF : Fr base q w2 (w3.setCell ⟨q, 0, none⟩ (.slice (some ⟨g2, 0, none⟩) (ys.length + 1) c2)) :=
      ((((Fr.refl base q w2).alloc _).drew).grown (by exact HO2.out.own.alloc _) hg3.out).setq 0 _
    have Out4 := out_after hq3 ho3.out
    have T4 := T2.fr FF hqg
    have H4 := H2.fr FF hqp
    have hb2 : bn < w2.heap.size := (Array.getElem?_eq_some_iff.1 B2).1
    have B4 : (w3.setCell ⟨q, 0, none⟩ (.slice (some ⟨g2, 0, none⟩) (ys.length + 1) c2)).heap[bn]? = some (.cells (rowOf (N i)) 108 (0, 0)) := by
      rw [FF.block _ hb2 hbq (.inr fun c h => by rw [B2] at h; simp at h)]; exact B2
    have F4 := F02.trans FF
    have S4 := Nat.le_trans S2 FF.size
    have HX : Hid (Fr base q w (w3.setCell ⟨q, 0, none⟩ (.slice (some ⟨g2, 0, none⟩) (ys.length + 1) c2)) ∧ Tab (w3.setCell ⟨q, 0, none⟩ (.slice (some ⟨g2, 0, none⟩) (ys.length + 1) c2)) g len cap N ∧ Hdr (w3.setCell ⟨q, 0, none⟩ (.slice (some ⟨g2, 0, none⟩) (ys.length + 1) c2)) p g len cap root fr ∧ base ≤ (w3.setCell ⟨q, 0, none⟩ (.slice (some ⟨g2, 0, none⟩) (ys.length + 1) c2)).heap.size) := ⟨F4, T4, H4, S4⟩
    clear FF hb2 F4 T4 H4 S4 ho3 hg3 hq3 hq3f hq3c HO2 hqs T2 H2 S2 F02 b0 b7 o1 o0f B2
    generalize w3.setCell ⟨q, 0, none⟩ (.slice (some ⟨g2, 0, none⟩) (ys.length + 1) c2) = w4 at *
    have d7 := cellB B4 7
    simp [rowOf] at d7
    go_wp2_with fail
    obtain ⟨F4, T4, H4, S4⟩ := HX.out
    refine (HR'.out w4 _ _ _ (by have := HYL.out; simp; omega) T4 H4 Out4 S4).mono ?_
    rintro e w5 ⟨ao5, ac5, rfl, Out5, F5⟩
    have hb4 : bn < w4.heap.size := (Array.getElem?_eq_some_iff.1 B4).1
    have B5 : w5.heap[bn]? = some (.cells (rowOf (N i)) 108 (0, 0)) := by
      rw [F5.block _ hb4 hbq (.inr fun c h => by rw [B4] at h; simp at h)]; exact B4
    have F6 := F4.trans F5
    have ho1 := HOK.out.h
    have ho2 := HOK.out.s
    have ho3 := HOK.out.c
    have ho4 := HOK.out.b1
    have ho5 := HOK.out.b2
    have e4 := cellB B5 4
    have e8 := cellB B5 8
    have e9 := cellB B5 9
    have e10 := cellB B5 10
    have e11 := cellB B5 11
    simp only [rowOf, List.getElem?_toArray, List.getElem?_cons_succ, List.getElem?_cons_zero] at e4 e8 e9 e10 e11
    have hfin : (ys ++ [(N i).id]) ++ l2.map (fun j => (N j).id) = xs ++ (l1 ++ i :: l2).map fun j => (N j).id := by rw [HY.out]; simp
    rw [hfin] at Out5
    have HF : Hid (Out w5 q base ao5 ac5 (xs ++ (l1 ++ i :: l2).map fun j => (N j).id) ∧ Fr base q w w5) := ⟨Out5, F6⟩
    obtain ⟨m, hm⟩ : ∃ m, m = max (N (N i).l).h (N (N i).r).h := ⟨_, rfl⟩
    rw [← hm] at ho1
    have hm1 : (if ((N (N i).l).h : Int) < (N (N i).r).h then ((N (N i).r).h : Int) else (N (N i).l).h) = m := by omega
    have hm2 : (if (N (N i).l).h < (N (N i).r).h then ((N (N i).r).h : Int) else (N (N i).l).h) = m := by omega
    have hm3 : m ≤ 2000000 := by omega
    rw [ho1] at e8 ⊢
    rw [ho2] at e9 ⊢
    rw [ho3] at e10 ⊢
    have HZ : Hid ((N i).h = 1 + m ∧ (N i).c = (N (N i).l).c + (N (N i).r).c + 1 ∧ (N i).s = (N (N i).l).s + (N (N i).r).s + (N i).tok) := ⟨ho1, ho3, ho2⟩
    generalize (N (N i).l).h = lh at *
    generalize (N (N i).r).h = rh at *
    generalize (N (N i).l).c = lc at *
    generalize (N (N i).r).c = rc at *
    generalize (N (N i).l).s = ls at *
    generalize (N (N i).r).s = rs at *
    generalize (N i).tok = tk at *
    have u1 : decide ((1 : Int) < (lh : Int) - rh) = false := by simp; omega
    have u2 : decide ((lh : Int) - rh < -1) = false := by simp; omega
    obtain ⟨bl1, bl2, bl3⟩ := bl
    obtain ⟨br1, br2, br3⟩ := br
    have v1 := run_F_add ls rs (by omega) (by omega)
    have v2 := run_F_add (ls + rs) tk (by omega) (by omega)
    have v3 := order_F (ls + rs + tk) (by omega)
    clear Out5 F6 F5 B5 B4 T4 H4 S4 F4 HX hb4 ho1 ho2 ho3 ho4 ho5 hm hfin d7 HR' HOK HYL HY Out4
    go_wp2_with fail
    obtain ⟨z1, z2, z3⟩ := HZ.out
    refine bodyPost_ret (v := .tuple #[.int .i64 (1 + (m : Int)), .int .i64 ((lc : Int) + rc + 1), .float .f64 (F (ls + rs + tk)), .bool true]) (by simp [results, Yba.results37, go_sem]) rfl ⟨ao5, ac5, ?_, HF.out.1, HF.out.2⟩
    rw [z1, z2, z3, show (((1 + m : Nat) : Int)) = 1 + (m : Int) by omega, show (((lc + rc + 1 : Nat) : Int)) = (lc : Int) + rc + 1 by omega]

/-- The walk over a whole subtree. -/
theorem walk_any (p g len cap root fr q base : Nat) (N : Nat → Nd) (hlen : len ≤ 2000) (hqg : g ≠ q) (hqp : p ≠ q) : ∀ {i l}, T N i l → Fine N len l →
    ∀ w ao ac xs (d : Int), Tab w g len cap N → Hdr w p g len cap root fr → Out w q base ao ac xs → base ≤ w.heap.size → 0 ≤ d → d + (N i).h ≤ 65 → xs.length + l.length ≤ 3000 →
    Calls Yba.prog 37 #[.pointer (some ⟨p, 0, none⟩), .int .i64 i, .int .i64 d, .pointer (some ⟨q, 0, none⟩)] w fun e w' =>
      ∃ ao' ac', e = .returned (.tuple #[.int .i64 ((N i).h : Nat), .int .i64 ((N i).c : Nat), .float .f64 (F (N i).s), .bool true]) ∧ Out w' q base ao' ac' (xs ++ l.map fun j => (N j).id) ∧ Fr base q w w' := by
  intro i l hTr
  refine T.ind (N := N) (P := fun i l => Fine N len l →
    ∀ w ao ac xs (d : Int), Tab w g len cap N → Hdr w p g len cap root fr → Out w q base ao ac xs → base ≤ w.heap.size → 0 ≤ d → d + (N i).h ≤ 65 → xs.length + l.length ≤ 3000 →
    Calls Yba.prog 37 #[.pointer (some ⟨p, 0, none⟩), .int .i64 i, .int .i64 d, .pointer (some ⟨q, 0, none⟩)] w fun e w' =>
      ∃ ao' ac', e = .returned (.tuple #[.int .i64 ((N i).h : Nat), .int .i64 ((N i).c : Nat), .float .f64 (F (N i).s), .bool true]) ∧ Out w' q base ao' ac' (xs ++ l.map fun j => (N j).id) ∧ Fr base q w w') ?_ ?_ hTr
  · intro f w ao ac xs d hT hH hO hb h1 h2 h3
    refine (walk_zero p q d w).mono ?_
    rintro e w' ⟨rfl, rfl⟩
    refine ⟨ao, ac, ?_, by simpa using hO, Fr.refl _ _ _⟩
    rw [f.z]
    simp [nul, Flt.F_zero]
  · intro i l1 l2 hi t1 t2 ok ih1 ih2 f w ao ac xs d hT hH hO hb h1 h2 h3
    have oh := ok.h
    simp only [List.length_append, List.length_cons] at h3
    refine walk_node p g len cap root fr q base i d N w ao ac xs l1 l2 hT hH hO hb (f.lt i (by simp)) hi h1 (by omega) hlen hqg hqp ok (by omega)
      (T.bq t1 f.left 2000000 (by omega)) (T.bq t2 f.right 2000000 (by omega)) (Nat.le_trans (f.tok i (by simp)) (by omega)) ?_ ?_
    · intro W a b c e
      exact ih1 f.left W ao ac xs (d + 1) a b c e (by omega) (by omega) (by omega)
    · intro W ao2 ac2 ys hy a b c e
      exact ih2 f.right W ao2 ac2 ys (d + 1) a b c e (by omega) (by omega) (by omega)

end Go.Proofs.Ybulkcghm.Bk
