import Derived.Test.YbulkcghmTab
namespace Go.Proofs.Ybulkcghm.Bk
open Go.RowKit Go.Deep
open Go.Proofs.Ybulkcghm.Flt (F)
open Go.Proofs.Ybulkcghm.Avl
set_option linter.unusedVariables false

/-- The cells of node{}. -/
def zc : Array Value := #[.int .u64 0, .int .u64 0, .int .i64 0, .pointer none, .float .f64 0, .int .u8 0, .int .i64 0, .int .i64 0, .int .i64 0, .float .f64 0, .int .i64 0, .int .i64 0, .int .i64 0, .float .f64 0, .bool false]

theorem info108 : (Yba.prog.info? 108).map (fun i => (i.zero, i.size, i.bytes)) = some (some (.agg zc), 15, 120) := by kernel_rfl

theorem zc_fld : ∀ k, k < 15 → zc[k]? = some (fld nul k) := by
  intro k hk
  match k, hk with
  | 0, _ | 1, _ | 2, _ | 3, _ | 5, _ | 6, _ | 7, _ | 8, _ | 10, _ | 11, _ | 12, _ | 13, _ | 14, _ => simp [zc, fld, nul]
  | 4, _ => simp [zc, fld, nul, Flt.F_zero]
  | 9, _ => simp [zc, fld, nul, Flt.F_zero]

def flat (N : Nat → Nd) (len : Nat) : List Value := (List.range (len * 15)).map fun q => fld (N (q / 15)) (q % 15)

theorem flat_at (N : Nat → Nd) (len q : Nat) (h : q < len * 15) : (flat N len)[q]? = some (fld (N (q / 15)) (q % 15)) := by
  simp [flat, List.getElem?_map, List.getElem?_range h]

theorem length_flat (N : Nat → Nd) (len : Nat) : (flat N len).length = len * 15 := by simp [flat]

theorem Tab.owns {w : World} {g len cap : Nat} {N : Nat → Nd} (h : Tab w g len cap N) (hcap : cap ≤ maxLen) {base : Nat} (hb : base ≤ g) : w.ownsRow base 108 15 (.slice (some ⟨g, 0, none⟩) len cap) len (flat N len) := by
  obtain ⟨c, hc, hn, hl, hf⟩ := h
  refine ⟨length_flat N len, .inr ⟨g, cap, c, rfl, hb, hc, hl, hcap, hn, ?_⟩⟩
  apply List.ext_getElem?
  intro q
  by_cases hq : q < len * 15
  · rw [flat_at N len q hq, List.getElem?_take_of_lt hq]
    have := hf (q / 15) (by omega) (q % 15) (Nat.mod_lt _ (by omega))
    rw [show q / 15 * 15 + q % 15 = q by omega] at this
    simpa using this
  · rw [List.getElem?_eq_none (by simp; omega), List.getElem?_eq_none (by rw [length_flat]; omega)]

theorem tab_of_owns {w : World} {base len : Nat} {v : Value} {N : Nat → Nd} (h : w.ownsRow base 108 15 v (len + 1) (flat N len ++ zc.toList)) :
    ∃ g cap, v = .slice (some ⟨g, 0, none⟩) (len + 1) cap ∧ Tab w g (len + 1) cap (put N len nul) ∧ cap ≤ maxLen ∧ base ≤ g := by
  obtain ⟨hl, ⟨_, h0⟩ | ⟨g, cap, cur, hv, hb, hh, hle, hm, hs, ht⟩⟩ := h
  · omega
  · refine ⟨g, cap, hv, ⟨cur, hh, hs, hle, fun i hi k hk => ?_⟩, hm, hb⟩
    have hq : i * 15 + k < (len + 1) * 15 := by omega
    have e1 : cur[i * 15 + k]? = (cur.toList.take ((len + 1) * 15))[i * 15 + k]? := by
      rw [List.getElem?_take_of_lt hq]; simp
    rw [e1, ht]
    by_cases hlt : i < len
    · rw [List.getElem?_append_left (by rw [length_flat]; omega), flat_at N len _ (by omega), show (i * 15 + k) / 15 = i by omega, show (i * 15 + k) % 15 = k by omega, put_ne _ _ (by omega)]
    · have : i = len := by omega
      subst this
      rw [List.getElem?_append_right (by rw [length_flat]; omega), length_flat, show i * 15 + k - i * 15 = k by omega, put_same]
      have := zc_fld k hk
      simpa using this

theorem zc_one : ∀ u ∈ zc.toList, u.oneCell' = true := by decide +kernel

theorem zc_cells {w : World} {b : Nat} (hb : w.heap[b]? = some (.cells zc 108 (0, 0))) : ∀ j u, zc.toList[j]? = some u → w.cell? ((⟨b, 0, none⟩ : Addr).add j) = some u := by
  intro j u hj
  have : zc[j]? = some u := by simpa using hj
  unfold Addr.add
  split
  · rename_i h; subst h; simp [World.cell?, hb, this]
  · simp [World.cell?, hb, this]

/-- 'nodes = append(nodes, node{})'. -/
theorem wpList_append_tab {ops : Array Oper} {rest : List Oper} {o : Oper} {a : Act} {Q : Exit → Act → World → Prop} (w : World) (hgd : o.guard = none) (s x : Operand)
    (ho : o.op = .call { callee := .builtin .append, args := #[s, x], argTypes := #[86, 86] }) (base g len cap b : Nat) (N : Nat → Nd) (hT : Tab w g len cap N) (hcap : cap ≤ maxLen) (hbase : base ≤ g) (hbs : base ≤ w.heap.size)
    (hs : a.eval s = .slice (some ⟨g, 0, none⟩) len cap) (hx : a.eval x = .slice (some ⟨b, 0, none⟩) 1 1) (hb : w.heap[b]? = some (.cells zc 108 (0, 0))) (hl : len ≤ 2000)
    (h : ∀ g' cap' w', Tab w' g' (len + 1) cap' (put N len nul) → cap' ≤ maxLen → base ≤ g' → w.grownBy w' (some g) → wpList Yba.prog ops Q rest (a.put o.dst (.slice (some ⟨g', 0, none⟩) (len + 1) cap')) w') :
    wpList Yba.prog ops Q (o :: rest) a w := by
  obtain ⟨i0, hi, hz0, hz1, hz2⟩ := info_parts info108
  refine wpList_append_own w hgd s x 86 ho base 108 i0 (.agg zc) 15 120 Yba.underlying86 hi hz0 hz1 hz2 rfl (by decide) _ len (flat N len) hs (hT.owns hcap hbase) ⟨b, 0, none⟩ 1 1 zc.toList hx rfl (zc_cells hb) zc_one (by unfold maxLen; omega) (by omega) hbs ?_
  intro v' w' hown hgr _
  obtain ⟨g', cap', rfl, hT', hc', hb'⟩ := tab_of_owns hown
  exact h g' cap' w' hT' hc' hb' hgr

/-- .. where there was none. -/
theorem wpList_append_tab0 {ops : Array Oper} {rest : List Oper} {o : Oper} {a : Act} {Q : Exit → Act → World → Prop} (w : World) (hgd : o.guard = none) (s x : Operand)
    (ho : o.op = .call { callee := .builtin .append, args := #[s, x], argTypes := #[86, 86] }) (base b : Nat) (hbs : base ≤ w.heap.size)
    (hs : a.eval s = .slice none 0 0) (hx : a.eval x = .slice (some ⟨b, 0, none⟩) 1 1) (hb : w.heap[b]? = some (.cells zc 108 (0, 0)))
    (h : ∀ g' cap' w', Tab w' g' 1 cap' (fun _ => nul) → cap' ≤ maxLen → base ≤ g' → w.grownBy w' none → wpList Yba.prog ops Q rest (a.put o.dst (.slice (some ⟨g', 0, none⟩) 1 cap')) w') :
    wpList Yba.prog ops Q (o :: rest) a w := by
  obtain ⟨i0, hi, hz0, hz1, hz2⟩ := info_parts info108
  refine wpList_append_own w hgd s x 86 ho base 108 i0 (.agg zc) 15 120 Yba.underlying86 hi hz0 hz1 hz2 rfl (by decide) _ 0 (flat (fun _ => nul) 0) hs (World.ownsRow_nil _ _ _ _) ⟨b, 0, none⟩ 1 1 zc.toList hx rfl (zc_cells hb) zc_one (by unfold maxLen; omega) (by omega) hbs ?_
  intro v' w' hown hgr _
  obtain ⟨g', cap', rfl, hT', hc', hb'⟩ := tab_of_owns (len := 0) hown
  refine h g' cap' w' (hT'.congr fun i hi => ?_) hc' hb' hgr
  rw [show i = 0 by omega, put_same]

end Go.Proofs.Ybulkcghm.Bk
