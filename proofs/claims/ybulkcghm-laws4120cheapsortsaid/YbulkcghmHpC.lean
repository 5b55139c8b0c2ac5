import Derived.Test.YbulkcghmPopB
import Derived.BigQuiet
import Derived.Deep.QuietTactic
import Derived.WalkSpells
import Derived.WalkSmall
import Derived.Deep.RegionWith
namespace Go.Proofs.Ybulkcghm.Hp
open Go.RowKit Go.Deep Go.Proofs.Ybulkcghm.Pop
set_option linter.unusedVariables false

theorem m_push (a : Addr) (w : World) : (method 330 70 (.pointer (some a)) "Push").run Yba.prog w = .ok (147, .pointer (some a)) w := by kernel_rfl
theorem m_pop (a : Addr) (w : World) : (method 330 70 (.pointer (some a)) "Pop").run Yba.prog w = .ok (21, .pointer (some a)) w := by kernel_rfl

theorem load60 (a : Addr) (w : World) (v : Value) (h : w.cell? a = some v) : (loadVar 60 a).run Yba.prog w = .ok v w := by
  have hagg : (isAgg 60).run Yba.prog w = .ok false w := by
    unfold isAgg
    rw [Sem.run_bind, run_underlying Yba.underlying60 w]
    rfl
  simp [loadVar, Sem.run_bind, hagg, go_sem, h]

theorem wnc (a : Addr) (x y : String) (w : World) (t : Array TypeId) (ty : TypeId) : (Builtin.ssaWrapNilChk_ t ty #[.pointer (some a), strVal x, strVal y]).run Yba.prog w = .ok (.pointer (some a)) w := rfl

theorem recv_val (nm : String) (a : Addr) (w : World) (v : Value) (h : w.cell? a = some v) : (receiverAt 70 (.val (.pointer (some a))) false (some nm)).run Yba.prog w = .ok v w := by
  unfold receiverAt
  rw [Sem.run_bind, run_underlying Yba.underlying70 w, Result.andThen_ok]
  show Sem.run Yba.prog (Builtin.ssaWrapNilChk_ #[70] 70 #[.pointer (some a), strVal "", strVal nm] >>= fun ptr => asAddr ptr >>= fun x => loadVar 60 x) w = _
  rw [Sem.run_bind, wnc, Result.andThen_ok]
  exact load60 a w v h

theorem m_val (name : String) (f : FuncId) (hm : (Yba.prog.info? 70).map (fun i => (i.methods.find? (fun m => m.name == name)).map (fun m => (m.path, m.func))) = some (some (#[], some (f, false))))
    (a : Addr) (w : World) (v : Value) (h : w.cell? a = some v) : (method 330 70 (.pointer (some a)) name).run Yba.prog w = .ok (f, v) w := by
  obtain ⟨i, hi, hm⟩ := Option.map_eq_some_iff.1 hm
  obtain ⟨m, hf, hm⟩ := Option.map_eq_some_iff.1 hm
  obtain ⟨h1, h2⟩ := Prod.mk.inj hm
  have ht : (typeInfo 70).run Yba.prog w = .ok i w := by simp [typeInfo, hi]
  show (method (329 + 1) 70 (.pointer (some a)) name).run Yba.prog w = .ok (f, v) w
  unfold method
  rw [Sem.run_bind, ht, Result.andThen_ok]
  simp only [hf, h1, h2]
  have hr := fun nm => recv_val nm a w v h
  simp only [follow, Sem.run_bind, Sem.run_pure, Result.andThen_ok]
  rw [show (#[] : Array FieldStep).isEmpty = true from rfl, if_pos rfl, hr]
  rfl

theorem m_len (a : Addr) (w : World) (v : Value) (h : w.cell? a = some v) : (method 330 70 (.pointer (some a)) "Len").run Yba.prog w = .ok (142, v) w := m_val "Len" 142 (by kernel_rfl) a w v h
theorem m_less (a : Addr) (w : World) (v : Value) (h : w.cell? a = some v) : (method 330 70 (.pointer (some a)) "Less").run Yba.prog w = .ok (143, v) w := m_val "Less" 143 (by kernel_rfl) a w v h
theorem m_swap (a : Addr) (w : World) (v : Value) (h : w.cell? a = some v) : (method 330 70 (.pointer (some a)) "Swap").run Yba.prog w = .ok (144, v) w := m_val "Swap" 144 (by kernel_rfl) a w v h

theorem info62i : ∃ i, Yba.prog.info? 62 = some i ∧ i.zero = some (.pointer none) ∧ i.size = 1 ∧ i.bytes = 8 := by
  have := info62
  obtain ⟨i, hi, h⟩ := Option.map_eq_some_iff.1 this
  simp at h
  exact ⟨i, hi, h.1, h.2.1, h.2.2⟩

theorem assert62f (v : Value) (w : World) : (Instr.typeAssert (.iface 62 v) 20 62 false).run Yba.prog w = .ok v w := by
  simp [Instr.typeAssert, run_underlying Yba.underlying62, go_sem, Result.andThen]

theorem one_new {w : World} {b : Nat} {v : Value} (hb : w.cell? ⟨b, 0, none⟩ = some v) (j : Nat) (u : Value) (hj : [v][j]? = some u) : w.cell? ((⟨b, 0, none⟩ : Addr).add j) = some u := by
  match j, hj with
  | 0, hj => simp at hj; subst hj; simpa [Addr.add] using hb

theorem wpList_append_ptr {ops : Array Oper} {rest : List Oper} {o : Oper} {a : Act} {Q : Exit → Act → World → Prop} (w : World) (hgd : o.guard = none) (s x : Operand)
    (ho : o.op = .call { callee := .builtin .append, args := #[s, x], argTypes := #[60, 60] }) (B g n cap b p : Nat) (xs : List Value) (hn : n ≤ 1024) (hB : B ≤ w.heap.size)
    (hs : a.eval s = .slice (some ⟨g, 0, none⟩) n cap) (hown : w.ownsRow B 62 1 (.slice (some ⟨g, 0, none⟩) n cap) n xs)
    (hx : a.eval x = .slice (some ⟨b, 0, none⟩) 1 1) (hb : w.cell? ⟨b, 0, none⟩ = some (.pointer (some ⟨p, 0, none⟩)))
    (h : ∀ g' cap' w', Hid (w'.ownsRow B 62 1 (.slice (some ⟨g', 0, none⟩) (n + 1) cap') (n + 1) (xs ++ [.pointer (some ⟨p, 0, none⟩)])) → Hid (w.grownBy w' (some g)) →
      wpList Yba.prog ops Q rest (a.put o.dst (.slice (some ⟨g', 0, none⟩) (n + 1) cap')) w') :
    wpList Yba.prog ops Q (o :: rest) a w := by
  obtain ⟨i0, hi0, hz0, hz1, hz2⟩ := info62i
  refine wpList_append_own w hgd s x 60 ho B 62 i0 (.pointer none) 1 8 Yba.underlying60 hi0 hz0 hz1 hz2 rfl (by decide) _ n xs hs hown ⟨b, 0, none⟩ 1 1 [.pointer (some ⟨p, 0, none⟩)] hx rfl (one_new hb) (by intro u hu; simp at hu; subst hu; rfl) (by unfold maxLen; omega) (by omega) hB ?_
  intro v' w' h2 h3 _
  have h2' := h2
  rcases h2.2 with ⟨_, h0⟩ | ⟨g', c', cur, rfl, _⟩
  · omega
  · exact h g' c' w' h2' h3

set_option maxHeartbeats 1000000 in
set_option maxRecDepth 100000 in
/-- timerHeap.Push: the index is set; the pointer appended. -/
theorem pushM_h (hp g n cap p B : Nat) (xs : List Value) (x : Value) (w : World) (hn : n ≤ 1024) (hB : B ≤ w.heap.size)
    (h1 : w.cell? ⟨hp, 0, none⟩ = some (.slice (some ⟨g, 0, none⟩) n cap)) (h1f : w.frozen? ⟨hp, 0, none⟩ = false)
    (hown : w.ownsRow B 62 1 (.slice (some ⟨g, 0, none⟩) n cap) n xs)
    (h3 : w.cell? ⟨p, 7, none⟩ = some x) (h3f : w.frozen? ⟨p, 7, none⟩ = false) (hhg : hp ≠ g) (hhp : hp ≠ p) (hgp : g ≠ p) :
    Calls Yba.prog 147 #[.pointer (some ⟨hp, 0, none⟩), .iface 62 (.pointer (some ⟨p, 0, none⟩))] w fun e w' =>
      e = .returned (.tuple #[]) ∧ ∃ g' cap' w1, w1.ownsRow B 62 1 (.slice (some ⟨g', 0, none⟩) (n + 1) cap') (n + 1) (xs ++ [.pointer (some ⟨p, 0, none⟩)]) ∧
        ((w.setCell ⟨p, 7, none⟩ (.int .i64 n)).alloc (.cells #[.pointer (some ⟨p, 0, none⟩)] 62)).grownBy w1 (some g) ∧ w' = w1.setCell ⟨hp, 0, none⟩ (.slice (some ⟨g', 0, none⟩) (n + 1) cap') := by
  have has := assert62f
  have hlt : hp < w.heap.size := World.block_lt_of_cell? w _ h1
  have hlg : p < w.heap.size := World.block_lt_of_cell? w _ h3
  have hown1 : Hid (((w.setCell ⟨p, 7, none⟩ (.int .i64 n)).alloc (.cells #[.pointer (some ⟨p, 0, none⟩)] 62)).ownsRow B 62 1 (.slice (some ⟨g, 0, none⟩) n cap) n xs) := by
    obtain ⟨a1, a2⟩ := hown
    refine ⟨a1, ?_⟩
    rcases a2 with a2 | ⟨G, c, cur, e1, e2, e3, e4⟩
    · exact Or.inl a2
    · refine Or.inr ⟨G, c, cur, e1, e2, ?_, e4⟩
      simp at e1
      have hlG : G < w.heap.size := (Array.getElem?_eq_some_iff.1 e3).1
      rw [Below.heap_alloc _ _ _ (by simpa [World.setCell] using hlG), Below.heap_setCell _ _ _ _ (by show G ≠ p; omega)]
      exact e3
  have hnew : Hid (((w.setCell ⟨p, 7, none⟩ (.int .i64 n)).alloc (.cells #[.pointer (some ⟨p, 0, none⟩)] 62)).cell? ⟨w.heap.size, 0, none⟩ = some (.pointer (some ⟨p, 0, none⟩))) := by
    have := blk_alloc_new (w.setCell ⟨p, 7, none⟩ (.int .i64 n)) (.cells #[.pointer (some ⟨p, 0, none⟩)] 62)
    simp [World.setCell] at this
    unfold Hid
    simp [World.cell?, World.setCell, this]
  clear hown
  go_enter Yba.func147, Yba.ntmps147
  go_wp2_with (refine wpList_append_ptr _ rfl _ _ rfl B g n cap w.heap.size p xs hn ?q1 rfl hown1.out rfl hnew.out ?_)
  case q1 => simp [World.setCell]; omega
  intro g' cap' w1 HO HG
  have hcv : w1.cell? ⟨hp, 0, none⟩ = some (.slice (some ⟨g, 0, none⟩) n cap) := by
    rw [World.cell?_of_block (HG.out.block hp (by simp [World.setCell]; omega) (by simp; exact hhg)), World.cell?_of_block (Below.heap_alloc _ _ hp (by simpa [World.setCell] using hlt)), World.cell?_of_block (Below.heap_setCell _ _ _ hp (by exact hhp))]
    exact h1
  have hcf : w1.frozen? ⟨hp, 0, none⟩ = false := by
    rw [World.frozen?_of_block (HG.out.block hp (by simp [World.setCell]; omega) (by simp; exact hhg)), World.frozen?_of_block (Below.heap_alloc _ _ hp (by simpa [World.setCell] using hlt)), World.frozen?_of_block (Below.heap_setCell _ _ _ hp (by exact hhp))]
    exact h1f
  clear h1 h1f h3 h3f hown1 hnew
  go_wp2_with fail
  go_end0
  exact ⟨rfl, g', cap', w1, HO.out, HG.out, rfl⟩

end Go.Proofs.Ybulkcghm.Hp
