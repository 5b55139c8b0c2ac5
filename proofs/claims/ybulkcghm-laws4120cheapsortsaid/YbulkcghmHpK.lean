import Derived.Test.YbulkcghmHpI
import Derived.Test.YbulkcghmHpJ
import Derived.Lib.JoinLaws
namespace Go.Proofs.Ybulkcghm.Hs
open Go.RowKit Go.Deep Go.Proofs.Ybulkcghm.Pop Go.Proofs.Ybulkcghm.Hp
open Go.Proofs.Ybulkcghm.So (Row info28 info28i)
set_option linter.unusedVariables false

/-! ### plain -/

/-- The pops come in order: k of them are out, the rest still in the heap. -/
structure Out (N : List Int) (zs : List Int) (T : Array (Nat × Int)) : Prop where
  perm : (zs ++ T.toList.map (·.2)).Perm N
  sorted : zs.Pairwise (· ≤ ·)
  below : ∀ z ∈ zs, ∀ t ∈ T.toList, z ≤ t.2

theorem mem_get {T : Array (Nat × Int)} {t : Nat × Int} (h : t ∈ T.toList) : ∃ i, i < T.size ∧ T[i]! = t := by
  obtain ⟨i, hi, e⟩ := List.mem_iff_getElem.1 h
  have hi' : i < T.size := by simpa using hi
  exact ⟨i, hi', by rw [getElem!_pos T i hi']; simpa using e⟩

theorem Out.step {N zs : List Int} {T T' : Array (Nat × Int)} (h : Out N zs T) (h0 : 0 < T.size) (ho : Ord (fun k => T[k]!.2) T.size) (hp : T.toList.Perm (T[0]! :: T'.toList)) : Out N (zs ++ [T[0]!.2]) T' := by
  refine ⟨?_, ?_, ?_⟩
  · refine List.Perm.trans ?_ h.perm
    rw [List.append_assoc]
    refine List.Perm.append_left zs ?_
    have := (hp.map (·.2)).symm
    simpa using this
  · rw [List.pairwise_append]
    refine ⟨h.sorted, by simp, fun a ha b hb => ?_⟩
    simp at hb
    subst hb
    refine h.below a ha _ ?_
    exact hp.symm.subset (List.mem_cons_self ..)
  · intro z hz t ht
    have ht2 : t ∈ T.toList := hp.symm.subset (List.mem_cons_of_mem _ ht)
    rw [List.mem_append] at hz
    rcases hz with hz | hz
    · exact h.below z hz t ht2
    · simp at hz
      subst hz
      obtain ⟨i, hi, rfl⟩ := mem_get ht2
      exact ord_min ho i hi

theorem Out.last {N zs : List Int} {T : Array (Nat × Int)} (h : Out N zs T) (h0 : T.size = 0) : zs = N.mergeSort (fun x y => decide (x ≤ y)) := by
  have hT : T.toList = [] := by
    have := Array.length_toList (xs := T)
    exact List.eq_nil_of_length_eq_zero (by omega)
  have hp := h.perm
  rw [hT] at hp
  simp at hp
  have s2 := List.pairwise_mergeSort (le := fun x y : Int => decide (x ≤ y)) (fun a b c h1 h2 => by simp at *; omega) (fun a b => by simp; omega) N
  have p2 := List.mergeSort_perm N (fun x y => decide (x ≤ y))
  refine List.Perm.eq_of_pairwise (le := fun x y : Int => x ≤ y) (fun a b _ _ h1 h2 => Int.le_antisymm h1 h2) h.sorted (s2.imp (by simp)) (hp.trans p2.symm)

/-! ### the rows that append turns -/

theorem one_new {w : World} {b : Nat} {v : Value} (hb : w.cell? ⟨b, 0, none⟩ = some v) (j : Nat) (u : Value) (hj : [v][j]? = some u) : w.cell? ((⟨b, 0, none⟩ : Addr).add j) = some u := Hp.one_new hb j u hj

theorem wpList_append_u {ops : Array Oper} {rest : List Oper} {o : Oper} {a : Act} {Q : Exit → Act → World → Prop} (w : World) (hgd : o.guard = none) (s x : Operand)
    (ho : o.op = .call { callee := .builtin .append, args := #[s, x], argTypes := #[48, 48] }) (B g n cap b : Nat) (z : Int) (xs : List Value) (hn : n ≤ 1024) (hB : B ≤ w.heap.size)
    (hs : a.eval s = .slice (some ⟨g, 0, none⟩) n cap) (hown : w.ownsRow B 28 1 (.slice (some ⟨g, 0, none⟩) n cap) n xs)
    (hx : a.eval x = .slice (some ⟨b, 0, none⟩) 1 1) (hb : w.cell? ⟨b, 0, none⟩ = some (.int .u64 z))
    (h : ∀ g' cap' w', Hid (w'.ownsRow B 28 1 (.slice (some ⟨g', 0, none⟩) (n + 1) cap') (n + 1) (xs ++ [.int .u64 z])) → Hid (w.grownBy w' (some g)) →
      wpList Yba.prog ops Q rest (a.put o.dst (.slice (some ⟨g', 0, none⟩) (n + 1) cap')) w') :
    wpList Yba.prog ops Q (o :: rest) a w := by
  obtain ⟨i0, hi0, hz0, hz1, hz2⟩ := info28i
  refine wpList_append_own w hgd s x 48 ho B 28 i0 (.int .u64 0) 1 8 Yba.underlying48 hi0 hz0 hz1 hz2 rfl (by decide) _ n xs hs hown ⟨b, 0, none⟩ 1 1 [.int .u64 z] hx rfl (one_new hb) (by intro u hu; simp at hu; subst hu; rfl) (by unfold maxLen; omega) (by omega) hB ?_
  intro v' w' h2 h3 _
  have h2' := h2
  rcases h2.2 with ⟨_, h0⟩ | ⟨g', c', cur, rfl, _⟩
  · omega
  · exact h g' c' w' h2' h3

theorem owns_blk {w w' : World} {B g n cap : Nat} {xs : List Value} (h : w.ownsRow B 28 1 (.slice (some ⟨g, 0, none⟩) n cap) n xs) (hb : w'.heap[g]? = w.heap[g]?) : w'.ownsRow B 28 1 (.slice (some ⟨g, 0, none⟩) n cap) n xs := by
  obtain ⟨a1, a2⟩ := h
  refine ⟨a1, ?_⟩
  rcases a2 with a2 | ⟨G, c, cur, e1, e2, e3, e4⟩
  · exact Or.inl a2
  · refine Or.inr ⟨G, c, cur, e1, e2, ?_, e4⟩
    simp at e1
    rw [← e1.1, hb, e1.1]; exact e3

theorem owns_28 {w : World} {B g n cap : Nat} {xs : List Value} (h : w.ownsRow B 28 1 (.slice (some ⟨g, 0, none⟩) n cap) n xs) : ∃ c f, w.heap[g]? = some (.cells c 28 f) := by
  obtain ⟨a1, a2⟩ := h
  rcases a2 with ⟨a2, _⟩ | ⟨G, c, cur, e1, e2, e3, e4⟩
  · simp at a2
  · simp at e1
    rw [e1.1]
    exact ⟨_, _, e3⟩

theorem owns_kept {w w' : World} {B B' g n cap : Nat} {xs : List Value} (h : w.ownsRow B 28 1 (.slice (some ⟨g, 0, none⟩) n cap) n xs) (hk : Kp B' w w') : w'.ownsRow B 28 1 (.slice (some ⟨g, 0, none⟩) n cap) n xs := by
  have h28 := owns_28 h
  obtain ⟨c, f, hg⟩ := h28
  exact owns_blk h (hk.block g (lt_of_blk hg) (Or.inr ⟨c, f, hg⟩))

theorem hp_grown {B : Nat} {w w' : World} {hp g cap o : Nat} {T : Array (Nat × Int)} (h : Hp.Hp B w hp g cap T) (hg : w.grownBy w' (some o)) (h28 : ∃ c f, w.heap[o]? = some (.cells c 28 f)) : Hp.Hp B w' hp g cap T :=
  h.of_blocks fun k hk => hg.block k (h.lts k hk) fun e => h.not28 k hk (Or.inr (by simp at e; rw [e]; exact h28))

theorem owns_cell {w : World} {B g n cap : Nat} {zs : List Int} (h : w.ownsRow B 28 1 (.slice (some ⟨g, 0, none⟩) n cap) n (zs.map (Value.int .u64))) (i : Nat) (hi : i < n) : w.cell? ⟨g, i, none⟩ = some (.int .u64 (zs.getD i 0)) ∧ w.frozen? ⟨g, i, none⟩ = false := by
  obtain ⟨a1, a2⟩ := h
  rcases a2 with ⟨a2, _⟩ | ⟨G, c, cur, e1, e2, e3, e4, e5, e6, e7⟩
  · simp at a2
  · simp at e1
    obtain ⟨rfl, rfl⟩ := e1
    have hl : zs.length = n := by simpa using a1
    have q : cur[i]? = (cur.toList.take (n * 1))[i]? := by
      rw [List.getElem?_take_of_lt (by omega)]; simp
    refine ⟨?_, by simp [World.frozen?, e3]⟩
    simp only [World.cell?, e3]
    show cur[i]? = _
    rw [q, e7, List.getElem?_map, List.getElem?_eq_getElem (by omega)]
    simp [List.getD, List.getElem?_eq_getElem (show i < zs.length by omega)]

end Go.Proofs.Ybulkcghm.Hs
