import Derived.Test.YbulkcghmHpA
import Derived.Test.YbulkcghmHpB
import Derived.Test.YbulkcghmHpC
namespace Go.Proofs.Ybulkcghm.Hp
open Go.RowKit Go.Deep Go.Proofs.Ybulkcghm.Pop
open Go.Sort (swp size_swp swp_get)
set_option linter.unusedVariables false

/-- The timers that the heap holds, each with its block and its seq: the variable is block hp, the row of pointers block g. -/
structure Hp (B : Nat) (w : World) (hp g cap : Nat) (T : Array (Nat × Int)) : Prop where
  bhp : B ≤ hp
  bg : B ≤ g
  bT : ∀ i, i < T.size → B ≤ T[i]!.1
  var : w.heap[hp]? = some (.cells #[.slice (some ⟨g, 0, none⟩) T.size cap] 60 (0, 0))
  le : T.size ≤ cap
  cm : cap ≤ maxLen
  row : ∃ cur, w.heap[g]? = some (.cells cur 62 (0, 0)) ∧ cur.size = cap ∧ ∀ i, i < T.size → cur[i]? = some (.pointer (some ⟨T[i]!.1, 0, none⟩))
  made : ∀ i, i < T.size → w.heap[T[i]!.1]? = some (.cells (timer T[i]!.2 i) 67 (0, 0))

/-- What no walk on the heap turns: the blocks below B, the rows of uint64. -/
structure Kp (B : Nat) (w w' : World) : Prop where
  os : w'.os = w.os
  tape : w'.tape = w.tape
  output : w'.output = w.output
  size : w.heap.size ≤ w'.heap.size
  block : ∀ k, k < w.heap.size → (k < B ∨ ∃ c f, w.heap[k]? = some (.cells c 28 f)) → w'.heap[k]? = w.heap[k]?

theorem Kp.refl (B : Nat) (w : World) : Kp B w w := ⟨rfl, rfl, rfl, Nat.le_refl _, fun _ _ _ => rfl⟩
theorem Kp.trans {B : Nat} {a b c : World} (h : Kp B a b) (k : Kp B b c) : Kp B a c :=
  ⟨k.os.trans h.os, k.tape.trans h.tape, k.output.trans h.output, Nat.le_trans h.size k.size, fun i hi hc => (k.block i (Nat.lt_of_lt_of_le hi h.size) (by rw [h.block i hi hc]; exact hc)).trans (h.block i hi hc)⟩
theorem Kp.below {B : Nat} {a w w' : World} (k : Kp B w w') (h : Below B a w) (hB : B ≤ w.heap.size) : Below B a w' :=
  ⟨k.os.trans h.os, k.tape.trans h.tape, k.output.trans h.output, Nat.le_trans h.size k.size, fun i hi => (k.block i (by omega) (Or.inl hi)).trans (h.block i hi)⟩
theorem Kp.of_below {B : Nat} {w w' : World} (h : Below w.heap.size w w') : Kp B w w' := ⟨h.os, h.tape, h.output, h.size, fun i hi _ => h.block i hi⟩

theorem lt_of_blk {w : World} {b : Nat} {o : Obj} (h : w.heap[b]? = some o) : b < w.heap.size := (Array.getElem?_eq_some_iff.1 h).1

theorem blk_same {w : World} {b o : Nat} {c : Array Value} {t : TypeId} {f : Nat × Nat} (h : w.heap[b]? = some (.cells c t f)) (v : Value) : (w.setCell ⟨b, o, none⟩ v).heap[b]? = some (.cells (c.setIfInBounds o v) t f) := by
  simp [World.setCell, Array.getElem?_modify, h]

theorem blk_ne {w : World} {b b' o : Nat} (h : b' ≠ b) (v : Value) : (w.setCell ⟨b, o, none⟩ v).heap[b']? = w.heap[b']? := Below.heap_setCell _ _ _ _ h

namespace Hp
variable {B : Nat} {w w' : World} {hp g cap : Nat} {T : Array (Nat × Int)}

theorem hpg (h : Hp B w hp g cap T) : hp ≠ g := fun e => by
  obtain ⟨cur, hr, _⟩ := h.row
  rw [← e, h.var] at hr; simp at hr
theorem hpT (h : Hp B w hp g cap T) {i : Nat} (hi : i < T.size) : hp ≠ T[i]!.1 := fun e => by
  have := h.made i hi
  rw [← e, h.var] at this; simp at this
theorem hgT (h : Hp B w hp g cap T) {i : Nat} (hi : i < T.size) : g ≠ T[i]!.1 := fun e => by
  obtain ⟨cur, hr, _⟩ := h.row
  have := h.made i hi
  rw [← e, hr] at this; simp at this
theorem inj (h : Hp B w hp g cap T) {i j : Nat} (hi : i < T.size) (hj : j < T.size) (e : T[i]!.1 = T[j]!.1) : i = j := by
  have h1 := h.made i hi
  have h2 := h.made j hj
  rw [e, h2] at h1
  simp [timer] at h1
  omega

theorem of_blocks (h : Hp B w hp g cap T) (hb : ∀ k, k = hp ∨ k = g ∨ (∃ i, i < T.size ∧ k = T[i]!.1) → w'.heap[k]? = w.heap[k]?) : Hp B w' hp g cap T := by
  obtain ⟨cur, hr, h1, h2⟩ := h.row
  exact ⟨h.bhp, h.bg, h.bT, (hb hp (Or.inl rfl)).trans h.var, h.le, h.cm, ⟨cur, (hb g (Or.inr (Or.inl rfl))).trans hr, h1, h2⟩, fun i hi => (hb _ (Or.inr (Or.inr ⟨i, hi, rfl⟩))).trans (h.made i hi)⟩

theorem lts (h : Hp B w hp g cap T) : ∀ k, k = hp ∨ k = g ∨ (∃ i, i < T.size ∧ k = T[i]!.1) → k < w.heap.size := by
  obtain ⟨cur, hr, h1, h2⟩ := h.row
  rintro k (rfl | rfl | ⟨i, hi, rfl⟩)
  · exact lt_of_blk h.var
  · exact lt_of_blk hr
  · exact lt_of_blk (h.made i hi)

theorem later (h : Hp B w hp g cap T) (hb : Below w.heap.size w w') : Hp B w' hp g cap T := h.of_blocks fun k hk => hb.block k (h.lts k hk)

/-- None of the heap's blocks is a row of uint64. -/
theorem not28 (h : Hp B w hp g cap T) : ∀ k, k = hp ∨ k = g ∨ (∃ i, i < T.size ∧ k = T[i]!.1) → ¬ (k < B ∨ ∃ c f, w.heap[k]? = some (.cells c 28 f)) := by
  obtain ⟨cur, hr, h1, h2⟩ := h.row
  rintro k (rfl | rfl | ⟨i, hi, rfl⟩) (hk | ⟨c, f, hk⟩)
  · have := h.bhp; omega
  · rw [h.var] at hk; simp at hk
  · have := h.bg; omega
  · rw [hr] at hk; simp at hk
  · have := h.bT i hi; omega
  · rw [h.made i hi] at hk; simp at hk

theorem cellv (h : Hp B w hp g cap T) : w.cell? ⟨hp, 0, none⟩ = some (.slice (some ⟨g, 0, none⟩) T.size cap) := by simp [World.cell?, h.var]
theorem frozenv (h : Hp B w hp g cap T) : w.frozen? ⟨hp, 0, none⟩ = false := by simp [World.frozen?, h.var]
theorem cellg (h : Hp B w hp g cap T) {i : Nat} (hi : i < T.size) : w.cell? ⟨g, i, none⟩ = some (.pointer (some ⟨T[i]!.1, 0, none⟩)) := by
  obtain ⟨cur, hr, h1, h2⟩ := h.row
  simp [World.cell?, hr, h2 i hi]
theorem frozeng (h : Hp B w hp g cap T) (i : Nat) : w.frozen? ⟨g, i, none⟩ = false := by
  obtain ⟨cur, hr, h1, h2⟩ := h.row
  simp [World.frozen?, hr]
theorem cell6 (h : Hp B w hp g cap T) {i : Nat} (hi : i < T.size) : w.cell? ⟨T[i]!.1, 6, none⟩ = some (.int .u64 T[i]!.2) := by simp [World.cell?, h.made i hi, timer]
theorem cell7 (h : Hp B w hp g cap T) {i : Nat} (hi : i < T.size) : w.cell? ⟨T[i]!.1, 7, none⟩ = some (.int .i64 i) := by simp [World.cell?, h.made i hi, timer]
theorem frozen7 (h : Hp B w hp g cap T) {i : Nat} (hi : i < T.size) : w.frozen? ⟨T[i]!.1, 7, none⟩ = false := by simp [World.frozen?, h.made i hi]

theorem mlen (h : Hp B w hp g cap T) : (method 330 70 (.pointer (some ⟨hp, 0, none⟩)) "Len").run Yba.prog w = .ok (142, .slice (some ⟨g, 0, none⟩) T.size cap) w := m_len _ _ _ h.cellv
theorem mless (h : Hp B w hp g cap T) : (method 330 70 (.pointer (some ⟨hp, 0, none⟩)) "Less").run Yba.prog w = .ok (143, .slice (some ⟨g, 0, none⟩) T.size cap) w := m_less _ _ _ h.cellv
theorem mswap (h : Hp B w hp g cap T) : (method 330 70 (.pointer (some ⟨hp, 0, none⟩)) "Swap").run Yba.prog w = .ok (144, .slice (some ⟨g, 0, none⟩) T.size cap) w := m_swap _ _ _ h.cellv

/-- Less. -/
theorem less (h : Hp B w hp g cap T) (hn : T.size ≤ 1024) {i j : Nat} (hi : i < T.size) (hj : j < T.size) :
    Calls Yba.prog 143 #[.slice (some ⟨g, 0, none⟩) T.size cap, .int .i64 i, .int .i64 j] w fun e w' =>
      e = .returned (.bool (decide (T[i]!.2 < T[j]!.2))) ∧ Hp B w' hp g cap T ∧ Kp B w w' :=
  (less_h g T.size cap i j _ _ _ _ w (by omega) (by omega) hn (h.cellg hi) (h.cellg hj) (h.made i hi) (h.made j hj)).mono fun e w' ⟨he, hb⟩ => ⟨he, h.later hb, Kp.of_below hb⟩

theorem made_set (h : Hp B w hp g cap T) {i : Nat} (hi : i < T.size) (s x y : Int) (w2 : World) (e : w2.heap[T[i]!.1]? = some (.cells (timer s x) 67 (0, 0))) : (w2.setCell ⟨T[i]!.1, 7, none⟩ (.int .i64 y)).heap[T[i]!.1]? = some (.cells (timer s y) 67 (0, 0)) := by
  rw [blk_same e]; rfl

theorem swapped (h : Hp B w hp g cap T) {i j : Nat} (hi : i < T.size) (hj : j < T.size) (hij : i ≠ j) (m : Nat) :
    Hp B (((((w.setCell ⟨g, i, none⟩ (.pointer (some ⟨T[j]!.1, 0, none⟩))).setCell ⟨g, j, none⟩ (.pointer (some ⟨T[i]!.1, 0, none⟩))).setCell ⟨T[j]!.1, 7, none⟩ (.int .i64 i)).setCell ⟨T[i]!.1, 7, none⟩ (.int .i64 j)).drewN m) hp g cap (swp T i j) := by
  obtain ⟨cur, hr, h1, h2⟩ := h.row
  have pq : T[i]!.1 ≠ T[j]!.1 := fun e => hij (h.inj hi hj e)
  have sz : (swp T i j).size = T.size := size_swp T i j
  refine ⟨h.bhp, h.bg, fun k hk => ?_, ?_, by rw [sz]; exact h.le, h.cm, ⟨(cur.setIfInBounds i (.pointer (some ⟨T[j]!.1, 0, none⟩))).setIfInBounds j (.pointer (some ⟨T[i]!.1, 0, none⟩)), ?_, by simpa using h1, fun k hk => ?_⟩, fun k hk => ?_⟩
  · rw [swp_get T hi hj]
    split
    · exact h.bT i hi
    · split
      · exact h.bT j hj
      · exact h.bT k (by omega)
  · show (World.heap _)[hp]? = _
    show ((((w.setCell ⟨g, i, none⟩ _).setCell ⟨g, j, none⟩ _).setCell ⟨T[j]!.1, 7, none⟩ _).setCell ⟨T[i]!.1, 7, none⟩ _).heap[hp]? = _
    rw [blk_ne (h.hpT hi), blk_ne (h.hpT hj), blk_ne h.hpg, blk_ne h.hpg, sz]
    exact h.var
  · show ((((w.setCell ⟨g, i, none⟩ _).setCell ⟨g, j, none⟩ _).setCell ⟨T[j]!.1, 7, none⟩ _).setCell ⟨T[i]!.1, 7, none⟩ _).heap[g]? = _
    rw [blk_ne (h.hgT hi), blk_ne (h.hgT hj)]
    exact blk_same (blk_same hr _) _
  · rw [sz] at hk
    rw [swp_get T hi hj]
    have hc := h.le
    simp only [Array.getElem?_setIfInBounds, Array.size_setIfInBounds]
    by_cases e1 : k = j
    · subst e1
      rw [if_pos rfl, if_pos (by omega), if_pos rfl]
    · rw [if_neg (fun e => e1 e.symm), if_neg e1]
      by_cases e2 : k = i
      · subst e2
        rw [if_pos rfl, if_pos (by omega), if_pos rfl]
      · rw [if_neg (fun e => e2 e.symm), if_neg e2]
        exact h2 k hk
  · rw [sz] at hk
    show ((((w.setCell ⟨g, i, none⟩ _).setCell ⟨g, j, none⟩ _).setCell ⟨T[j]!.1, 7, none⟩ _).setCell ⟨T[i]!.1, 7, none⟩ _).heap[_]? = _
    rw [swp_get T hi hj]
    by_cases e1 : k = j
    · subst e1
      rw [if_pos rfl]
      refine h.made_set hi _ i _ _ ?_
      rw [blk_ne pq, blk_ne (h.hgT hi).symm, blk_ne (h.hgT hi).symm]
      exact h.made i hi
    · rw [if_neg e1]
      by_cases e2 : k = i
      · subst e2
        rw [if_pos rfl, blk_ne pq.symm]
        refine h.made_set hj _ j _ _ ?_
        rw [blk_ne (h.hgT hj).symm, blk_ne (h.hgT hj).symm]
        exact h.made j hj
      · rw [if_neg e2, blk_ne (fun e => e2 (h.inj hk hi e)), blk_ne (fun e => e1 (h.inj hk hj e)), blk_ne (h.hgT hk).symm, blk_ne (h.hgT hk).symm]
        exact h.made k hk

theorem swap_kept (h : Hp B w hp g cap T) {i j : Nat} (hi : i < T.size) (hj : j < T.size) (a b c d : Value) (m : Nat) :
    Kp B w (((((w.setCell ⟨g, i, none⟩ a).setCell ⟨g, j, none⟩ b).setCell ⟨T[j]!.1, 7, none⟩ c).setCell ⟨T[i]!.1, 7, none⟩ d).drewN m) := by
  refine ⟨rfl, rfl, rfl, by simp [World.setCell, World.drewN], fun k hk hc => ?_⟩
  have n1 : k ≠ g := fun e => h.not28 k (Or.inr (Or.inl e)) hc
  have n2 : ∀ i, i < T.size → k ≠ T[i]!.1 := fun i hi e => h.not28 k (Or.inr (Or.inr ⟨i, hi, e⟩)) hc
  show ((((w.setCell ⟨g, i, none⟩ _).setCell ⟨g, j, none⟩ _).setCell ⟨T[j]!.1, 7, none⟩ _).setCell ⟨T[i]!.1, 7, none⟩ _).heap[k]? = _
  rw [blk_ne (n2 i hi), blk_ne (n2 j hj), blk_ne n1, blk_ne n1]

/-- Swap. -/
theorem swap (h : Hp B w hp g cap T) (hn : T.size ≤ 1024) {i j : Nat} (hi : i < T.size) (hj : j < T.size) (hij : i ≠ j) :
    Calls Yba.prog 144 #[.slice (some ⟨g, 0, none⟩) T.size cap, .int .i64 i, .int .i64 j] w fun e w' =>
      e = .returned (.tuple #[]) ∧ Hp B w' hp g cap (swp T i j) ∧ Kp B w w' :=
  (swap_h g T.size cap i j _ _ T[i]!.2 T[j]!.2 w (by omega) (by omega) hij hn (h.cellg hi) (h.cellg hj) (h.frozeng i) (h.frozeng j) (h.cell7 hi) (h.cell7 hj) (h.frozen7 hi) (h.frozen7 hj) (h.hgT hi) (h.hgT hj)).mono
    fun e w' ⟨he, m, hw⟩ => ⟨he, by rw [hw]; exact h.swapped hi hj hij m, by rw [hw]; exact h.swap_kept hi hj _ _ _ _ m⟩

theorem set_id {b o : Nat} {c : Array Value} {t : TypeId} {f : Nat × Nat} {v : Value} (hb : w.heap[b]? = some (.cells c t f)) (hv : c[o]? = some v) (k : Nat) : (w.setCell ⟨b, o, none⟩ v).heap[k]? = w.heap[k]? := by
  by_cases e : k = b
  · subst e
    rw [blk_same hb, hb]
    obtain ⟨h1, h2⟩ := Array.getElem?_eq_some_iff.1 hv
    congr 2
    apply Array.ext (by simp)
    intro i h3 h4
    rw [Array.getElem_setIfInBounds]
    split
    · rename_i e; subst e; exact h2.symm
    · rfl
  · exact blk_ne e _

/-- Swap of a place with itself. -/
theorem swap1 (h : Hp B w hp g cap T) (hn : T.size ≤ 1024) {i : Nat} (hi : i < T.size) :
    Calls Yba.prog 144 #[.slice (some ⟨g, 0, none⟩) T.size cap, .int .i64 i, .int .i64 i] w fun e w' =>
      e = .returned (.tuple #[]) ∧ Hp B w' hp g cap T ∧ Kp B w w' := by
  refine (swap_one g T.size cap i T[i]!.1 w (by omega) hn (h.cellg hi) (h.frozeng i) (h.cell7 hi) (h.frozen7 hi) (h.hgT hi)).mono ?_
  rintro e w' ⟨he, m, hw⟩
  obtain ⟨cur, hr, h1, h2⟩ := h.row
  have hm := h.made i hi
  have hk : ∀ k, w'.heap[k]? = w.heap[k]? := fun k => by
    obtain ⟨w1, e1⟩ : ∃ w1, w1 = w.setCell ⟨g, i, none⟩ (.pointer (some ⟨T[i]!.1, 0, none⟩)) := ⟨_, rfl⟩
    obtain ⟨w2, e2⟩ : ∃ w2, w2 = w1.setCell ⟨g, i, none⟩ (.pointer (some ⟨T[i]!.1, 0, none⟩)) := ⟨_, rfl⟩
    obtain ⟨w3, e3⟩ : ∃ w3, w3 = w2.setCell ⟨T[i]!.1, 7, none⟩ (.int .i64 i) := ⟨_, rfl⟩
    obtain ⟨w4, e4⟩ : ∃ w4, w4 = w3.setCell ⟨T[i]!.1, 7, none⟩ (.int .i64 i) := ⟨_, rfl⟩
    rw [hw, ← e1, ← e2, ← e3, ← e4]
    have s1 : ∀ k : Nat, w1.heap[k]? = w.heap[k]? := fun k => by rw [e1]; exact set_id hr (h2 i hi) k
    have s2 : ∀ k : Nat, w2.heap[k]? = w1.heap[k]? := fun k => by rw [e2]; exact set_id ((s1 g).trans hr) (h2 i hi) k
    have t2 : w2.heap[T[i]!.1]? = some (.cells (timer T[i]!.2 i) 67 (0, 0)) := (s2 _).trans ((s1 _).trans hm)
    have s3 : ∀ k : Nat, w3.heap[k]? = w2.heap[k]? := fun k => by rw [e3]; exact set_id t2 rfl k
    have s4 : ∀ k : Nat, w4.heap[k]? = w3.heap[k]? := fun k => by rw [e4]; exact set_id ((s3 _).trans t2) rfl k
    exact (s4 k).trans ((s3 k).trans ((s2 k).trans (s1 k)))
  refine ⟨he, h.of_blocks fun k _ => hk k, ?_⟩
  rw [hw] at hk ⊢
  exact ⟨rfl, rfl, rfl, by simp [World.setCell, World.drewN], fun k _ _ => hk k⟩

end Hp
end Go.Proofs.Ybulkcghm.Hp
