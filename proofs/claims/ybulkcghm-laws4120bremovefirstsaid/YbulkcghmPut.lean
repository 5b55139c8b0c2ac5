import Derived.Test.YbulkcghmTab
import Derived.Laws.IdiomCopy
namespace Go.Proofs.Ybulkcghm.Bk
open Go.RowKit Go.Deep
open Go.Proofs.Ybulkcghm.Flt (F)
open Go.Proofs.Ybulkcghm.Avl
set_option linter.unusedVariables false

/-- Cells stored one behind the other into one block. -/
def sets (w : World) (g : Nat) : Nat → List Value → World
  | _, [] => w
  | o, v :: vs => sets (w.setCell ⟨g, o, none⟩ v) g (o + 1) vs

theorem sets_block {g : Nat} {t : TypeId} {f : Nat × Nat} : ∀ (vs : List Value) (o : Nat) (w : World) (c : Array Value), w.heap[g]? = some (.cells c t f) → o + vs.length ≤ c.size →
    ∃ c', (sets w g o vs).heap[g]? = some (.cells c' t f) ∧ c'.size = c.size ∧ (∀ q, q < o ∨ o + vs.length ≤ q → c'[q]? = c[q]?) ∧ ∀ j, j < vs.length → c'[o + j]? = vs[j]?
  | [], o, w, c, h, _ => ⟨c, h, rfl, fun _ _ => rfl, fun j hj => absurd hj (Nat.not_lt_zero _)⟩
  | v :: vs, o, w, c, h, hl => by
    simp only [List.length_cons] at hl
    have h1 : (w.setCell ⟨g, o, none⟩ v).heap[g]? = some (.cells (c.setIfInBounds o v) t f) := by simp [World.setCell, Array.getElem?_modify, h]
    obtain ⟨c', a1, a2, a3, a4⟩ := sets_block vs (o + 1) _ _ h1 (by simp; omega)
    refine ⟨c', a1, by simpa using a2, fun q hq => ?_, fun j hj => ?_⟩
    · simp only [List.length_cons] at hq
      rw [a3 q (by omega), Array.getElem?_setIfInBounds, if_neg (by omega)]
    · cases j with
      | zero =>
        rw [Nat.add_zero, a3 o (by omega), Array.getElem?_setIfInBounds, if_pos rfl, if_pos (by omega)]; rfl
      | succ j =>
        have := a4 j (by simpa using hj)
        rw [show o + (j + 1) = o + 1 + j by omega, this]; rfl

theorem sets_other {g k : Nat} (hk : k ≠ g) : ∀ (vs : List Value) (o : Nat) (w : World), (sets w g o vs).heap[k]? = w.heap[k]?
  | [], _, _ => rfl
  | v :: vs, o, w => by rw [sets, sets_other hk vs, blk_setCell_other _ _ _ _ hk]

theorem sets_only {g : Nat} {w0 : World} : ∀ (vs : List Value) (o : Nat) (w : World), Only g w0 w → Only g w0 (sets w g o vs)
  | [], _, _, h => h
  | v :: vs, o, w, h => sets_only vs (o + 1) _ (h.set o v)

theorem Tab.putAll {w : World} {g len cap : Nat} {N : Nat → Nd} (h : Tab w g len cap N) {x : Nat} (hx : x < len) (y : Nd) (vs : List Value) (hl : vs.length = 15) (hv : ∀ k, k < 15 → vs[k]? = some (fld y k)) :
    Tab (sets w g (x * 15) vs) g len cap (put N x y) := by
  obtain ⟨c, hb, hn, hle, hc⟩ := h
  obtain ⟨c', a1, a2, a3, a4⟩ := sets_block vs (x * 15) w c hb (by omega)
  refine ⟨c', a1, by omega, hle, fun i hi k hk => ?_⟩
  by_cases e : i = x
  · subst e
    rw [put_same, a4 k (by omega)]
    exact hv k hk
  · rw [put_ne _ _ e, a3 _ (by omega)]
    exact hc i hi k hk

end Go.Proofs.Ybulkcghm.Bk
