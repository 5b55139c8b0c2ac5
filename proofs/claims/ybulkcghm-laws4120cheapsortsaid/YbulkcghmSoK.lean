import Derived.Test.YbulkcghmSoC
import Derived.Test.YbulkcghmSoE
import Derived.Test.YbulkcghmSoG
import Derived.Test.YbulkcghmSoI
import Derived.Test.YbulkcghmSoJ
namespace Go.Proofs.Ybulkcghm.So
open Go.RowKit
open Go.Sort (swp size_swp ltInt)
set_option linter.unusedVariables false

/-! pdqsort's round, in stages. -/
section
open Go.Sort
/-- Behind the short insertion sort. -/
def stE (d : Array Int) (a b pv lim : Nat) (wb wp : Bool) : Array Int :=
  if a > 0 && !ltInt d[a - 1]! d[pv]! then
    match partitionEqual ltInt d a b pv with
    | (mid, d4) => if _h : a < mid ∧ mid ≤ b then pdq ltInt d4 mid b lim wb wp else d4
  else
    match partition ltInt d a b pv with
    | (mid, alreadyPartitioned, d4) =>
      if _h : a ≤ mid ∧ mid < b then
        if mid - a < b - mid then
          pdq ltInt (pdq ltInt d4 a mid lim true true) (mid + 1) b lim (decide (mid - a ≥ (b - a) / 8)) alreadyPartitioned
        else
          pdq ltInt (pdq ltInt d4 (mid + 1) b lim true true) a mid lim (decide (b - mid ≥ (b - a) / 8)) alreadyPartitioned
      else d4
/-- Behind the reversal. -/
def stD (d : Array Int) (a b pv lim : Nat) (hint : Hint) (wb wp : Bool) : Array Int :=
  if wb && wp && hint = .increasing then
    (if (partialInsertionSort ltInt d a b).2 then (partialInsertionSort ltInt d a b).1 else stE (partialInsertionSort ltInt d a b).1 a b pv lim wb wp)
  else stE d a b pv lim wb wp
/-- Behind the broken patterns. -/
def stC (d : Array Int) (a b lim : Nat) (wb wp : Bool) : Array Int :=
  if (choosePivot ltInt d a b).2 = .decreasing then stD (reverseRange d a b) a b ((b - 1) - ((choosePivot ltInt d a b).1 - a)) lim .increasing wb wp
  else stD d a b (choosePivot ltInt d a b).1 lim (choosePivot ltInt d a b).2 wb wp

theorem pdq_eq (d : Array Int) (a b lim : Nat) (wb wp : Bool) (h12 : ¬ b - a ≤ 12) (hl : ¬ lim = 0) :
    pdq ltInt d a b lim wb wp = stC (if !wb then breakPatterns d a b else d) a b (if !wb then lim - 1 else lim) wb wp := by
  rw [pdq, if_neg h12, if_neg hl]
  unfold stC stD
  generalize (if !wb then breakPatterns d a b else d) = d1
  generalize (if !wb then lim - 1 else lim) = lim1
  by_cases hd : (choosePivot ltInt d1 a b).2 = .decreasing
  · simp only [hd, if_true]
    by_cases hw : (wb && wp) = true
    · simp only [hw, Bool.true_and, decide_true, if_true]
      rfl
    · simp only [Bool.not_eq_true] at hw
      simp only [hw, Bool.false_and, Bool.false_eq_true, if_false]
      rfl
  · simp only [hd, if_false]
    by_cases hw : (wb && wp && decide ((choosePivot ltInt d1 a b).2 = .increasing)) = true
    · simp only [hw, if_true]
      rfl
    · simp only [hw]
      rfl

theorem stE_eq {d : Array Int} {a b pv lim : Nat} {wb wp : Bool} (h : (decide (a > 0) && !ltInt d[a - 1]! d[pv]!) = true) (h1 : a ≤ pv) (h2 : pv < b) (h3 : b ≤ d.size) :
    a < (partitionEqual ltInt d a b pv).1 ∧ (partitionEqual ltInt d a b pv).1 ≤ b ∧ stE d a b pv lim wb wp = pdq ltInt (partitionEqual ltInt d a b pv).2 (partitionEqual ltInt d a b pv).1 b lim wb wp := by
  have hs := partEqLoop_spec ltInt a b (b - 1 + 1 - (a + 1)) (a + 1) (b - 1) (swp d a pv) (Nat.le_refl _) (by omega) (by omega) (by omega) (by rw [size_swp]; exact h3) (fun t _ _ => by omega) (fun t _ _ => by omega)
  have e : partitionEqual ltInt d a b pv = partEqLoop ltInt a (a + 1) (b - 1) (swp d a pv) := rfl
  rw [← e] at hs
  refine ⟨hs.1, hs.2.1, ?_⟩
  unfold stE
  rw [if_pos h]
  generalize partitionEqual ltInt d a b pv = r at *
  obtain ⟨mid, d4⟩ := r
  exact dif_pos ⟨hs.1, hs.2.1⟩

theorem swo : SWO ltInt := ⟨fun x => by simp [ltInt], fun x y z h1 h2 => by simp [ltInt] at *; omega, fun x y z h1 h2 => by simp [ltInt] at *; omega⟩

theorem part_range (d : Array Int) (a b pv : Nat) (h1 : a ≤ pv) (h2 : pv < b) (h3 : b ≤ d.size) : a ≤ (partition ltInt d a b pv).1 ∧ (partition ltInt d a b pv).1 < b :=
  ⟨(partition_holds ltInt swo d a b pv h1 h2 h3).1, (partition_holds ltInt swo d a b pv h1 h2 h3).2.1⟩

theorem stE_part {d : Array Int} {a b pv lim : Nat} {wb wp : Bool} (h : (decide (a > 0) && !ltInt d[a - 1]! d[pv]!) = false) (h1 : a ≤ pv) (h2 : pv < b) (h3 : b ≤ d.size) :
    stE d a b pv lim wb wp = if (partition ltInt d a b pv).1 - a < b - (partition ltInt d a b pv).1 then
      pdq ltInt (pdq ltInt (partition ltInt d a b pv).2.2 a (partition ltInt d a b pv).1 lim true true) ((partition ltInt d a b pv).1 + 1) b lim (decide ((partition ltInt d a b pv).1 - a ≥ (b - a) / 8)) (partition ltInt d a b pv).2.1
    else
      pdq ltInt (pdq ltInt (partition ltInt d a b pv).2.2 ((partition ltInt d a b pv).1 + 1) b lim true true) a (partition ltInt d a b pv).1 lim (decide (b - (partition ltInt d a b pv).1 ≥ (b - a) / 8)) (partition ltInt d a b pv).2.1 := by
  have hr := part_range d a b pv h1 h2 h3
  unfold stE
  rw [if_neg (by rw [h]; exact Bool.false_ne_true)]
  generalize partition ltInt d a b pv = r at *
  obtain ⟨mid, ap, d4⟩ := r
  exact dif_pos hr

end
end Go.Proofs.Ybulkcghm.So
