/- Inserting into a sorted list, behind those that are not greater. Plain lists. -/
namespace Go.Proofs.Ybulkcghm.Srt

/-- x behind the entries whose key is not greater. -/
def ins (t : Nat → Int) (x : Nat) : List Nat → List Nat
  | [] => [x]
  | a :: l => if t x < t a then x :: a :: l else a :: ins t x l

theorem ins_perm (t : Nat → Int) (x : Nat) : ∀ l, (ins t x l).Perm (x :: l)
  | [] => List.Perm.refl _
  | a :: l => by
    unfold ins
    split
    · exact List.Perm.refl _
    · exact ((ins_perm t x l).cons a).trans (List.Perm.swap x a l)

theorem mem_ins {t : Nat → Int} {x y : Nat} {l : List Nat} : y ∈ ins t x l ↔ y = x ∨ y ∈ l := by
  rw [(ins_perm t x l).mem_iff, List.mem_cons]

theorem length_ins (t : Nat → Int) (x : Nat) (l : List Nat) : (ins t x l).length = l.length + 1 := by
  rw [(ins_perm t x l).length_eq, List.length_cons]

theorem ins_left (t : Nat → Int) (x i : Nat) (l2 : List Nat) (h : t x < t i) : ∀ l1, ins t x (l1 ++ i :: l2) = ins t x l1 ++ i :: l2
  | [] => by simp [ins, h]
  | a :: l1 => by
    simp only [List.cons_append, ins]
    split
    · rfl
    · rw [ins_left t x i l2 h l1]; rfl

theorem ins_right (t : Nat → Int) (x i : Nat) (l2 : List Nat) (h : ¬ t x < t i) : ∀ l1, (∀ a, a ∈ l1 → t a ≤ t i) → ins t x (l1 ++ i :: l2) = l1 ++ i :: ins t x l2
  | [], _ => by simp [ins, h]
  | a :: l1, ha => by
    have h1 : ¬ t x < t a := by have := ha a (by simp); omega
    simp only [List.cons_append, ins, if_neg h1]
    rw [ins_right t x i l2 h l1 (fun b hb => ha b (by simp [hb]))]

def Sorted (t : Nat → Int) (l : List Nat) : Prop := l.Pairwise (fun a b => t a ≤ t b)

theorem Sorted.ins {t : Nat → Int} {x : Nat} : ∀ {l : List Nat}, Sorted t l → Sorted t (ins t x l)
  | [], _ => by simp [Srt.ins, Sorted]
  | a :: l, h => by
    have h' := List.pairwise_cons.1 h
    unfold Srt.ins
    split
    · rename_i hx
      exact List.pairwise_cons.2 ⟨fun b hb => by
        rcases List.mem_cons.1 hb with rfl | hb
        · omega
        · have := h'.1 b hb; omega, h⟩
    · rename_i hx
      refine List.pairwise_cons.2 ⟨fun b hb => ?_, Sorted.ins h'.2⟩
      rcases mem_ins.1 hb with rfl | hb
      · omega
      · exact h'.1 b hb

theorem ins_congr {t t' : Nat → Int} {x : Nat} : ∀ {l : List Nat}, (∀ a, a = x ∨ a ∈ l → t a = t' a) → ins t x l = ins t' x l
  | [], _ => rfl
  | a :: l, h => by
    unfold ins
    rw [h x (.inl rfl), h a (.inr (by simp)), ins_congr (fun b hb => h b (by rcases hb with e | e <;> simp [e]))]

theorem Sorted.congr {t t' : Nat → Int} : ∀ {l : List Nat}, Sorted t l → (∀ a, a ∈ l → t a = t' a) → Sorted t' l
  | [], _, _ => List.Pairwise.nil
  | a :: l, h, e => by
    have h' := List.pairwise_cons.1 h
    refine List.pairwise_cons.2 ⟨fun b hb => ?_, Sorted.congr h'.2 (fun b hb => e b (by simp [hb]))⟩
    rw [← e a (by simp), ← e b (by simp [hb])]
    exact h'.1 b hb

end Go.Proofs.Ybulkcghm.Srt
