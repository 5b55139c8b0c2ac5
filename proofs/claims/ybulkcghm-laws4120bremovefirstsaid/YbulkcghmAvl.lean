/- The tree of bookings as plain data: nodes in a table, an AVL tree over their numbers. No Go in sight. -/
namespace Go.Proofs.Ybulkcghm.Avl
set_option linter.unusedSimpArgs false

/-- A node: its id, its time, its tokens; the two subtrees; the height, the sum and the number of the entries below. -/
structure Nd where
  id : Nat
  t : Int
  tok : Nat
  l : Nat
  r : Nat
  h : Nat
  s : Nat
  c : Nat

def nul : Nd := ⟨0, 0, 0, 0, 0, 0, 0, 0⟩

def put (N : Nat → Nd) (i : Nat) (x : Nd) : Nat → Nd := fun j => if j = i then x else N j

theorem put_same (N : Nat → Nd) (i : Nat) (x : Nd) : put N i x i = x := by simp [put]
theorem put_ne (N : Nat → Nd) {i j : Nat} (x : Nd) (h : j ≠ i) : put N i x j = N j := by simp [put, h]
theorem put_put (N : Nat → Nd) (i : Nat) (x y : Nd) : put (put N i x) i y = put N i y := by
  funext j; simp only [put]; split <;> rfl
theorem put_self (N : Nat → Nd) (i : Nat) : put N i (N i) = N := by
  funext j; simp only [put]; split
  · rename_i h; rw [h]
  · rfl

/-- What update makes of node i. -/
def updNd (N : Nat → Nd) (i : Nat) : Nd :=
  { N i with h := 1 + max (N (N i).l).h (N (N i).r).h, s := (N (N i).l).s + (N (N i).r).s + (N i).tok, c := (N (N i).l).c + (N (N i).r).c + 1 }

def upd (N : Nat → Nd) (i : Nat) : Nat → Nd := put N i (updNd N i)

/-- rotateRight: its table; it returns the old left child. -/
def rotR (N : Nat → Nd) (i l : Nat) : Nat → Nd :=
  upd (upd (put (put N i { N i with l := (N l).r }) l { N l with r := i }) i) l

def rotL (N : Nat → Nd) (i r : Nat) : Nat → Nd :=
  upd (upd (put (put N i { N i with r := (N r).l }) r { N r with l := i }) i) r

/-- The node's own word on its subtree is right, and it is balanced. -/
structure Ok (N : Nat → Nd) (i : Nat) : Prop where
  h : (N i).h = 1 + max (N (N i).l).h (N (N i).r).h
  b1 : (N (N i).l).h ≤ (N (N i).r).h + 1
  b2 : (N (N i).r).h ≤ (N (N i).l).h + 1
  s : (N i).s = (N (N i).l).s + (N (N i).r).s + (N i).tok
  c : (N i).c = (N (N i).l).c + (N (N i).r).c + 1

/-- Node i is the root of a tree whose nodes, in order, are l (f: fuel). -/
def Tr (N : Nat → Nd) : Nat → Nat → List Nat → Prop
  | 0, i, l => i = 0 ∧ l = []
  | f + 1, i, l => (i = 0 ∧ l = []) ∨ (i ≠ 0 ∧ ∃ l1 l2, l = l1 ++ i :: l2 ∧ Tr N f (N i).l l1 ∧ Tr N f (N i).r l2 ∧ Ok N i)

def T (N : Nat → Nd) (i : Nat) (l : List Nat) : Prop := ∃ f, Tr N f i l

theorem Tr.succ {N : Nat → Nd} : ∀ {f i : Nat} {l : List Nat}, Tr N f i l → Tr N (f + 1) i l
  | 0, _, _, h => .inl h
  | f + 1, _, _, h => by
    rcases h with h | ⟨hi, l1, l2, e, h1, h2, ok⟩
    · exact .inl h
    · exact .inr ⟨hi, l1, l2, e, h1.succ, h2.succ, ok⟩

theorem Tr.mono {N : Nat → Nd} {f i : Nat} {l : List Nat} (h : Tr N f i l) : ∀ k, Tr N (f + k) i l
  | 0 => h
  | k + 1 => (h.mono k).succ

theorem T.nil (N : Nat → Nd) : T N 0 [] := ⟨0, rfl, rfl⟩

theorem T.node {N : Nat → Nd} {i : Nat} {l1 l2 : List Nat} (hi : i ≠ 0) (h1 : T N (N i).l l1) (h2 : T N (N i).r l2) (ok : Ok N i) : T N i (l1 ++ i :: l2) := by
  obtain ⟨f1, h1⟩ := h1
  obtain ⟨f2, h2⟩ := h2
  refine ⟨f1 + f2 + 1, .inr ⟨hi, l1, l2, rfl, h1.mono f2, ?_, ok⟩⟩
  rw [Nat.add_comm]
  exact h2.mono f1

theorem T.cases {N : Nat → Nd} {i : Nat} {l : List Nat} (h : T N i l) : (i = 0 ∧ l = []) ∨ (i ≠ 0 ∧ ∃ l1 l2, l = l1 ++ i :: l2 ∧ T N (N i).l l1 ∧ T N (N i).r l2 ∧ Ok N i) := by
  obtain ⟨f, h⟩ := h
  cases f with
  | zero => exact .inl h
  | succ f =>
    rcases h with h | ⟨hi, l1, l2, e, h1, h2, ok⟩
    · exact .inl h
    · exact .inr ⟨hi, l1, l2, e, ⟨f, h1⟩, ⟨f, h2⟩, ok⟩

theorem T.nonzero {N : Nat → Nd} {i : Nat} {l : List Nat} (h : T N i l) (hi : i ≠ 0) : ∃ l1 l2, l = l1 ++ i :: l2 ∧ T N (N i).l l1 ∧ T N (N i).r l2 ∧ Ok N i := by
  rcases h.cases with ⟨h, _⟩ | ⟨_, h⟩
  · exact absurd h hi
  · exact h

theorem T.of_zero {N : Nat → Nd} {l : List Nat} (h : T N 0 l) : l = [] := by
  rcases h.cases with ⟨_, h⟩ | ⟨h, _⟩
  · exact h
  · exact absurd rfl h

/-- Induction over the tree. -/
theorem T.ind {N : Nat → Nd} {P : Nat → List Nat → Prop} (h0 : P 0 []) (hs : ∀ i l1 l2, i ≠ 0 → T N (N i).l l1 → T N (N i).r l2 → Ok N i → P (N i).l l1 → P (N i).r l2 → P i (l1 ++ i :: l2)) :
    ∀ {i l}, T N i l → P i l := by
  have key : ∀ f i l, Tr N f i l → P i l := by
    intro f
    induction f with
    | zero => intro i l h; obtain ⟨rfl, rfl⟩ := h; exact h0
    | succ f ih =>
      intro i l h
      rcases h with ⟨rfl, rfl⟩ | ⟨hi, l1, l2, rfl, h1, h2, ok⟩
      · exact h0
      · exact hs i l1 l2 hi ⟨f, h1⟩ ⟨f, h2⟩ ok (ih _ _ h1) (ih _ _ h2)
  intro i l ⟨f, h⟩
  exact key f i l h

theorem T.mem {N : Nat → Nd} {i : Nat} {l : List Nat} (h : T N i l) : i = 0 ∨ i ∈ l := by
  rcases h.cases with ⟨h, _⟩ | ⟨_, l1, l2, rfl, _⟩
  · exact .inl h
  · exact .inr (by simp)

theorem T.pos {N : Nat → Nd} {i : Nat} {l : List Nat} (h : T N i l) : 0 ∉ l := by
  refine T.ind (N := N) (P := fun _ l => 0 ∉ l) (by simp) ?_ h
  intro i l1 l2 hi _ _ _ h1 h2
  simp only [List.mem_append, List.mem_cons, not_or]
  exact ⟨h1, fun e => hi e.symm, h2⟩

/-- A table that is the same at the tree's nodes and at 0 holds the same tree. -/
theorem T.frame {N N' : Nat → Nd} (h0 : N' 0 = N 0) : ∀ {i l}, T N i l → (∀ j, j ∈ l → N' j = N j) → T N' i l := by
  intro i l h
  refine T.ind (N := N) (P := fun i l => (∀ j, j ∈ l → N' j = N j) → T N' i l) (fun _ => T.nil _) ?_ h
  intro i l1 l2 hi t1 t2 ok h1 h2 hj
  have ei : N' i = N i := hj i (by simp)
  have el : N' (N i).l = N (N i).l := by
    rcases t1.mem with e | e
    · rw [e]; exact h0
    · exact hj _ (by simp [e])
  have er : N' (N i).r = N (N i).r := by
    rcases t2.mem with e | e
    · rw [e]; exact h0
    · exact hj _ (by simp [e])
  refine T.node hi ?_ ?_ ?_
  · rw [ei]; exact h1 (fun j h => hj j (by simp [h]))
  · rw [ei]; exact h2 (fun j h => hj j (by simp [h]))
  · exact ⟨by rw [ei, el, er]; exact ok.h, by rw [ei, el, er]; exact ok.b1, by rw [ei, el, er]; exact ok.b2, by rw [ei, el, er]; exact ok.s, by rw [ei, el, er]; exact ok.c⟩

/-- The count, the height and the sum that a tree's root bears. -/
theorem T.count {N : Nat → Nd} (h0 : N 0 = nul) {i : Nat} {l : List Nat} (h : T N i l) : (N i).c = l.length ∧ (N i).h ≤ l.length ∧ (N i).s = (l.map fun j => (N j).tok).sum := by
  refine T.ind (N := N) (P := fun i l => (N i).c = l.length ∧ (N i).h ≤ l.length ∧ (N i).s = (l.map fun j => (N j).tok).sum) (by rw [h0]; simp [nul]) ?_ h
  intro i l1 l2 hi _ _ ok ⟨a1, a2, a3⟩ ⟨b1, b2, b3⟩
  refine ⟨by rw [ok.c, a1, b1]; simp; omega, by rw [ok.h]; simp; omega, ?_⟩
  rw [ok.s, a3, b3]
  simp
  omega

theorem T.h_pos {N : Nat → Nd} {i : Nat} {l : List Nat} (h : T N i l) (hi : i ≠ 0) : 1 ≤ (N i).h := by
  obtain ⟨_, _, _, _, _, ok⟩ := h.nonzero hi
  rw [ok.h]; omega

/-- The height is logarithmic. -/
theorem T.avl {N : Nat → Nd} (h0 : N 0 = nul) {i : Nat} {l : List Nat} (h : T N i l) : 2 ^ ((N i).h / 2) ≤ l.length + 1 := by
  refine T.ind (N := N) (P := fun i l => 2 ^ ((N i).h / 2) ≤ l.length + 1) (by rw [h0]; simp [nul]) ?_ h
  intro i l1 l2 hi t1 t2 ok h1 h2
  have hh := ok.h
  have hb1 := ok.b1
  have hb2 := ok.b2
  generalize (N i).h = H at *
  generalize (N (N i).l).h = A at *
  generalize (N (N i).r).h = B at *
  simp only [List.length_append, List.length_cons]
  rcases Nat.lt_or_ge H 2 with hH | hH
  · have : H / 2 = 0 := by omega
    rw [this]; simp
  · obtain ⟨K, rfl⟩ : ∃ K, H = K + 2 := ⟨H - 2, by omega⟩
    have e : (K + 2) / 2 = K / 2 + 1 := by omega
    rw [e, Nat.pow_succ]
    have m1 : 2 ^ (K / 2) ≤ 2 ^ (A / 2) := Nat.pow_le_pow_right (by omega) (by omega)
    have m2 : 2 ^ (K / 2) ≤ 2 ^ (B / 2) := Nat.pow_le_pow_right (by omega) (by omega)
    omega

theorem sum_le (l : List Nat) (f : Nat → Nat) (q : Nat) (h : ∀ j, j ∈ l → f j ≤ q) : (l.map f).sum ≤ l.length * q := by
  induction l with
  | nil => simp
  | cons a l ih =>
    have h1 := h a (by simp)
    have h2 := ih (fun j hj => h j (by simp [hj]))
    simp only [List.map_cons, List.sum_cons, List.length_cons, Nat.succ_mul]
    omega

theorem T.bound {N : Nat → Nd} (h0 : N 0 = nul) {i : Nat} {l : List Nat} (h : T N i l) (hl : l.length ≤ 1024) (ht : ∀ j, j ∈ l → (N j).tok ≤ 1024) : (N i).h ≤ 2000000 ∧ (N i).c ≤ 2000000 ∧ (N i).s ≤ 2000000 := by
  obtain ⟨a, b, c⟩ := h.count h0
  have := sum_le l (fun j => (N j).tok) 1024 ht
  have : l.length * 1024 ≤ 1024 * 1024 := Nat.mul_le_mul_right _ hl
  omega


theorem rotR_eq (N : Nat → Nd) (i l : Nat) (h1 : l ≠ i) (h2 : (N l).l ≠ i) (h3 : (N l).l ≠ l) (h4 : (N l).r ≠ i) (h5 : (N l).r ≠ l) (h6 : (N i).r ≠ i) (h7 : (N i).r ≠ l) :
    rotR N i l = put (put N i { N i with l := (N l).r, h := 1 + max (N (N l).r).h (N (N i).r).h, s := (N (N l).r).s + (N (N i).r).s + (N i).tok, c := (N (N l).r).c + (N (N i).r).c + 1 }) l
      { N l with r := i, h := 1 + max (N (N l).l).h (1 + max (N (N l).r).h (N (N i).r).h), s := (N (N l).l).s + ((N (N l).r).s + (N (N i).r).s + (N i).tok) + (N l).tok, c := (N (N l).l).c + ((N (N l).r).c + (N (N i).r).c + 1) + 1 } := by
  have h1' : i ≠ l := fun e => h1 e.symm
  funext j
  by_cases ej : j = l
  · subst ej
    simp [rotR, upd, updNd, put, h1, h1', h2, h3, h4, h5, h6, h7]
  · by_cases ei : j = i
    · subst ei
      simp [rotR, upd, updNd, put, h1, h1', h2, h3, h4, h5, h6, h7]
    · simp [rotR, upd, put, ej, ei]

theorem rotL_eq (N : Nat → Nd) (i r : Nat) (h1 : r ≠ i) (h2 : (N r).r ≠ i) (h3 : (N r).r ≠ r) (h4 : (N r).l ≠ i) (h5 : (N r).l ≠ r) (h6 : (N i).l ≠ i) (h7 : (N i).l ≠ r) :
    rotL N i r = put (put N i { N i with r := (N r).l, h := 1 + max (N (N i).l).h (N (N r).l).h, s := (N (N i).l).s + (N (N r).l).s + (N i).tok, c := (N (N i).l).c + (N (N r).l).c + 1 }) r
      { N r with l := i, h := 1 + max (1 + max (N (N i).l).h (N (N r).l).h) (N (N r).r).h, s := ((N (N i).l).s + (N (N r).l).s + (N i).tok) + (N (N r).r).s + (N r).tok, c := ((N (N i).l).c + (N (N r).l).c + 1) + (N (N r).r).c + 1 } := by
  have h1' : i ≠ r := fun e => h1 e.symm
  funext j
  by_cases ej : j = r
  · subst ej
    simp [rotL, upd, updNd, put, h1, h1', h2, h3, h4, h5, h6, h7]
  · by_cases ei : j = i
    · subst ei
      simp [rotL, upd, updNd, put, h1, h1', h2, h3, h4, h5, h6, h7]
    · simp [rotL, upd, put, ej, ei]

/-- What a step leaves: the tree over the same nodes, the rest of the table, the entries. -/
structure Post (N N' : Nat → Nd) (i' : Nat) (l : List Nat) (lo hi : Nat) : Prop where
  tree : T N' i' l
  nz : i' ≠ 0
  frame : ∀ j, j ∉ l → N' j = N j
  id : ∀ j, (N' j).id = (N j).id
  t : ∀ j, (N' j).t = (N j).t
  tok : ∀ j, (N' j).tok = (N j).tok
  lo : lo ≤ (N' i').h
  hi : (N' i').h ≤ hi

/-- No turn is wanted. -/
theorem post_upd {N : Nat → Nd} {i : Nat} {l1 l2 : List Nat} (hi : i ≠ 0) (t1 : T N (N i).l l1) (t2 : T N (N i).r l2) (nd : (l1 ++ i :: l2).Nodup)
    (b1 : (N (N i).l).h ≤ (N (N i).r).h + 1) (b2 : (N (N i).r).h ≤ (N (N i).l).h + 1) :
    Post N (upd N i) i (l1 ++ i :: l2) (1 + max (N (N i).l).h (N (N i).r).h) (1 + max (N (N i).l).h (N (N i).r).h) := by
  have n1 : i ∉ l1 := by intro h; simp [List.nodup_append] at nd; exact nd.2.2 i h |>.1 rfl
  have n2 : i ∉ l2 := by intro h; simp [List.nodup_append] at nd; exact nd.2.1.1 h
  have e0 : upd N i 0 = N 0 := put_ne _ _ (Ne.symm hi)
  have ei : upd N i i = updNd N i := put_same _ _ _
  have el : (N i).l ≠ i := by
    rcases t1.mem with e | e
    · rw [e]; exact Ne.symm hi
    · exact fun h => n1 (h ▸ e)
  have er : (N i).r ≠ i := by
    rcases t2.mem with e | e
    · rw [e]; exact Ne.symm hi
    · exact fun h => n2 (h ▸ e)
  refine ⟨T.node hi ?_ ?_ ?_, hi, fun j hj => put_ne _ _ (fun e => hj (by simp [e])), ?_, ?_, ?_, ?_, ?_⟩
  · rw [ei]; exact t1.frame e0 (fun j hj => put_ne _ _ (fun e => n1 (e ▸ hj)))
  · rw [ei]; exact t2.frame e0 (fun j hj => put_ne _ _ (fun e => n2 (e ▸ hj)))
  · refine ⟨?_, ?_, ?_, ?_, ?_⟩ <;> simp [upd, updNd, put, el, er] <;> omega
  · intro j; simp only [upd, put]; split
    · rename_i e; subst e; rfl
    · rfl
  · intro j; simp only [upd, put]; split
    · rename_i e; subst e; rfl
    · rfl
  · intro j; simp only [upd, put]; split
    · rename_i e; subst e; rfl
    · rfl
  · rw [ei]; exact Nat.le_refl _
  · rw [ei]; exact Nat.le_refl _


theorem T.ne {N : Nat → Nd} {i k : Nat} {l : List Nat} (h : T N i l) (hk : k ≠ 0) (hm : k ∉ l) : i ≠ k := by
  rcases h.mem with e | e
  · rw [e]; exact Ne.symm hk
  · exact fun h => hm (h ▸ e)

/-- One turn to the right. -/
theorem post_rotR {N : Nat → Nd} {i L : Nat} {a b c : List Nat} (hi : i ≠ 0) (hL : L ≠ 0) (ta : T N (N L).l a) (tb : T N (N L).r b) (tc : T N (N i).r c) (nd : ((a ++ L :: b) ++ i :: c).Nodup)
    (b1 : (N (N L).r).h ≤ (N (N i).r).h + 1) (b2 : (N (N i).r).h ≤ (N (N L).r).h + 1)
    (b3 : (N (N L).l).h ≤ (1 + max (N (N L).r).h (N (N i).r).h) + 1) (b4 : (1 + max (N (N L).r).h (N (N i).r).h) ≤ (N (N L).l).h + 1) :
    Post N (rotR N i L) L ((a ++ L :: b) ++ i :: c) (1 + max (N (N L).l).h (1 + max (N (N L).r).h (N (N i).r).h)) (1 + max (N (N L).l).h (1 + max (N (N L).r).h (N (N i).r).h)) := by
  simp only [List.nodup_append, List.nodup_cons, List.mem_append, List.mem_cons] at nd
  have hLi : L ≠ i := fun e => nd.2.2 L (.inr (.inl rfl)) i (.inl rfl) e
  have ia : i ∉ a := fun h => nd.2.2 i (.inl h) i (.inl rfl) rfl
  have ib : i ∉ b := fun h => nd.2.2 i (.inr (.inr h)) i (.inl rfl) rfl
  have ic : i ∉ c := nd.2.1.1
  have La : L ∉ a := fun h => nd.1.2.2 L h L (.inl rfl) rfl
  have Lb : L ∉ b := nd.1.2.1.1
  have Lc : L ∉ c := fun h => nd.2.2 L (.inr (.inl rfl)) L (.inr h) rfl
  clear nd
  have e := rotR_eq N i L hLi (ta.ne hi ia) (ta.ne hL La) (tb.ne hi ib) (tb.ne hL Lb) (tc.ne hi ic) (tc.ne hL Lc)
  have q1 := ta.ne hi ia
  have q2 := ta.ne hL La
  have q3 := tb.ne hi ib
  have q4 := tb.ne hL Lb
  have q5 := tc.ne hi ic
  have q6 := tc.ne hL Lc
  rw [e]
  generalize hx : (1 + max (N (N L).r).h (N (N i).r).h) = x at *
  have f0 : ∀ X Y, put (put N i X) L Y 0 = N 0 := fun X Y => by rw [put_ne _ _ (Ne.symm hL), put_ne _ _ (Ne.symm hi)]
  have fl : ∀ X Y j, j ≠ i → j ≠ L → put (put N i X) L Y j = N j := fun X Y j h1 h2 => by rw [put_ne _ _ h2, put_ne _ _ h1]
  have eL : ∀ X Y, put (put N i X) L Y L = Y := fun X Y => put_same _ _ _
  have ei : ∀ X Y, put (put N i X) L Y i = X := fun X Y => by rw [put_ne _ _ (Ne.symm hLi), put_same]
  rw [List.append_assoc, List.cons_append]
  refine ⟨T.node hL ?_ ?_ ?_, hL, ?_, ?_, ?_, ?_, ?_, ?_⟩
  · rw [eL]; exact ta.frame (f0 _ _) (fun j hj => fl _ _ j (fun e => ia (e ▸ hj)) (fun e => La (e ▸ hj)))
  · rw [eL]
    refine T.node hi ?_ ?_ ?_
    · rw [ei]; exact tb.frame (f0 _ _) (fun j hj => fl _ _ j (fun e => ib (e ▸ hj)) (fun e => Lb (e ▸ hj)))
    · rw [ei]; exact tc.frame (f0 _ _) (fun j hj => fl _ _ j (fun e => ic (e ▸ hj)) (fun e => Lc (e ▸ hj)))
    · refine ⟨?_, ?_, ?_, ?_, ?_⟩ <;> simp only [ei, fl _ _ _ q3 q4, fl _ _ _ q5 q6] <;> omega
  · refine ⟨?_, ?_, ?_, ?_, ?_⟩ <;> simp only [eL, ei, fl _ _ _ q1 q2] <;> omega
  · intro j hj
    simp only [List.mem_append, List.mem_cons, not_or] at hj
    exact fl _ _ j hj.2.2.2.1 hj.2.1
  · intro j; simp only [put]; repeat' split
    all_goals simp_all
  · intro j; simp only [put]; repeat' split
    all_goals simp_all
  · intro j; simp only [put]; repeat' split
    all_goals simp_all
  · rw [eL]; exact Nat.le_refl _
  · rw [eL]; exact Nat.le_refl _

/-- One turn to the left. -/
theorem post_rotL {N : Nat → Nd} {i R : Nat} {a b c : List Nat} (hi : i ≠ 0) (hR : R ≠ 0) (ta : T N (N i).l a) (tb : T N (N R).l b) (tc : T N (N R).r c) (nd : (a ++ i :: (b ++ R :: c)).Nodup)
    (b1 : (N (N i).l).h ≤ (N (N R).l).h + 1) (b2 : (N (N R).l).h ≤ (N (N i).l).h + 1)
    (b3 : (1 + max (N (N i).l).h (N (N R).l).h) ≤ (N (N R).r).h + 1) (b4 : (N (N R).r).h ≤ (1 + max (N (N i).l).h (N (N R).l).h) + 1) :
    Post N (rotL N i R) R (a ++ i :: (b ++ R :: c)) (1 + max (1 + max (N (N i).l).h (N (N R).l).h) (N (N R).r).h) (1 + max (1 + max (N (N i).l).h (N (N R).l).h) (N (N R).r).h) := by
  simp only [List.nodup_append, List.nodup_cons, List.mem_append, List.mem_cons, not_or] at nd
  have hRi : R ≠ i := fun e => nd.2.1.1.2.1 e.symm
  have ia : i ∉ a := fun h => nd.2.2 i h i (.inl rfl) rfl
  have ib : i ∉ b := nd.2.1.1.1
  have ic : i ∉ c := nd.2.1.1.2.2
  have Ra : R ∉ a := fun h => nd.2.2 R h R (.inr (.inr (.inl rfl))) rfl
  have Rb : R ∉ b := fun h => nd.2.1.2.2.2 R h R (.inl rfl) rfl
  have Rc : R ∉ c := nd.2.1.2.2.1.1
  clear nd
  have q1 := ta.ne hi ia
  have q2 := ta.ne hR Ra
  have q3 := tb.ne hi ib
  have q4 := tb.ne hR Rb
  have q5 := tc.ne hi ic
  have q6 := tc.ne hR Rc
  have e := rotL_eq N i R hRi q5 q6 q3 q4 q1 q2
  rw [e]
  generalize hx : (1 + max (N (N i).l).h (N (N R).l).h) = x at *
  have f0 : ∀ X Y, put (put N i X) R Y 0 = N 0 := fun X Y => by rw [put_ne _ _ (Ne.symm hR), put_ne _ _ (Ne.symm hi)]
  have fl : ∀ X Y j, j ≠ i → j ≠ R → put (put N i X) R Y j = N j := fun X Y j h1 h2 => by rw [put_ne _ _ h2, put_ne _ _ h1]
  have eR : ∀ X Y, put (put N i X) R Y R = Y := fun X Y => put_same _ _ _
  have ei : ∀ X Y, put (put N i X) R Y i = X := fun X Y => by rw [put_ne _ _ (Ne.symm hRi), put_same]
  rw [← List.cons_append, ← List.append_assoc]
  refine ⟨T.node hR ?_ ?_ ?_, hR, ?_, ?_, ?_, ?_, ?_, ?_⟩
  · rw [eR]
    refine T.node hi ?_ ?_ ?_
    · rw [ei]; exact ta.frame (f0 _ _) (fun j hj => fl _ _ j (fun e => ia (e ▸ hj)) (fun e => Ra (e ▸ hj)))
    · rw [ei]; exact tb.frame (f0 _ _) (fun j hj => fl _ _ j (fun e => ib (e ▸ hj)) (fun e => Rb (e ▸ hj)))
    · refine ⟨?_, ?_, ?_, ?_, ?_⟩ <;> simp only [ei, fl _ _ _ q1 q2, fl _ _ _ q3 q4] <;> omega
  · rw [eR]; exact tc.frame (f0 _ _) (fun j hj => fl _ _ j (fun e => ic (e ▸ hj)) (fun e => Rc (e ▸ hj)))
  · refine ⟨?_, ?_, ?_, ?_, ?_⟩ <;> simp only [eR, ei, fl _ _ _ q5 q6] <;> omega
  · intro j hj
    simp only [List.mem_append, List.mem_cons, not_or] at hj
    exact fl _ _ j hj.1.2.1 hj.2.1
  · intro j; simp only [put]; repeat' split
    all_goals simp_all
  · intro j; simp only [put]; repeat' split
    all_goals simp_all
  · intro j; simp only [put]; repeat' split
    all_goals simp_all
  · rw [eR]; exact Nat.le_refl _
  · rw [eR]; exact Nat.le_refl _


/-- The double turn: the left child to the left, then the node to the right. -/
def dblR (N : Nat → Nd) (i L R : Nat) : Nat → Nd := rotR (put (rotL N L R) i { rotL N L R i with l := R }) i R

def dblL (N : Nat → Nd) (i R L : Nat) : Nat → Nd := rotL (put (rotR N R L) i { rotR N R L i with r := L }) i L

theorem dblR_eq (N : Nat → Nd) (i L R : Nat) (hLi : L ≠ i) (hRi : R ≠ i) (hRL : R ≠ L)
    (l1 : (N L).l ≠ i) (l2 : (N L).l ≠ L) (l3 : (N L).l ≠ R) (x1 : (N R).l ≠ i) (x2 : (N R).l ≠ L) (x3 : (N R).l ≠ R) (y1 : (N R).r ≠ i) (y2 : (N R).r ≠ L) (y3 : (N R).r ≠ R)
    (r1 : (N i).r ≠ i) (r2 : (N i).r ≠ L) (r3 : (N i).r ≠ R) :
    dblR N i L R = put (put (put N L { N L with r := (N R).l, h := 1 + max (N (N L).l).h (N (N R).l).h, s := (N (N L).l).s + (N (N R).l).s + (N L).tok, c := (N (N L).l).c + (N (N R).l).c + 1 }) i
      { N i with l := (N R).r, h := 1 + max (N (N R).r).h (N (N i).r).h, s := (N (N R).r).s + (N (N i).r).s + (N i).tok, c := (N (N R).r).c + (N (N i).r).c + 1 }) R
      { N R with l := L, r := i, h := 1 + max (1 + max (N (N L).l).h (N (N R).l).h) (1 + max (N (N R).r).h (N (N i).r).h), s := ((N (N L).l).s + (N (N R).l).s + (N L).tok) + ((N (N R).r).s + (N (N i).r).s + (N i).tok) + (N R).tok, c := ((N (N L).l).c + (N (N R).l).c + 1) + ((N (N R).r).c + (N (N i).r).c + 1) + 1 } := by
  have e1 := rotL_eq N L R hRL y2 y3 x2 x3 l2 l3
  unfold dblR
  rw [e1]
  have iL : i ≠ L := Ne.symm hLi
  have iR : i ≠ R := Ne.symm hRi
  have LR : L ≠ R := Ne.symm hRL
  rw [rotR_eq]
  · funext j
    by_cases jR : j = R
    · subst jR
      simp [put, hRi, hRL, hLi, iL, iR, LR, y1, y2, y3, r1, r2, r3]
    · by_cases ji : j = i
      · subst ji
        simp [put, hRi, hRL, hLi, iL, iR, LR, y1, y2, y3, r1, r2, r3, jR]
      · by_cases jL : j = L
        · subst jL
          simp [put, hRi, hRL, hLi, iL, iR, LR]
        · simp [put, jR, ji, jL]
  all_goals simp [put, hRi, hRL, hLi, iL, iR, LR, y1, y2, y3, r1, r2, r3]

theorem dblL_eq (N : Nat → Nd) (i R L : Nat) (hRi : R ≠ i) (hLi : L ≠ i) (hLR : L ≠ R)
    (l1 : (N R).r ≠ i) (l2 : (N R).r ≠ R) (l3 : (N R).r ≠ L) (x1 : (N L).l ≠ i) (x2 : (N L).l ≠ R) (x3 : (N L).l ≠ L) (y1 : (N L).r ≠ i) (y2 : (N L).r ≠ R) (y3 : (N L).r ≠ L)
    (r1 : (N i).l ≠ i) (r2 : (N i).l ≠ R) (r3 : (N i).l ≠ L) :
    dblL N i R L = put (put (put N R { N R with l := (N L).r, h := 1 + max (N (N L).r).h (N (N R).r).h, s := (N (N L).r).s + (N (N R).r).s + (N R).tok, c := (N (N L).r).c + (N (N R).r).c + 1 }) i
      { N i with r := (N L).l, h := 1 + max (N (N i).l).h (N (N L).l).h, s := (N (N i).l).s + (N (N L).l).s + (N i).tok, c := (N (N i).l).c + (N (N L).l).c + 1 }) L
      { N L with l := i, r := R, h := 1 + max (1 + max (N (N i).l).h (N (N L).l).h) (1 + max (N (N L).r).h (N (N R).r).h), s := ((N (N i).l).s + (N (N L).l).s + (N i).tok) + ((N (N L).r).s + (N (N R).r).s + (N R).tok) + (N L).tok, c := ((N (N i).l).c + (N (N L).l).c + 1) + ((N (N L).r).c + (N (N R).r).c + 1) + 1 } := by
  have e1 := rotR_eq N R L hLR x2 x3 y2 y3 l2 l3
  unfold dblL
  rw [e1]
  have iL : i ≠ L := Ne.symm hLi
  have iR : i ≠ R := Ne.symm hRi
  have RL : R ≠ L := Ne.symm hLR
  rw [rotL_eq]
  · funext j
    by_cases jL : j = L
    · subst jL
      simp [put, hRi, hLR, hLi, iL, iR, RL, x1, x2, x3, r1, r2, r3]
    · by_cases ji : j = i
      · subst ji
        simp [put, hRi, hLR, hLi, iL, iR, RL, x1, x2, x3, r1, r2, r3, jL]
      · by_cases jR : j = R
        · subst jR
          simp [put, hRi, hLR, hLi, iL, iR, RL]
        · simp [put, jR, ji, jL]
  all_goals simp [put, hRi, hLR, hLi, iL, iR, RL, x1, x2, x3, r1, r2, r3]

theorem post_dblR {N : Nat → Nd} {i L R : Nat} {a b c d : List Nat} (hi : i ≠ 0) (hL : L ≠ 0) (hR : R ≠ 0) (ta : T N (N L).l a) (tb : T N (N R).l b) (tc : T N (N R).r c) (td : T N (N i).r d)
    (nd : ((a ++ L :: (b ++ R :: c)) ++ i :: d).Nodup)
    (b1 : (N (N L).l).h ≤ (N (N R).l).h + 1) (b2 : (N (N R).l).h ≤ (N (N L).l).h + 1) (b3 : (N (N R).r).h ≤ (N (N i).r).h + 1) (b4 : (N (N i).r).h ≤ (N (N R).r).h + 1)
    (b5 : (1 + max (N (N L).l).h (N (N R).l).h) ≤ (1 + max (N (N R).r).h (N (N i).r).h) + 1) (b6 : (1 + max (N (N R).r).h (N (N i).r).h) ≤ (1 + max (N (N L).l).h (N (N R).l).h) + 1) :
    Post N (dblR N i L R) R ((a ++ L :: (b ++ R :: c)) ++ i :: d) (1 + max (1 + max (N (N L).l).h (N (N R).l).h) (1 + max (N (N R).r).h (N (N i).r).h)) (1 + max (1 + max (N (N L).l).h (N (N R).l).h) (1 + max (N (N R).r).h (N (N i).r).h)) := by
  simp only [List.nodup_append, List.nodup_cons, List.mem_append, List.mem_cons, not_or] at nd
  obtain ⟨⟨_, ⟨⟨Lb, LR, Lc⟩, _, ⟨Rc, _⟩, bRc⟩, aX⟩, ⟨id', _⟩, X⟩ := nd
  have La : L ∉ a := fun h => aX L h L (.inl rfl) rfl
  have Ra : R ∉ a := fun h => aX R h R (.inr (.inr (.inl rfl))) rfl
  have Rb : R ∉ b := fun h => bRc R h R (.inl rfl) rfl
  have ia : i ∉ a := fun h => X i (.inl h) i (.inl rfl) rfl
  have ib : i ∉ b := fun h => X i (.inr (.inr (.inl h))) i (.inl rfl) rfl
  have ic : i ∉ c := fun h => X i (.inr (.inr (.inr (.inr h)))) i (.inl rfl) rfl
  have iL : i ≠ L := fun h => X L (.inr (.inl rfl)) i (.inl rfl) h.symm
  have iR : i ≠ R := fun h => X R (.inr (.inr (.inr (.inl rfl)))) i (.inl rfl) h.symm
  have Ld : L ∉ d := fun h => X L (.inr (.inl rfl)) L (.inr h) rfl
  have Rd : R ∉ d := fun h => X R (.inr (.inr (.inr (.inl rfl)))) R (.inr h) rfl
  clear X aX bRc
  have e := dblR_eq N i L R (Ne.symm iL) (Ne.symm iR) (Ne.symm LR) (ta.ne hi ia) (ta.ne hL La) (ta.ne hR Ra) (tb.ne hi ib) (tb.ne hL Lb) (tb.ne hR Rb) (tc.ne hi ic) (tc.ne hL Lc) (tc.ne hR Rc) (td.ne hi id') (td.ne hL Ld) (td.ne hR Rd)
  rw [e]
  have f0 : ∀ X Y Z, put (put (put N L X) i Y) R Z 0 = N 0 := fun X Y Z => by rw [put_ne _ _ (Ne.symm hR), put_ne _ _ (Ne.symm hi), put_ne _ _ (Ne.symm hL)]
  have fl : ∀ X Y Z j, j ≠ L → j ≠ i → j ≠ R → put (put (put N L X) i Y) R Z j = N j := fun X Y Z j h1 h2 h3 => by rw [put_ne _ _ h3, put_ne _ _ h2, put_ne _ _ h1]
  have eR : ∀ X Y Z, put (put (put N L X) i Y) R Z R = Z := fun X Y Z => put_same _ _ _
  have ei : ∀ X Y Z, put (put (put N L X) i Y) R Z i = Y := fun X Y Z => by rw [put_ne _ _ iR, put_same]
  have eL : ∀ X Y Z, put (put (put N L X) i Y) R Z L = X := fun X Y Z => by rw [put_ne _ _ LR, put_ne _ _ (Ne.symm iL), put_same]
  have el : (a ++ L :: (b ++ R :: c)) ++ i :: d = (a ++ L :: b) ++ R :: (c ++ i :: d) := by simp
  rw [el]
  refine ⟨T.node hR ?_ ?_ ?_, hR, ?_, ?_, ?_, ?_, ?_, ?_⟩
  · rw [eR]
    refine T.node hL ?_ ?_ ?_
    · rw [eL]; exact ta.frame (f0 _ _ _) (fun j hj => fl _ _ _ j (fun e => La (e ▸ hj)) (fun e => ia (e ▸ hj)) (fun e => Ra (e ▸ hj)))
    · rw [eL]; exact tb.frame (f0 _ _ _) (fun j hj => fl _ _ _ j (fun e => Lb (e ▸ hj)) (fun e => ib (e ▸ hj)) (fun e => Rb (e ▸ hj)))
    · refine ⟨?_, ?_, ?_, ?_, ?_⟩ <;> simp only [eL, fl _ _ _ _ (ta.ne hL La) (ta.ne hi ia) (ta.ne hR Ra), fl _ _ _ _ (tb.ne hL Lb) (tb.ne hi ib) (tb.ne hR Rb)] <;> omega
  · rw [eR]
    refine T.node hi ?_ ?_ ?_
    · rw [ei]; exact tc.frame (f0 _ _ _) (fun j hj => fl _ _ _ j (fun e => Lc (e ▸ hj)) (fun e => ic (e ▸ hj)) (fun e => Rc (e ▸ hj)))
    · rw [ei]; exact td.frame (f0 _ _ _) (fun j hj => fl _ _ _ j (fun e => Ld (e ▸ hj)) (fun e => id' (e ▸ hj)) (fun e => Rd (e ▸ hj)))
    · refine ⟨?_, ?_, ?_, ?_, ?_⟩ <;> simp only [ei, fl _ _ _ _ (tc.ne hL Lc) (tc.ne hi ic) (tc.ne hR Rc), fl _ _ _ _ (td.ne hL Ld) (td.ne hi id') (td.ne hR Rd)] <;> omega
  · refine ⟨?_, ?_, ?_, ?_, ?_⟩ <;> simp only [eR, ei, eL] <;> omega
  · intro j hj
    simp only [List.mem_append, List.mem_cons, not_or] at hj
    exact fl _ _ _ j hj.1.2.1 hj.2.2.2.1 hj.2.1
  · intro j; simp only [put]; repeat' split
    all_goals simp_all
  · intro j; simp only [put]; repeat' split
    all_goals simp_all
  · intro j; simp only [put]; repeat' split
    all_goals simp_all
  · rw [eR]; exact Nat.le_refl _
  · rw [eR]; exact Nat.le_refl _

theorem post_dblL {N : Nat → Nd} {i R L : Nat} {a b c d : List Nat} (hi : i ≠ 0) (hR : R ≠ 0) (hL : L ≠ 0) (ta : T N (N i).l a) (tb : T N (N L).l b) (tc : T N (N L).r c) (td : T N (N R).r d)
    (nd : (a ++ i :: ((b ++ L :: c) ++ R :: d)).Nodup)
    (b1 : (N (N i).l).h ≤ (N (N L).l).h + 1) (b2 : (N (N L).l).h ≤ (N (N i).l).h + 1) (b3 : (N (N L).r).h ≤ (N (N R).r).h + 1) (b4 : (N (N R).r).h ≤ (N (N L).r).h + 1)
    (b5 : (1 + max (N (N i).l).h (N (N L).l).h) ≤ (1 + max (N (N L).r).h (N (N R).r).h) + 1) (b6 : (1 + max (N (N L).r).h (N (N R).r).h) ≤ (1 + max (N (N i).l).h (N (N L).l).h) + 1) :
    Post N (dblL N i R L) L (a ++ i :: ((b ++ L :: c) ++ R :: d)) (1 + max (1 + max (N (N i).l).h (N (N L).l).h) (1 + max (N (N L).r).h (N (N R).r).h)) (1 + max (1 + max (N (N i).l).h (N (N L).l).h) (1 + max (N (N L).r).h (N (N R).r).h)) := by
  simp only [List.nodup_append, List.nodup_cons, List.mem_append, List.mem_cons, not_or] at nd
  obtain ⟨_, ⟨⟨⟨ib, iL, ic⟩, iR, id'⟩, ⟨_, ⟨Lc, _⟩, bLc⟩, ⟨Rd, _⟩, Y⟩, X⟩ := nd
  have ia : i ∉ a := fun h => X i h i (.inl rfl) rfl
  have La : L ∉ a := fun h => X L h L (.inr (.inl (.inr (.inl rfl)))) rfl
  have Ra : R ∉ a := fun h => X R h R (.inr (.inr (.inl rfl))) rfl
  have Lb : L ∉ b := fun h => bLc L h L (.inl rfl) rfl
  have Rb : R ∉ b := fun h => Y R (.inl h) R (.inl rfl) rfl
  have Rc : R ∉ c := fun h => Y R (.inr (.inr h)) R (.inl rfl) rfl
  have LR : L ≠ R := fun h => Y L (.inr (.inl rfl)) R (.inl rfl) h
  have Ld : L ∉ d := fun h => Y L (.inr (.inl rfl)) L (.inr h) rfl
  clear X Y bLc
  have e := dblL_eq N i R L (Ne.symm iR) (Ne.symm iL) LR (td.ne hi id') (td.ne hR Rd) (td.ne hL Ld) (tb.ne hi ib) (tb.ne hR Rb) (tb.ne hL Lb) (tc.ne hi ic) (tc.ne hR Rc) (tc.ne hL Lc) (ta.ne hi ia) (ta.ne hR Ra) (ta.ne hL La)
  rw [e]
  have f0 : ∀ X Y Z, put (put (put N R X) i Y) L Z 0 = N 0 := fun X Y Z => by rw [put_ne _ _ (Ne.symm hL), put_ne _ _ (Ne.symm hi), put_ne _ _ (Ne.symm hR)]
  have fl : ∀ X Y Z j, j ≠ R → j ≠ i → j ≠ L → put (put (put N R X) i Y) L Z j = N j := fun X Y Z j h1 h2 h3 => by rw [put_ne _ _ h3, put_ne _ _ h2, put_ne _ _ h1]
  have eL : ∀ X Y Z, put (put (put N R X) i Y) L Z L = Z := fun X Y Z => put_same _ _ _
  have ei : ∀ X Y Z, put (put (put N R X) i Y) L Z i = Y := fun X Y Z => by rw [put_ne _ _ iL, put_same]
  have eR : ∀ X Y Z, put (put (put N R X) i Y) L Z R = X := fun X Y Z => by rw [put_ne _ _ (Ne.symm LR), put_ne _ _ (Ne.symm iR), put_same]
  have el : a ++ i :: ((b ++ L :: c) ++ R :: d) = (a ++ i :: b) ++ L :: (c ++ R :: d) := by simp
  rw [el]
  refine ⟨T.node hL ?_ ?_ ?_, hL, ?_, ?_, ?_, ?_, ?_, ?_⟩
  · rw [eL]
    refine T.node hi ?_ ?_ ?_
    · rw [ei]; exact ta.frame (f0 _ _ _) (fun j hj => fl _ _ _ j (fun e => Ra (e ▸ hj)) (fun e => ia (e ▸ hj)) (fun e => La (e ▸ hj)))
    · rw [ei]; exact tb.frame (f0 _ _ _) (fun j hj => fl _ _ _ j (fun e => Rb (e ▸ hj)) (fun e => ib (e ▸ hj)) (fun e => Lb (e ▸ hj)))
    · refine ⟨?_, ?_, ?_, ?_, ?_⟩ <;> simp only [ei, fl _ _ _ _ (ta.ne hR Ra) (ta.ne hi ia) (ta.ne hL La), fl _ _ _ _ (tb.ne hR Rb) (tb.ne hi ib) (tb.ne hL Lb)] <;> omega
  · rw [eL]
    refine T.node hR ?_ ?_ ?_
    · rw [eR]; exact tc.frame (f0 _ _ _) (fun j hj => fl _ _ _ j (fun e => Rc (e ▸ hj)) (fun e => ic (e ▸ hj)) (fun e => Lc (e ▸ hj)))
    · rw [eR]; exact td.frame (f0 _ _ _) (fun j hj => fl _ _ _ j (fun e => Rd (e ▸ hj)) (fun e => id' (e ▸ hj)) (fun e => Ld (e ▸ hj)))
    · refine ⟨?_, ?_, ?_, ?_, ?_⟩ <;> simp only [eR, fl _ _ _ _ (tc.ne hR Rc) (tc.ne hi ic) (tc.ne hL Lc), fl _ _ _ _ (td.ne hR Rd) (td.ne hi id') (td.ne hL Ld)] <;> omega
  · refine ⟨?_, ?_, ?_, ?_, ?_⟩ <;> simp only [eR, ei, eL] <;> omega
  · intro j hj
    simp only [List.mem_append, List.mem_cons, not_or] at hj
    exact fl _ _ _ j hj.2.2.2.1 hj.1.2.1 hj.2.1
  · intro j; simp only [put]; repeat' split
    all_goals simp_all
  · intro j; simp only [put]; repeat' split
    all_goals simp_all
  · intro j; simp only [put]; repeat' split
    all_goals simp_all
  · rw [eL]; exact Nat.le_refl _
  · rw [eL]; exact Nat.le_refl _

end Go.Proofs.Ybulkcghm.Avl
