import Derived.Sort.LotA
namespace Go.Proofs.Ybulkcghm.Hp
open Go.Sort (swp size_swp swp_get)
set_option linter.unusedVariables false

/-- The heap's order on the first n keys. -/
def Ord (K : Nat → Int) (n : Nat) : Prop := ∀ k, 0 < k → k < n → K ((k - 1) / 2) ≤ K k

/-- .. but for the place j, which may be less than its parent. -/
def UpI (K : Nat → Int) (n j : Nat) : Prop :=
  (∀ k, 0 < k → k < n → k ≠ j → K ((k - 1) / 2) ≤ K k) ∧ (0 < j → ∀ c, 0 < c → c < n → (c - 1) / 2 = j → K ((j - 1) / 2) ≤ K c)

/-- .. but for the place i, which may be more than its children. -/
def DnI (K : Nat → Int) (n i : Nat) : Prop :=
  (∀ k, 0 < k → k < n → (k - 1) / 2 ≠ i → K ((k - 1) / 2) ≤ K k) ∧ (0 < i → ∀ c, 0 < c → c < n → (c - 1) / 2 = i → K ((i - 1) / 2) ≤ K c)

/-- Two places exchanged. -/
def Xc (K K' : Nat → Int) (i j : Nat) : Prop := K' i = K j ∧ K' j = K i ∧ ∀ k, k ≠ i → k ≠ j → K' k = K k

theorem up_zero {K : Nat → Int} {n : Nat} (h : UpI K n 0) : Ord K n := fun k h0 hk => h.1 k h0 hk (by omega)

theorem up_stop {K : Nat → Int} {n j : Nat} (h : UpI K n j) (hl : ¬ K j < K ((j - 1) / 2)) : Ord K n := fun k h0 hk => by
  by_cases e : k = j
  · subst e; omega
  · exact h.1 k h0 hk e

theorem up_step {K K' : Nat → Int} {n j p : Nat} (h : UpI K n j) (h0 : 0 < j) (hj : j < n) (hp : p = (j - 1) / 2) (hl : K j < K p) (hx : Xc K K' p j) : UpI K' n p := by
  obtain ⟨x1, x2, x3⟩ := hx
  have hpj : p < j := by omega
  refine ⟨fun k k0 kn kp => ?_, fun p0 c c0 cn cp => ?_⟩
  · by_cases e : k = j
    · subst e
      rw [← hp, x1, x2]; omega
    · have a := h.1 k k0 kn e
      rw [x3 k kp e]
      obtain ⟨q, hq⟩ : ∃ q, (k - 1) / 2 = q := ⟨_, rfl⟩
      rw [hq] at a ⊢
      by_cases e1 : q = j
      · subst e1
        rw [x2, hp]
        exact h.2 h0 k k0 kn hq
      · by_cases e2 : q = p
        · subst e2
          rw [x1]; omega
        · rw [x3 q e2 e1]; exact a
  · have a := h.1 p p0 (by omega) (by omega)
    obtain ⟨r, hr⟩ : ∃ r, (p - 1) / 2 = r := ⟨_, rfl⟩
    rw [hr] at a ⊢
    rw [x3 r (by omega) (by omega)]
    by_cases e : c = j
    · subst e
      rw [x2]; exact a
    · rw [x3 c (by omega) e]
      have b := h.1 c c0 cn e
      rw [cp] at b
      omega

theorem up_start {K : Nat → Int} {n : Nat} (h : Ord K n) : UpI K (n + 1) n :=
  ⟨fun k k0 kn kj => h k k0 (by omega), fun h0 c c0 cn hc => by omega⟩

theorem dn_end {K : Nat → Int} {n i : Nat} (h : DnI K n i) (hn : n ≤ 2 * i + 1) : Ord K n := fun k k0 kn => h.1 k k0 kn (by omega)

/-- c is the lesser child of i. -/
def Kid (K : Nat → Int) (n i c : Nat) : Prop := (c = 2 * i + 1 ∧ (n ≤ 2 * i + 2 ∨ K (2 * i + 1) ≤ K (2 * i + 2))) ∨ (c = 2 * i + 2 ∧ K (2 * i + 2) ≤ K (2 * i + 1))

theorem Kid.le {K : Nat → Int} {n i c : Nat} (h : Kid K n i c) {k : Nat} (k0 : 0 < k) (kn : k < n) (hk : (k - 1) / 2 = i) : K c ≤ K k := by
  have e : k = 2 * i + 1 ∨ k = 2 * i + 2 := by omega
  unfold Kid at h
  rcases e with rfl | rfl
  · rcases h with ⟨rfl, h⟩ | ⟨rfl, h⟩ <;> omega
  · rcases h with ⟨rfl, h⟩ | ⟨rfl, h⟩ <;> omega

theorem dn_stop {K : Nat → Int} {n i c : Nat} (h : DnI K n i) (hc : Kid K n i c) (hl : ¬ K c < K i) : Ord K n := fun k k0 kn => by
  by_cases e : (k - 1) / 2 = i
  · rw [e]
    have := hc.le k0 kn e
    omega
  · exact h.1 k k0 kn e

theorem dn_step {K K' : Nat → Int} {n i c : Nat} (h : DnI K n i) (hc : Kid K n i c) (hcn : c < n) (hl : K c < K i) (hx : Xc K K' i c) : DnI K' n c := by
  obtain ⟨x1, x2, x3⟩ := hx
  have ci : (c - 1) / 2 = i ∧ i < c := by rcases hc with ⟨rfl, _⟩ | ⟨rfl, _⟩ <;> omega
  refine ⟨fun k k0 kn kc => ?_, fun c0 d d0 dn hd => ?_⟩
  · by_cases e : (k - 1) / 2 = i
    · rw [e, x1]
      by_cases e2 : k = c
      · subst e2; rw [x2]; omega
      · rw [x3 k (by omega) e2]
        exact hc.le k0 kn e
    · have a := h.1 k k0 kn e
      rw [x3 _ e kc]
      by_cases e3 : k = i
      · subst e3
        rw [x1]
        exact h.2 k0 c (by omega) hcn ci.1
      · have e4 : k ≠ c := fun e' => by subst e'; exact e ci.1
        rw [x3 k e3 e4]; exact a
  · rw [ci.1, x1]
    have b := h.1 d d0 dn (by omega)
    rw [hd] at b
    rw [x3 d (by omega) (by omega)]
    exact b

theorem dn_start {K K' : Nat → Int} {n : Nat} (h : Ord K (n + 1)) (hx : Xc K K' 0 n) : DnI K' n 0 :=
  ⟨fun k k0 kn hk => by
    have a := h k k0 (by omega)
    rw [hx.2.2 _ hk (by omega), hx.2.2 k (by omega) (by omega)]
    exact a, fun h0 => absurd h0 (Nat.lt_irrefl 0)⟩

theorem ord_min {K : Nat → Int} {n : Nat} (h : Ord K n) : ∀ k, k < n → K 0 ≤ K k := by
  intro k
  induction k using Nat.strongRecOn with
  | _ k ih =>
    intro hk
    by_cases e : k = 0
    · subst e; exact Int.le_refl _
    · exact Int.le_trans (ih ((k - 1) / 2) (by omega) (by omega)) (h k (by omega) hk)

theorem xc_swp (T : Array (Nat × Int)) {i j : Nat} (hi : i < T.size) (hj : j < T.size) : Xc (fun k => T[k]!.2) (fun k => (swp T i j)[k]!.2) i j := by
  refine ⟨?_, ?_, fun k h1 h2 => ?_⟩
  · show (swp T i j)[i]!.2 = _
    rw [swp_get T hi hj]
    split
    · rename_i e; subst e; rfl
    · rw [if_pos rfl]
  · show (swp T i j)[j]!.2 = _
    rw [swp_get T hi hj, if_pos rfl]
  · show (swp T i j)[k]!.2 = _
    rw [swp_get T hi hj, if_neg h2, if_neg h1]

theorem perm_swp (T : Array (Nat × Int)) {i j : Nat} (hi : i < T.size) (hj : j < T.size) : (swp T i j).toList.Perm T.toList := by
  have h := (Go.Sort.swp_permIn T 0 T.size i j (Nat.zero_le _) hi (Nat.zero_le _) hj (Nat.le_refl _)).2.2
  have e : (swp T i j).size = T.size := size_swp T i j
  have e2 : (T.extract 0 T.size).toList = T.toList := by simp
  have e3 : ((swp T i j).extract 0 T.size).toList = (swp T i j).toList := by
    have : ((swp T i j).extract 0 (swp T i j).size).toList = (swp T i j).toList := by simp
    rw [e] at this; exact this
  rw [e2, e3] at h
  exact h

end Go.Proofs.Ybulkcghm.Hp
