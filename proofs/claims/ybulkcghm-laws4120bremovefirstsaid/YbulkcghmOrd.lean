import Derived.Test.YbulkcghmBuild
namespace Go.Proofs.Ybulkcghm.Bk
open Go.RowKit Go.Deep
open Go.Proofs.Ybulkcghm.Srt
set_option linter.unusedVariables false
set_option linter.unusedSimpArgs false

theorem ins_split (t : Nat → Int) (x : Nat) (C : List Nat) (hC : ∀ a, a ∈ C → t x < t a) : ∀ A : List Nat, (∀ a, a ∈ A → ¬ t x < t a) → ins t x (A ++ C) = A ++ x :: C
  | [], _ => by
    cases C with
    | nil => rfl
    | cons c C => simp [ins, hC c (by simp)]
  | a :: A, h => by
    simp only [List.cons_append, ins, if_neg (h a (by simp))]
    rw [ins_split t x C hC A (fun b hb => h b (by simp [hb]))]

/-- The index array at the outer loop's head. -/
def ix (Z : Nat → Int) (j i : Nat) : Nat := if i < j then (ord Z j).getD i 0 - 1 else i

/-- .. and inside: element j stands at place k. -/
def inn (M : List Nat) (j k i : Nat) : Nat := if i < k then M.getD i 0 - 1 else if i = k then j else if i ≤ j then M.getD (i - 1) 0 - 1 else i

theorem inn_start (Z : Nat → Int) (j i : Nat) : inn (ord Z j) j j i = ix Z j i := by
  unfold inn ix
  split
  · rfl
  · split
    · rename_i h; exact h.symm
    · rw [if_neg (by omega)]

theorem inn_step (M : List Nat) (j k i : Nat) (hk : 0 < k) (hkj : k ≤ j) : (if i = k - 1 then j else if i = k then M.getD (k - 1) 0 - 1 else inn M j k i) = inn M j (k - 1) i := by
  unfold inn
  by_cases h1 : i = k - 1
  · rw [if_pos h1, if_neg (by omega), if_pos h1]
  · by_cases h2 : i = k
    · subst h2
      rw [if_neg h1, if_pos rfl, if_neg (by omega), if_neg h1, if_pos (by omega)]
    · by_cases h3 : i < k
      · have h4 : i < k - 1 := by omega
        simp only [h1, h2, h3, h4, if_false, if_true]
      · have h4 : ¬ i < k - 1 := by omega
        simp only [h1, h2, h3, h4, if_false]

theorem getD_mem (M : List Nat) (i : Nat) (h : i < M.length) : M.getD i 0 ∈ M := by
  rw [List.getD_eq_getElem?_getD, List.getElem?_eq_getElem h]; exact List.getElem_mem h

theorem inn_done (Z : Nat → Int) (j k : Nat) (hk : k ≤ j) (hgt : ∀ q, k ≤ q → q < j → Z j < Z ((ord Z j).getD q 0 - 1)) (hend : k = 0 ∨ ¬ Z j < Z ((ord Z j).getD (k - 1) 0 - 1)) (i : Nat) :
    inn (ord Z j) j k i = ix Z (j + 1) i := by
  have hl := length_ord Z j
  have hs := sorted_ord Z j
  have hA : ∀ a, a ∈ (ord Z j).take k → ¬ (fun i => Z (i - 1)) (j + 1) < (fun i => Z (i - 1)) a := by
    intro a ha
    obtain ⟨q, hq, rfl⟩ := List.getElem_of_mem ha
    have hqk : q < k := by simp at hq; omega
    rw [List.getElem_take]
    rcases hend with h0 | h0
    · omega
    · have hge : (ord Z j)[q]'(by omega) = (ord Z j)[k - 1]'(by omega) ∨ Z ((ord Z j)[q]'(by omega) - 1) ≤ Z ((ord Z j)[k - 1]'(by omega) - 1) := by
        by_cases e : q = k - 1
        · left; subst e; rfl
        · right; exact List.pairwise_iff_getElem.1 hs q (k - 1) (by omega) (by omega) (by omega)
      have e1 : (ord Z j).getD (k - 1) 0 = (ord Z j)[k - 1]'(by omega) := by rw [List.getD_eq_getElem?_getD, List.getElem?_eq_getElem (by omega)]; rfl
      rw [e1] at h0
      show ¬ Z (j + 1 - 1) < Z ((ord Z j)[q]'(by omega) - 1)
      rw [Nat.add_sub_cancel]
      rcases hge with e | e
      · rw [e]; exact h0
      · omega
  have hC : ∀ a, a ∈ (ord Z j).drop k → (fun i => Z (i - 1)) (j + 1) < (fun i => Z (i - 1)) a := by
    intro a ha
    obtain ⟨q, hq, rfl⟩ := List.getElem_of_mem ha
    simp at hq
    rw [List.getElem_drop]
    have := hgt (k + q) (by omega) (by omega)
    rw [List.getD_eq_getElem?_getD, List.getElem?_eq_getElem (by omega)] at this
    exact this
  have e : ord Z (j + 1) = (ord Z j).take k ++ (j + 1) :: (ord Z j).drop k := by
    rw [ord, ← ins_split _ (j + 1) _ hC _ hA, List.take_append_drop]
  unfold inn ix
  rw [e]
  have hlt : ((ord Z j).take k).length = k := by simp; omega
  by_cases h1 : i < k
  · rw [if_pos h1, if_pos (by omega), List.getD_eq_getElem?_getD, List.getD_eq_getElem?_getD, List.getElem?_append_left (by omega), List.getElem?_take_of_lt h1]
  · by_cases h2 : i = k
    · subst h2
      rw [if_neg h1, if_pos rfl, if_pos (by omega), List.getD_eq_getElem?_getD, List.getElem?_append_right (by omega), hlt]
      simp
    · by_cases h3 : i ≤ j
      · rw [if_neg h1, if_neg h2, if_pos h3, if_pos (by omega), List.getD_eq_getElem?_getD, List.getD_eq_getElem?_getD, List.getElem?_append_right (by omega), hlt]
        rw [show i - k = (i - 1 - k) + 1 by omega, List.getElem?_cons_succ, List.getElem?_drop, show k + (i - 1 - k) = i - 1 by omega]
      · rw [if_neg h1, if_neg h2, if_neg h3, if_neg (by omega)]

theorem ord_at {Z : Nat → Int} {j q : Nat} (h : q < j) : 1 ≤ (ord Z j).getD q 0 ∧ (ord Z j).getD q 0 ≤ j :=
  (mem_ord Z j _).1 (getD_mem _ _ (by rw [length_ord]; exact h))

theorem info3 : (Yba.prog.info? 3).map (fun i => (i.zero, i.size, i.bytes)) = some (some (.int .i64 0), 1, 8) := by kernel_rfl
theorem info28 : (Yba.prog.info? 28).map (fun i => (i.zero, i.size, i.bytes)) = some (some (.int .u64 0), 1, 8) := by kernel_rfl

set_option maxHeartbeats 4000000 in
set_option maxRecDepth 100000 in
theorem order_any (a0 : Option Addr) (len cap : Nat) (Z : Nat → Int) (w : World) (hl : len ≤ 1024) (hc : Reads w a0 len Z) (hZ : ∀ i, -128 ≤ Z i ∧ Z i ≤ 127) :
    Calls Yba.prog 17 #[.slice a0 len cap] w fun e w' => ∃ g, e = .returned (.slice (some ⟨g, 0, none⟩) len len) ∧ w.heap.size ≤ g ∧ Below w.heap.size w w' ∧ w'.rowIs g 28 len (fun i => .int .u64 ((ord Z len).getD i 0 : Nat)) := by
  have HC : Hid (Reads w a0 len Z) := hc
  clear hc
  have hmk := run_make_row' (P := Yba.prog) 104 3 (.int .i64 0) 8 Yba.underlying104 info3 rfl .i64 .i64 len (by omega) (by omega)
  have hmk2 := run_make_row' (P := Yba.prog) 48 28 (.int .u64 0) 8 Yba.underlying48 info28 rfl .i64 .i64 len (by omega) (by omega)
  go_enter Yba.func17, Yba.ntmps17
  go_wp2_with fail
  go_loopw [4] (fun i wr => ∃ k : Nat, k ≤ len ∧ i = .int .i64 k ∧ Below w.heap.size w wr ∧ wr.rowIs w.heap.size 3 len (fun i => if i < k then .int .i64 i else .int .i64 0)) (fun i _ => len - (intOf i).toNat)
  case atStart => exact ⟨0, Nat.zero_le _, rfl, (Below.refl _ _).alloc (Nat.le_refl _) _, (World.rowIs_made w _ len 3).congr (fun j _ => by simp)⟩
  case round =>
    obtain ⟨k, hk, rfl, hB, hR⟩ := hrel
    by_cases hlt : k < len
    · have hf := hR.frozen k
      have ht := hR.cell hlt
      have hR' := (hR.set k (.int .i64 k)).congr (g := fun i => if i < k + 1 then .int .i64 i else .int .i64 0) (fun j _ => by
        by_cases e : j = k
        · subst e; simp
        · rw [if_neg e]
          by_cases h : j < k
          · rw [if_pos h, if_pos (by omega)]
          · rw [if_neg h, if_neg (by omega)])
      have hB' := hB.setCell (p := ⟨w.heap.size, k, none⟩) (Nat.le_refl _) (.int .i64 k)
      clear hmk hmk2 HC hB hR
      go_wp2_with fail
      go_roundw
      case rel => exact ⟨k + 1, by omega, by go_num, hB', hR'⟩
      case measure => simp [intOf]; omega
    · have hkl : len = k := by omega
      subst hkl
      go_wp2_with fail
      have hR1 : wr.rowIs w.heap.size 3 len (fun i => .int .i64 (ix Z 1 i : Nat)) := hR.congr (fun i hi => by
        rw [if_pos hi]
        by_cases h : i < 1
        · have : i = 0 := by omega
          subst this
          simp [ix, ord, ins]
        · simp [ix, h])
      clear hR hmk
      go_loopw [5] (fun jv wr => ∃ j : Nat, 1 ≤ j ∧ (j ≤ len ∨ j = 1) ∧ jv = .int .i64 j ∧ Below w.heap.size w wr ∧ wr.rowIs w.heap.size 3 len (fun i => .int .i64 (ix Z j i : Nat))) (fun jv _ => len - (intOf jv).toNat)
      case atStart => exact ⟨1, by omega, .inr rfl, rfl, hB, hR1⟩
      case round =>
        clear hR1 hB
        obtain ⟨j, hj1, hj2, rfl, hB, hR⟩ := hrel
        by_cases hjl : j < len
        · clear hmk2
          go_wp2_with fail
          have hR0 := hR.congr (g := fun i => .int .i64 (inn (ord Z j) j j i : Nat)) (fun i _ => by rw [inn_start])
          go_loopw [6] (fun kv wi => ∃ k : Nat, k ≤ j ∧ kv = .int .i64 k ∧ Below w.heap.size w wi ∧ wi.rowIs w.heap.size 3 len (fun i => .int .i64 (inn (ord Z j) j k i : Nat)) ∧ (∀ q, k ≤ q → q < j → Z j < Z ((ord Z j).getD q 0 - 1))) (fun kv _ => (intOf kv).toNat)
          case atStart => exact ⟨j, Nat.le_refl _, rfl, hB, hR0, fun q h1 h2 => by omega⟩
          case round =>
            clear hR0 hR hB
            obtain ⟨k, hkj, rfl, hB, hR, hgt⟩ := hrel
            cases k with
            | zero =>
              have fin := hR.congr (g := fun i => .int .i64 (ix Z (j + 1) i : Nat)) (fun i _ => by rw [inn_done Z j 0 hkj hgt (.inl rfl) i])
              clear hgt hR
              go_wp2_with fail
              go_quiet (fail)
              go_wp2_with fail
              go_roundw
              case rel => exact ⟨j + 1, by omega, by omega, by go_num, below_drewN hB _, fin⟩
              case measure => simp [intOf]; omega
            | succ k =>
              obtain ⟨b, off, hb, rfl, hcell⟩ := HC.out j hjl
              have hm := ord_at (Z := Z) (j := j) (q := k) (by omega)
              have i0 := hR.cell (i := k) (by omega)
              have i1 := hR.cell (i := k + 1) (by omega)
              have f0 := hR.frozen k
              have f1 := hR.frozen (k + 1)
              have v0 : inn (ord Z j) j (k + 1) k = (ord Z j).getD k 0 - 1 := by unfold inn; rw [if_pos (by omega)]
              have v1 : inn (ord Z j) j (k + 1) (k + 1) = j := by unfold inn; rw [if_neg (by omega), if_pos rfl]
              rw [v0] at i0
              rw [v1] at i1
              have hst := inn_step (ord Z j) j (k + 1)
              rw [show k + 1 - 1 = k by omega] at hst
              have hdn := inn_done Z j (k + 1) hkj hgt
              rw [show k + 1 - 1 = k by omega] at hdn
              have HST : Hid (∀ i, _) := hst
              have HDN : Hid (_ → ∀ i, _) := hdn
              have HGT : Hid (∀ q, k + 1 ≤ q → q < j → Z j < Z ((ord Z j).getD q 0 - 1)) := hgt
              clear v0 v1 hst hdn hgt
              generalize hmm : (ord Z j).getD k 0 - 1 = m at *
              have hml : m < len := by omega
              have t0 := (hB.cell (p := ⟨b, off + m, none⟩) hb).trans (hcell m hml)
              have t1 := (hB.cell (p := ⟨b, off + j, none⟩) hb).trans (hcell j hjl)
              have HMM : Hid ((ord Z j).getD k 0 - 1 = m) := hmm
              clear hmm hcell hm
              by_cases hgtz : Z j < Z m
              · go_wp2_with fail
                go_quiet (fail)
                go_wp2_with fail
                go_roundw
                case rel =>
                  refine ⟨k, by omega, by go_num, ((below_drewN hB nq).setCell (p := ⟨w.heap.size, k + 1, none⟩) (Nat.le_refl _) _).setCell (p := ⟨w.heap.size, k, none⟩) (Nat.le_refl _) _, ?_, ?_⟩
                  · have hR2 : (wr.drewN nq).rowIs w.heap.size 3 len (fun i => .int .i64 (inn (ord Z j) j (k + 1) i : Nat)) := hR
                    refine ((hR2.set (k + 1) (.int .i64 m)).set k (.int .i64 j)).congr (fun i _ => ?_)
                    have := HST.out i (by omega) (by omega)
                    rw [← this]
                    by_cases e1 : i = k
                    · simp [e1]
                    · by_cases e2 : i = k + 1
                      · simp [e1, e2]
                      · simp [e1, e2]
                  · intro q h1 h2
                    by_cases e : q = k
                    · subst e; rw [HMM.out]; exact hgtz
                    · exact HGT.out q (by omega) h2
                case measure => simp [intOf]
              · have fin := hR.congr (g := fun i => .int .i64 (ix Z (j + 1) i : Nat)) (fun i _ => by rw [HDN.out (.inr hgtz) i])
                have g1 : decide (Z j < Z m) = false := by simpa using hgtz
                go_wp2_with fail
                go_quiet (fail)
                go_wp2_with fail
                go_roundw
                case rel => exact ⟨j + 1, by omega, by omega, by go_num, below_drewN hB _, fin⟩
                case measure => simp [intOf]; omega
        · have hR3 : wr.rowIs w.heap.size 3 len (fun i => .int .i64 ((ord Z len).getD i 0 - 1 : Nat)) := hR.congr (fun i hi => by
            have : j = len := by omega
            subst this
            simp only [ix, if_pos hi])
          have hgl := hR.lt
          have hsz := hB.size
          clear hR HC
          go_wp2_with fail
          have st0 : (wr.alloc (.cells (madeCells #[.int .u64 0] len) 28)).rowIs wr.heap.size 28 len (fun i => if i < 0 then .int .u64 ((ord Z len).getD i 0 : Nat) else .int .u64 0) := (World.rowIs_made wr _ len 28).congr (fun i _ => by simp)
          have st1 := hR3.alloc (.cells (madeCells #[.int .u64 0] len) 28)
          have st2 := hB.alloc hsz (.cells (madeCells #[.int .u64 0] len) 28)
          generalize wr.heap.size = go at *
          go_loopw [9] (fun iv wo => ∃ i : Nat, i ≤ len ∧ iv = .int .i64 i ∧ Below w.heap.size w wo ∧ wo.rowIs w.heap.size 3 len (fun i => .int .i64 ((ord Z len).getD i 0 - 1 : Nat)) ∧ wo.rowIs go 28 len (fun q => if q < i then .int .u64 ((ord Z len).getD q 0 : Nat) else .int .u64 0)) (fun iv _ => len - (intOf iv).toNat)
          case atStart => exact ⟨0, Nat.zero_le _, rfl, st2, st1, st0⟩
          case round =>
            clear st0 st1 st2 hmk2 hR3 hB
            obtain ⟨i, hil, rfl, hB, hR, hO⟩ := hrel
            by_cases hlt2 : i < len
            · have hm := ord_at (Z := Z) hlt2
              have hne : w.heap.size ≠ go := by omega
              have i0 := hR.cell hlt2
              have o0 := hO.cell hlt2
              have of := hO.frozen i
              generalize hmm : (ord Z len).getD i 0 - 1 = m at i0
              have hm2 : (ord Z len).getD i 0 = m + 1 := by omega
              have hB' := hB.setCell (p := ⟨go, i, none⟩) hsz (.int .u64 ((m : Int) + 1))
              have hR' := hR.setOther (a := ⟨go, i, none⟩) hne (.int .u64 ((m : Int) + 1))
              have hO' := (hO.set i (.int .u64 ((m : Int) + 1))).congr (g := fun q => if q < i + 1 then .int .u64 ((ord Z len).getD q 0 : Nat) else .int .u64 0) (fun q _ => by
                by_cases e : q = i
                · subst e; simp only [if_true]; rw [if_pos (by omega), hm2]; rfl
                · rw [if_neg e]
                  by_cases h : q < i
                  · rw [if_pos h, if_pos (by omega)]
                  · rw [if_neg h, if_neg (by omega)])
              have hmb : m < 2000 := by omega
              clear hmm hm2 hB hR hO hm
              go_wp2_with fail
              go_roundw
              case rel => exact ⟨i + 1, by omega, by go_num, hB', hR', hO'⟩
              case measure => simp [intOf]; omega
            · have hil' : i = len := by omega
              subst hil'
              go_wp2_with fail
              go_ret
              exact ⟨go, rfl, hsz, hB, hO.congr (fun q hq => by rw [if_pos hq])⟩

end Go.Proofs.Ybulkcghm.Bk
