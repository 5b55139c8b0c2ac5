import Derived.Test.YbulkcghmInsert
namespace Go.Proofs.Ybulkcghm.Bk
open Go.RowKit Go.Deep
open Go.Proofs.Ybulkcghm.Flt (F)
open Go.Proofs.Ybulkcghm.Avl
open Go.Proofs.Ybulkcghm.Srt
set_option linter.unusedVariables false
attribute [local go_sem] run_store_float

/-- The entries 1 .. j in order: a stable sort by time. -/
def ord (ts : Nat → Int) : Nat → List Nat
  | 0 => []
  | j + 1 => ins (fun i => ts (i - 1)) (j + 1) (ord ts j)

theorem mem_ord (ts : Nat → Int) : ∀ j i, i ∈ ord ts j ↔ 1 ≤ i ∧ i ≤ j
  | 0, i => by simp [ord]; omega
  | j + 1, i => by rw [ord, mem_ins, mem_ord ts j]; omega

theorem length_ord (ts : Nat → Int) : ∀ j, (ord ts j).length = j
  | 0 => rfl
  | j + 1 => by rw [ord, length_ins, length_ord ts j]

theorem nodup_ord (ts : Nat → Int) : ∀ j, (ord ts j).Nodup
  | 0 => by simp [ord]
  | j + 1 => by
    rw [ord, (ins_perm _ _ _).nodup_iff, List.nodup_cons, mem_ord]
    exact ⟨by omega, nodup_ord ts j⟩

theorem sorted_ord (ts : Nat → Int) : ∀ j, Sorted (fun i => ts (i - 1)) (ord ts j)
  | 0 => by simp [ord, Sorted]
  | j + 1 => (sorted_ord ts j).ins

/-- The tree behind j inserts. -/
structure Tree (N : Nat → Nd) (root j : Nat) (ts : Nat → Int) : Prop where
  tree : T N root (ord ts j)
  z : N 0 = nul
  id : ∀ i, 1 ≤ i → i ≤ j → (N i).id = i
  tok : ∀ i, 1 ≤ i → i ≤ j → (N i).tok = i
  t : ∀ i, 1 ≤ i → i ≤ j → (N i).t = ts (i - 1)

theorem Tree.pre {N : Nat → Nd} {root j : Nat} {ts : Nat → Int} (h : Tree N root j ts) (hj : j < 1024) : InsPre N root (j + 1) (ord ts j) (j + 1) := by
  have hm := fun i => (mem_ord ts j i).1
  refine ⟨h.tree, h.z, by omega, fun i hi => by have := hm i hi; omega, nodup_ord ts j, fun i hi => ?_, by omega, by rw [length_ord]; omega, (sorted_ord ts j).congr fun i hi => ?_⟩
  · have := hm i hi; rw [h.tok i this.1 this.2]; omega
  · have := hm i hi; exact (h.t i this.1 this.2).symm

theorem Tree.step {N N' : Nat → Nd} {root root' j : Nat} {ts : Nat → Int} (h : Tree N root j ts) (P : InsPost N N' root' (j + 1) (ord ts j) (j + 1) (j + 1) (ts j)) : Tree N' root' (j + 1) ts := by
  have ht : ∀ i, 1 ≤ i → i ≤ j + 1 → (N' i).t = ts (i - 1) := fun i h1 h2 => by
    by_cases e : i = j + 1
    · subst e; rw [P.nt]; rfl
    · rw [P.ot i e]; exact h.t i h1 (by omega)
  refine ⟨?_, P.z, fun i h1 h2 => ?_, fun i h1 h2 => ?_, ht⟩
  · have e : ord ts (j + 1) = ins (fun j => (N' j).t) (j + 1) (ord ts j) := by
      rw [ord]
      refine ins_congr fun a ha => ?_
      have : 1 ≤ a ∧ a ≤ j + 1 := by
        rcases ha with rfl | ha
        · omega
        · have := (mem_ord ts j a).1 ha; omega
      exact (ht a this.1 this.2).symm
    rw [e]; exact P.tree
  · by_cases e : i = j + 1
    · subst e; exact P.nid
    · rw [P.oid i e]; exact h.id i h1 (by omega)
  · by_cases e : i = j + 1
    · subst e; exact P.ntok
    · rw [P.otok i e]; exact h.tok i h1 (by omega)

/-- The memory behind j inserts. -/
def St (B : Nat) (w0 w : World) (p j : Nat) (ts : Nat → Int) : Prop :=
  Below B w0 w ∧ B ≤ p ∧ ((j = 0 ∧ w.heap[p]? = some (.cells #[.slice none 0 0, .int .i64 (0 : Nat), .int .i64 (0 : Nat), .float .f64 0] 88 (0, 0))) ∨
    (0 < j ∧ ∃ g cap N root, Hdr w p g (j + 1) cap root 0 ∧ Tab w g (j + 1) cap N ∧ cap ≤ maxLen ∧ B ≤ g ∧ Tree N root j ts))

theorem tree_zero (ts : Nat → Int) : Tree (fun _ => nul) 0 0 ts :=
  ⟨T.nil _, rfl, fun i h1 h2 => by omega, fun i h1 h2 => by omega, fun i h1 h2 => by omega⟩

theorem insert_any (B p j : Nat) (ts : Nat → Int) (w0 w : World) (hj : j < 1024) (h : St B w0 w p j ts) :
    Calls Yba.prog 36 #[.pointer (some ⟨p, 0, none⟩), .agg (bc (j + 1) (ts j) (j + 1))] w fun e w' => e = .returned (.tuple #[]) ∧ St B w0 w' p (j + 1) ts := by
  obtain ⟨hB, hBp, ⟨rfl, hh⟩ | ⟨hpos, g, cap, N, root, hH, hT, hc, hg, tr⟩⟩ := h
  · have hpl : p < w.heap.size := (Array.getElem?_eq_some_iff.1 hh).1
    refine (insert_zero B p (0 + 1) (0 + 1) (ts 0) w0 w hB (by omega) hBp (by omega) hh).mono ?_
    rintro e w' ⟨rfl, g', cap', N', root', a1, a2, a3, a4, a5, P⟩
    exact ⟨rfl, a5, hBp, .inr ⟨by omega, g', cap', N', root', a1, a2, a3, a4, (tree_zero ts).step P⟩⟩
  · have hpl := hH.lt
    refine (insert_pos B p g (j + 1) cap root (j + 1) (j + 1) (ts j) N w0 w hB (by omega) hBp hg hc hT hH (by omega) (by omega) (ord ts j) (tr.pre hj)).mono ?_
    rintro e w' ⟨rfl, g', cap', N', root', a1, a2, a3, a4, a5, P⟩
    exact ⟨rfl, a5, hBp, .inr ⟨by omega, g', cap', N', root', a1, a2, a3, a4, tr.step P⟩⟩

theorem St.alloc {B : Nat} {w0 w : World} {p j : Nat} {ts : Nat → Int} (h : St B w0 w p j ts) (o : Obj) : St B w0 (w.alloc o) p j ts := by
  obtain ⟨hB, hBp, ⟨rfl, hh⟩ | ⟨hpos, g, cap, N, root, hH, hT, hc, hg, tr⟩⟩ := h
  · have hpl : p < w.heap.size := (Array.getElem?_eq_some_iff.1 hh).1
    exact ⟨hB.alloc (by omega) o, hBp, .inl ⟨rfl, by rw [blk_alloc_lt _ _ _ hpl]; exact hh⟩⟩
  · have hpl := hH.lt
    refine ⟨hB.alloc (by omega) o, hBp, .inr ⟨hpos, g, cap, N, root, ?_, hT.alloc o, hc, hg, tr⟩⟩
    unfold Hdr
    rw [blk_alloc_lt _ _ _ hpl]; exact hH

theorem conv_F (n : Nat) (w : World) : (convert 3 23 (.int .i64 (n : Int))).run Yba.prog w = .ok (.float .f64 (F n)) w := by
  simp [convert, run_underlying Yba.underlying3, run_underlying Yba.underlying23, Conv.intToFloat, F]

/-- What the walks ask of the slice that came in. -/
def Reads (w : World) (a0 : Option Addr) (len : Nat) (Z : Nat → Int) : Prop :=
  ∀ i, i < len → ∃ b off, b < w.heap.size ∧ a0 = some ⟨b, off, none⟩ ∧ ∀ i, i < len → w.cell? ⟨b, off + i, none⟩ = some (.int .i8 (Z i))

set_option maxHeartbeats 4000000 in
set_option maxRecDepth 100000 in
theorem build_any (a0 : Option Addr) (len cap : Nat) (Z : Nat → Int) (w : World) (hl : len ≤ 1024) (hc : Reads w a0 len Z) (hZ : ∀ i, -128 ≤ Z i ∧ Z i ≤ 127) :
    Calls Yba.prog 15 #[.slice a0 len cap] w fun e w' => e = .returned (.pointer (some ⟨w.heap.size, 0, none⟩)) ∧ St w.heap.size w w' w.heap.size len Z := by
  have HC : Hid (Reads w a0 len Z) := hc
  clear hc
  go_enter Yba.func15, Yba.ntmps15
  go_wp2_with fail
  go_loopw [4] (fun i wr => ∃ k : Nat, k ≤ len ∧ i = .int .i64 k ∧ St w.heap.size w wr w.heap.size k Z) (fun i _ => len - (intOf i).toNat)
  case atStart => exact ⟨0, Nat.zero_le _, rfl, (Below.refl _ _).alloc (Nat.le_refl _) _, Nat.le_refl _, .inl ⟨rfl, blk_alloc_new _ _⟩⟩
  case round =>
    obtain ⟨k, hk, rfl, hS⟩ := hrel
    by_cases hlt : k < len
    · obtain ⟨b, off, hb, rfl, hcell⟩ := HC.out k hlt
      have hx := (hS.1.cell (p := ⟨b, off + k, none⟩) hb).trans (hcell k hlt)
      obtain ⟨z1, z2⟩ := hZ k
      have hcv : ∀ W, (convert 3 23 (.int .i64 ((k : Int) + 1))).run Yba.prog W = .ok (.float .f64 (F (k + 1))) W := fun W => conv_F (k + 1) W
      clear hcell HC
      go_wp2_with fail
      refine (Tm.add_any (Z k) wr (by omega) (by omega)).mono ?_
      rintro e w1 ⟨rfl, hw1⟩
      have hS1 : St w.heap.size w w1 w.heap.size k Z := by rw [hw1]; exact (hS.alloc _).alloc _
      clear hw1 hx hS
      unfold Tm.tv
      have HI : Hid (Calls Yba.prog 36 #[.pointer (some ⟨w.heap.size, 0, none⟩), .agg #[.int .u64 ((k : Int) + 1), .int .u64 (Z k % 1000000000), .int .i64 (Z k / 1000000000), .pointer none, .float .f64 (F (k + 1)), .int .u8 0]] w1 fun e w' => e = .returned (.tuple #[]) ∧ St w.heap.size w w' w.heap.size (k + 1) Z) := by
        have := insert_any w.heap.size w.heap.size k Z w w1 (by omega) hS1
        unfold bc at this
        rw [show (((k + 1 : Nat) : Int)) = (k : Int) + 1 by omega] at this
        exact this
      generalize Z k % 1000000000 = za at *
      generalize Z k / 1000000000 = zb at *
      go_wp2_with fail
      refine HI.out.mono ?_
      rintro e w2 ⟨rfl, hS2⟩
      clear HI hS1
      go_wp2_with fail
      go_roundw
      case rel => exact ⟨k + 1, by omega, by go_num, hS2⟩
      case measure => simp [intOf]; omega
    · have hkl : k = len := by omega
      subst hkl
      go_wp2_with fail
      go_ret
      exact ⟨rfl, hS⟩

end Go.Proofs.Ybulkcghm.Bk
