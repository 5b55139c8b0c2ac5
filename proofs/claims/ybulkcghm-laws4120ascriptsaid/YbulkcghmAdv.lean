import Derived.Test.YbulkcghmLim
namespace Go.Proofs.Ybulkcghm.Lm
open Go.RowKit Go.Deep Go.Proofs.Ybulkcghm.Tm
set_option linter.unusedVariables false

theorem blk_dr {w : World} {L : Nat} {o : Obj} (h : w.heap[L]? = some o) : w.drew.heap[L]? = some o := h

theorem hideP {p : Prop} (h : p) : Hid p := h

set_option maxHeartbeats 8000000 in
set_option maxRecDepth 100000 in
theorem first_nil (L : Nat) (w : World) (h : w.cell? ⟨L, 19, none⟩ = some (.int .i64 0)) :
    Calls Yba.prog 101 #[.pointer (some ⟨L, 18, none⟩)] w fun e w' => e = .returned (.pointer none) ∧ w' = w := by
  go_enter Yba.func101, Yba.ntmps101
  go_wp2_with fail
  go_ret
  exact ⟨rfl, rfl⟩

set_option maxHeartbeats 8000000 in
set_option maxRecDepth 100000 in
theorem drop_nil (L : Nat) (mu : Int) (r : Nat) (n : Int) (T : Nat) (z l : Int) (T2 : Nat) (z2 : Int) (ta tb : Int) (g : Value) (w : World) (h : Lim w L mu r n T z l T2 z2) :
    Calls Yba.prog 80 #[.pointer (some ⟨L, 18, none⟩), .agg #[.int .u64 ta, .int .i64 tb, .pointer none], g] w fun e w' => e = .returned (.tuple #[]) ∧ Below w.heap.size w w' := by
  have HF := fun o => hideP (first_nil L (w.alloc o) (Lim.c19 (blk_alloc h o)))
  clear h
  go_enter Yba.func80, Yba.ntmps80
  go_wp2_with (go_at_call 101; refine (HF _).out.mono ?_; rintro e w1 ⟨rfl, rfl⟩)
  go_loopw [6] (fun s6 wx => s6 = .pointer none ∧ Below w.heap.size w wx) (fun s6 wx => (0 : Nat))
  case atStart => exact ⟨rfl, al (Below.refl _ w) _⟩
  case round =>
    obtain ⟨rfl, hB⟩ := hrel
    go_wp2_with fail
    go_quiet (fail)
    go_wp2_with fail
    go_end0
    exact ⟨rfl, ⟨hB.os, hB.tape, hB.output, hB.size, hB.block⟩⟩

/-- All blocks of the caller but one are left alone. -/
structure OnlyL (L : Nat) (w w' : World) : Prop where
  os : w'.os = w.os
  tape : w'.tape = w.tape
  output : w'.output = w.output
  size : w.heap.size ≤ w'.heap.size
  block : ∀ k, k < w.heap.size → k ≠ L → w'.heap[k]? = w.heap[k]?

theorem Below.only {L : Nat} {w w' : World} (h : Below w.heap.size w w') : OnlyL L w w' := ⟨h.os, h.tape, h.output, h.size, fun k hk _ => h.block k hk⟩
theorem OnlyL.refl (L : Nat) (w : World) : OnlyL L w w := ⟨rfl, rfl, rfl, Nat.le_refl _, fun _ _ _ => rfl⟩
theorem OnlyL.trans {L : Nat} {a b c : World} (h : OnlyL L a b) (k : OnlyL L b c) : OnlyL L a c :=
  ⟨k.os.trans h.os, k.tape.trans h.tape, k.output.trans h.output, Nat.le_trans h.size k.size, fun i hi hn => (k.block i (Nat.lt_of_lt_of_le hi h.size) hn).trans (h.block i hi hn)⟩
theorem OnlyL.set {L : Nat} {a w : World} (h : OnlyL L a w) (o : Nat) (v : Value) : OnlyL L a (w.setCell ⟨L, o, none⟩ v) :=
  h.trans ⟨rfl, rfl, rfl, by simp [World.setCell], fun k hk hn => blk_other hn _ _⟩
theorem OnlyL.alloc {L : Nat} {a w : World} (h : OnlyL L a w) (o : Obj) : OnlyL L a (w.alloc o) := h.trans (Below.only (al (Below.refl _ w) o))
theorem OnlyL.drew {L : Nat} {a w : World} (h : OnlyL L a w) : OnlyL L a w.drew := ⟨h.os, h.tape, h.output, h.size, h.block⟩
theorem OnlyL.below {L : Nat} {a w w' : World} (h : OnlyL L a w) (k : Below w.heap.size w w') : OnlyL L a w' := h.trans (Below.only k)

theorem adv_arr (mu : Int) (r : Nat) (n : Int) (T : Nat) (z l : Int) (T2 : Nat) (z2 : Int) (t : Int) :
    (((((((((lc mu r n T z l T2 z2).setIfInBounds 5 (.float .f64 T)).setIfInBounds 6 (.float .f64 0)).setIfInBounds 7 (.int .u64 (z % 1000000000))).setIfInBounds 8 (.int .i64 (z / 1000000000))).setIfInBounds 9 (.pointer none)).setIfInBounds 29 (.bool false)).setIfInBounds 10 (.int .u64 (t % 1000000000))).setIfInBounds 11 (.int .i64 (t / 1000000000))).setIfInBounds 12 (.pointer none) = lc mu r n T z t T2 z2 := by
  unfold lc
  generalize t % 1000000000 = ta
  generalize t / 1000000000 = tb
  generalize z % 1000000000 = za
  generalize z / 1000000000 = zb
  generalize l % 1000000000 = la
  generalize l / 1000000000 = lb
  generalize z2 % 1000000000 = ya
  generalize z2 / 1000000000 = yb
  simp

def advW (w : World) (L T : Nat) (za zb ta tb : Int) : World :=
  ((((((((w.setCell ⟨L, 5, none⟩ (.float .f64 T)).setCell ⟨L, 6, none⟩ (.float .f64 0)).setCell ⟨L, 7, none⟩ (.int .u64 za)).setCell ⟨L, 8, none⟩ (.int .i64 zb)).setCell ⟨L, 9, none⟩ (.pointer none)).setCell ⟨L, 29, none⟩ (.bool false)).setCell ⟨L, 10, none⟩ (.int .u64 ta)).setCell ⟨L, 11, none⟩ (.int .i64 tb)).setCell ⟨L, 12, none⟩ (.pointer none)

theorem advW_lim {w : World} {L : Nat} {mu : Int} {r : Nat} {n : Int} {T : Nat} {z l : Int} {T2 : Nat} {z2 : Int} (h : Lim w L mu r n T z l T2 z2) (t : Int) :
    Lim (advW w L T (z % 1000000000) (z / 1000000000) (t % 1000000000) (t / 1000000000)) L mu r n T z t T2 z2 := by
  have := blk_set (blk_set (blk_set (blk_set (blk_set (blk_set (blk_set (blk_set (blk_set h 5 (.float .f64 T)) 6 (.float .f64 0)) 7 (.int .u64 (z % 1000000000))) 8 (.int .i64 (z / 1000000000))) 9 (.pointer none)) 29 (.bool false)) 10 (.int .u64 (t % 1000000000))) 11 (.int .i64 (t / 1000000000))) 12 (.pointer none)
  rw [adv_arr] at this
  exact this

theorem advW_other {w : World} {L k : Nat} (hk : k ≠ L) (T : Nat) (za zb ta tb : Int) : (advW w L T za zb ta tb).heap[k]? = w.heap[k]? := by
  unfold advW
  repeat rw [blk_other hk]

theorem advW_only {w : World} {L : Nat} (T : Nat) (za zb ta tb : Int) : OnlyL L w (advW w L T za zb ta tb) :=
  (((((((((OnlyL.refl L w).set _ _).set _ _).set _ _).set _ _).set _ _).set _ _).set _ _).set _ _).set _ _

attribute [local go_sem] run_store_float in
set_option maxHeartbeats 8000000 in
set_option maxRecDepth 100000 in
theorem advance_any (L : Nat) (mu : Int) (r : Nat) (n : Int) (T : Nat) (z l : Int) (T2 : Nat) (z2 t : Int) (w : World) (h : Lim w L mu r n T z l T2 z2) :
    Calls Yba.prog 51 #[.pointer (some ⟨L, 0, none⟩), tv t] w fun e w' => e = .returned (.tuple #[]) ∧ Lim w' L mu r n T z t T2 z2 ∧ OnlyL L w w' := by
  have hL := blk_lt h
  have HS : Hid (∀ w, Lim w L mu r n T z l T2 z2 → _) := fun w => settled_any L mu r n T z l T2 z2 t w
  have HD : Hid (∀ g w, Lim w L mu r n T z t T2 z2 → _) := fun g w => drop_nil L mu r n T z t T2 z2 (t % 1000000000) (t / 1000000000) g w
  have HV : Hid (∀ w, Lim w L mu r n T z l T2 z2 → _) := fun w h => advW_lim h t
  have HI : Hid (Lim w L mu r n T z l T2 z2) := h
  have hmf : ∀ (fn : Fn) (first cap : Array Value) (w : World), (Instr.makeFunc fn first cap).run Yba.prog w = .ok (.func fn first cap) w := fun _ _ _ _ => rfl
  clear h
  simp only [tv] at HS ⊢
  obtain ⟨ta, hta⟩ : ∃ x, t % 1000000000 = x := ⟨_, rfl⟩
  obtain ⟨tb, htb⟩ : ∃ x, t / 1000000000 = x := ⟨_, rfl⟩
  obtain ⟨za, hza⟩ : ∃ x, z % 1000000000 = x := ⟨_, rfl⟩
  obtain ⟨zb, hzb⟩ : ∃ x, z / 1000000000 = x := ⟨_, rfl⟩
  simp only [hta, htb, hza, hzb] at HS HD HV ⊢
  go_enter Yba.func51, Yba.ntmps51
  go_wp2_with fail
  refine (HS.out _ (blk_alloc HI.out _)).mono ?_
  rintro e w1 ⟨rfl, hB⟩
  have l1 := Lim.below (blk_alloc HI.out _) hB
  have b0 := blk_below (blk_new w (.cells #[.int .u64 ta, .int .i64 tb, .pointer none] 31)) hB (by simp)
  have k0 : w1.cell? ⟨w.heap.size, 0, none⟩ = some (.int .u64 ta) := blk_cell b0 rfl
  have k1 : w1.cell? ⟨w.heap.size, 1, none⟩ = some (.int .i64 tb) := blk_cell b0 rfl
  have k2 : w1.cell? ⟨w.heap.size, 2, none⟩ = some (.pointer none) := blk_cell b0 rfl
  have hne : ¬ L = w.heap.size := by omega
  have c5 := l1.c5
  have c6 := l1.c6
  have c7 := l1.c7
  have c8 := l1.c8
  have c9 := l1.c9
  have c10 := l1.c10
  have c11 := l1.c11
  have c12 := l1.c12
  have c29 := l1.c29
  have f := fun k => blk_free l1 k
  have O := hideP (OnlyL.trans (OnlyL.trans (Below.only (L := L) (al (Below.refl _ w) _)) (Below.only hB)) (advW_only T za zb ta tb))
  have l2 := hideP (HV.out _ l1)
  have b2 := hideP ((advW_other (L := L) (show w.heap.size ≠ L by omega) T za zb ta tb).trans b0)
  clear l1 b0 HV HI hB hta htb hza hzb HS
  go_wp2_with fail
  change Code.wp Yba.prog _ _ _ (advW w1 L T za zb ta tb)
  generalize advW w1 L T za zb ta tb = W at *
  clear k0 k1 k2 c5 c6 c7 c8 c9 c10 c11 c12 c29 f w1
  have b3 := b2.out
  have k0 : W.cell? ⟨w.heap.size, 0, none⟩ = some (.int .u64 ta) := blk_cell b3 rfl
  have k1 : W.cell? ⟨w.heap.size, 1, none⟩ = some (.int .i64 tb) := blk_cell b3 rfl
  have k2 : W.cell? ⟨w.heap.size, 2, none⟩ = some (.pointer none) := blk_cell b3 rfl
  clear b3
  go_region_with (go_at_call 80; refine (HD.out _ _ (blk_dr l2.out)).mono ?_; rintro e w3 ⟨rfl, hB⟩)
  all_goals
    go_wp2_with fail
    go_end0
    exact ⟨rfl, Lim.below (blk_dr l2.out) hB, O.out.drew.below hB⟩
end Go.Proofs.Ybulkcghm.Lm
