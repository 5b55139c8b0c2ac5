import Derived.Test.YbulkcgmwFmtErr
namespace Go.Proofs.YbulkcgmwFmt.Du
open Go.RowKit Go.Deep
set_option linter.unusedVariables false
set_option linter.unusedSimpArgs false

/-- The members at block M: n of them, their names S, the rest empty. -/
def Mem (w : World) (M n : Nat) (S : Nat → ByteArray) : Prop := w.rowIs M 29 (3 * n) (fun i => .string (if i % 3 = 0 then S (i / 3) else ⟨#[]⟩))

theorem Mem.c0 {w : World} {M n : Nat} {S : Nat → ByteArray} (h : Mem w M n S) {i : Nat} (hi : i < n) : w.cell? ⟨M, i * 3, none⟩ = some (.string (S i)) := by
  have := World.rowIs.cell h (i := i * 3) (by omega)
  rw [this, if_pos (by omega), Nat.mul_div_cancel _ (by omega)]
theorem Mem.c1 {w : World} {M n : Nat} {S : Nat → ByteArray} (h : Mem w M n S) {i : Nat} (hi : i < n) : w.cell? ⟨M, i * 3 + 1, none⟩ = some (.string ⟨#[]⟩) := by
  have := World.rowIs.cell h (i := i * 3 + 1) (by omega)
  rw [this, if_neg (by omega)]
theorem Mem.c2 {w : World} {M n : Nat} {S : Nat → ByteArray} (h : Mem w M n S) {i : Nat} (hi : i < n) : w.cell? ⟨M, i * 3 + 2, none⟩ = some (.string ⟨#[]⟩) := by
  have := World.rowIs.cell h (i := i * 3 + 2) (by omega)
  rw [this, if_neg (by omega)]

/-- Is nm among the first n names? -/
def isIn (S : Nat → ByteArray) (nm : ByteArray) : Nat → Bool
  | 0 => false
  | n + 1 => isIn S nm n || (S n).toList == nm.toList

theorem isIn_at {S : Nat → ByteArray} {nm : ByteArray} {n i : Nat} (hi : i < n) (h : ((S i).toList == nm.toList) = true) : isIn S nm n = true := by
  induction n with
  | zero => omega
  | succ n ih =>
    rw [isIn]
    by_cases e : i = n
    · subst e; rw [h, Bool.or_true]
    · rw [ih (by omega)]; rfl

theorem row3_set {wr : World} {b : Nat} {t : TypeId} {f : Nat → Value} (h : wr.rowIs b t 3 f) (x y z : ByteArray) :
    (((wr.setCell ⟨b, 0, none⟩ (.string x)).setCell ⟨b, 1, none⟩ (.string y)).setCell ⟨b, 2, none⟩ (.string z)).rowIs b t 3 (fun i => if i = 2 then .string z else if i = 1 then .string y else if i = 0 then .string x else f i) :=
  ((h.set 0 _).set 1 _).set 2 _

set_option maxHeartbeats 800000 in
set_option maxRecDepth 100000 in
theorem member_any (period tmin : Int) (mode root nm : ByteArray) (M n : Nat) (S : Nat → ByteArray) (w : World) (h : Mem w M n S) (hn : n ≤ 1024) :
    Calls Ybaf.prog 5 #[.agg #[.int .i64 period, .string mode, .string root, .int .i64 tmin, .slice (some ⟨M, 0, none⟩) n n, .pointer none, .slice none 0 0], .string nm] w
      fun e w' => ∃ a b c : ByteArray, e = .returned (.tuple #[.agg #[.string a, .string b, .string c], .bool (isIn S nm n)]) ∧ Below w.heap.size w w' := by
  have hM := World.rowIs.lt h
  have H := hideP h
  clear h
  go_enter Ybaf.func5, Ybaf.ntmps5
  go_wp2_with fail
  go_loopw [11] (fun s11 wr => ∃ i : Nat, s11 = .int .i64 i ∧ i ≤ n ∧ isIn S nm i = false ∧ Below w.heap.size w wr ∧ w.heap.size + 2 ≤ wr.heap.size ∧ wr.rowIs (w.heap.size + 1) 29 3 (fun _ => .string ⟨#[]⟩)) (fun s11 _ => n - (intOf s11).toNat)
  case atStart =>
    refine ⟨0, rfl, Nat.zero_le _, rfl, ((Below.refl _ _).alloc (Nat.le_refl _) _).alloc (by simp) _, by simp, ?_⟩
    have := World.rowIs_alloc (w.alloc (.cells #[.int .i64 period, .string mode, .string root, .int .i64 tmin, .slice (some ⟨M, 0, none⟩) n n, .pointer none, .slice none 0 0] 33)) #[.string ⟨#[]⟩, .string ⟨#[]⟩, .string ⟨#[]⟩] 29 (fun _ => .string ⟨#[]⟩) (fun i hi => by
      have : i = 0 ∨ i = 1 ∨ i = 2 := by simp at hi; omega
      rcases this with rfl | rfl | rfl <;> rfl)
    rw [nblk_alloc] at this
    exact this
  case round =>
    obtain ⟨i, rfl, hin, hno, hbel, hsz, hrow⟩ := hrel
    have r0 := hrow.cell (i := 0) (by omega)
    have r1 := hrow.cell (i := 1) (by omega)
    have r2 := hrow.cell (i := 2) (by omega)
    have f0 := hrow.frozen 0
    have f1 := hrow.frozen 1
    have f2 := hrow.frozen 2
    have hsz1 : w.heap.size + 1 < wr.heap.size := by omega
    by_cases hlt : i < n
    · have hm : Mem wr M n S := World.rowIs.of_block H.out (hbel.block M hM)
      have c0 := hm.c0 hlt
      have c1 := hm.c1 hlt
      have c2 := hm.c2 hlt
      have HF := hideP (And.intro hbel hrow)
      have hMw : M < wr.heap.size := by omega
      clear hm hbel hrow
      cases heq : ((S i).toList == nm.toList) with
      | true =>
        have hin2 := isIn_at hlt heq
        go_wp2_with fail
        have hW := row3_set HF.out.2 (S i) ⟨#[]⟩ ⟨#[]⟩
        have hBW := HF.out.1.setCell (p := ⟨w.heap.size + 1, 0, none⟩) (by simp) (.string (S i)) |>.setCell (p := ⟨w.heap.size + 1, 1, none⟩) (by simp) (.string ⟨#[]⟩) |>.setCell (p := ⟨w.heap.size + 1, 2, none⟩) (by simp) (.string ⟨#[]⟩)
        generalize ((wr.setCell ⟨w.heap.size + 1, 0, none⟩ (.string (S i))).setCell ⟨w.heap.size + 1, 1, none⟩ (.string ⟨#[]⟩)).setCell ⟨w.heap.size + 1, 2, none⟩ (.string ⟨#[]⟩) = W at hW hBW ⊢
        have hl := hW.lt
        have q0 := hW.cell (i := 0) (by omega)
        have q1 := hW.cell (i := 1) (by omega)
        have q2 := hW.cell (i := 2) (by omega)
        simp at q0 q1 q2
        refine bodyPost_ret (v := .tuple #[.agg #[.string (S i), .string ⟨#[]⟩, .string ⟨#[]⟩], .bool true]) (by simp [results, Ybaf.results5, go_sem, q0, q1, q2, hl]) rfl ⟨S i, ⟨#[]⟩, ⟨#[]⟩, by rw [hin2], hBW.alloc (by omega) _⟩
      | false =>
        go_wp2_with fail
        go_roundw
        case rel =>
          refine ⟨i + 1, by go_num, by omega, by rw [isIn, hno, heq]; rfl, HF.out.1.alloc (by omega) _, by simp; omega, HF.out.2.alloc _⟩
        case measure => simp [intOf]; omega
    · obtain rfl : i = n := by omega
      have HF := hideP (And.intro hbel hrow)
      clear hbel hrow
      go_wp2_with fail
      have hW := row3_set HF.out.2 ⟨#[]⟩ ⟨#[]⟩ ⟨#[]⟩
      have hBW := HF.out.1.setCell (p := ⟨w.heap.size + 1, 0, none⟩) (by simp) (.string ⟨#[]⟩) |>.setCell (p := ⟨w.heap.size + 1, 1, none⟩) (by simp) (.string ⟨#[]⟩) |>.setCell (p := ⟨w.heap.size + 1, 2, none⟩) (by simp) (.string ⟨#[]⟩)
      generalize ((wr.setCell ⟨w.heap.size + 1, 0, none⟩ (.string ⟨#[]⟩)).setCell ⟨w.heap.size + 1, 1, none⟩ (.string ⟨#[]⟩)).setCell ⟨w.heap.size + 1, 2, none⟩ (.string ⟨#[]⟩) = W at hW hBW ⊢
      have hl := hW.lt
      have q0 := hW.cell (i := 0) (by omega)
      have q1 := hW.cell (i := 1) (by omega)
      have q2 := hW.cell (i := 2) (by omega)
      simp at q0 q1 q2
      refine bodyPost_ret (v := .tuple #[.agg #[.string ⟨#[]⟩, .string ⟨#[]⟩, .string ⟨#[]⟩], .bool false]) (by simp [results, Ybaf.results5, go_sem, q0, q1, q2, hl]) rfl ⟨⟨#[]⟩, ⟨#[]⟩, ⟨#[]⟩, by rw [hno], hBW⟩

end Go.Proofs.YbulkcgmwFmt.Du
