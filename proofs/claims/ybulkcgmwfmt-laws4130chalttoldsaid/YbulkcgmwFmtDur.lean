import Derived.Test.YbulkcgmwFmtRows
import Derived.WalkKit
import Derived.WalkSpells
import Derived.WalkLawsBesides
import Derived.Below
import Derived.Deep.OwnRows
import Derived.BigQuiet
namespace Go.Proofs.YbulkcgmwFmt.Du
open Go.RowKit Go.Deep
set_option linter.unusedVariables false
set_option linter.unusedSimpArgs false

theorem hideP {p : Prop} (h : p) : Hid p := h

/-- The buffer of 32 bytes at block b. -/
def Buf (w : World) (b : Nat) : Prop := ∃ q : Nat → Int, (∀ i, 0 ≤ q i ∧ q i ≤ 255) ∧ w.rowIs b 48 32 (fun i => .int .u8 (q i))

theorem Buf.set {w : World} {b : Nat} (h : Buf w b) (i : Nat) (x : Int) (h0 : 0 ≤ x) (h1 : x ≤ 255) : Buf (w.setCell ⟨b, i, none⟩ (.int .u8 x)) b := by
  obtain ⟨q, hq, hr⟩ := h
  refine ⟨fun j => if j = i then x else q j, fun j => ?_, (hr.set i _).congr fun j _ => ?_⟩
  · show 0 ≤ (if j = i then x else q j) ∧ (if j = i then x else q j) ≤ 255
    split
    · exact ⟨h0, h1⟩
    · exact hq j
  · show (if j = i then Value.int .u8 x else .int .u8 (q j)) = .int .u8 (if j = i then x else q j)
    split <;> rfl

theorem Buf.lt {w : World} {b : Nat} (h : Buf w b) : b < w.heap.size := by obtain ⟨q, _, hr⟩ := h; exact hr.lt
theorem Buf.frozen {w : World} {b : Nat} (h : Buf w b) (i : Nat) : w.frozen? ⟨b, i, none⟩ = false := by obtain ⟨q, _, hr⟩ := h; exact hr.frozen i
theorem Buf.cell {w : World} {b : Nat} (h : Buf w b) (i : Nat) (hi : i < 32) : ∃ x : Int, w.cell? ⟨b, i, none⟩ = some (.int .u8 x) := by obtain ⟨q, _, hr⟩ := h; exact ⟨_, hr.cell hi⟩

set_option maxHeartbeats 800000 in
set_option maxRecDepth 100000 in
/-- time.fmtInt: it writes at most k digits. -/
theorem fmtInt_any (B b n cap k : Nat) (v : Nat) (w : World) (hB : B ≤ b) (h : Buf w b) (hn : n ≤ 32) (hk : k ≤ n) (hk1 : 1 ≤ k) (hv : v < 10 ^ k) (hk19 : k ≤ 19) :
    Calls Ybaf.prog 14 #[.slice (some ⟨b, 0, none⟩) n cap, .int .u64 v] w fun e w' => ∃ m : Nat, e = .returned (.int .i64 m) ∧ n ≤ m + k ∧ m ≤ n ∧ Below B w w' ∧ Buf w' b := by
  have hv64 : v < 18446744073709551616 := Nat.lt_of_lt_of_le hv (Nat.le_trans (Nat.pow_le_pow_right (by omega) hk19) (by decide))
  by_cases h0 : v = 0
  · subst h0
    obtain ⟨x, hx⟩ := h.cell (n - 1) (by omega)
    have hf := h.frozen (n - 1)
    have hB' := h.lt
    have H := hideP h
    clear h hv
    obtain ⟨j, rfl⟩ : ∃ j, n = j + 1 := ⟨n - 1, by omega⟩
    simp only [Nat.add_sub_cancel] at *
    go_enter Ybaf.func14, Ybaf.ntmps14
    go_wp2_with fail
    go_ret
    exact ⟨j, rfl, by omega, by omega, Below.setCell (Below.refl _ _) (p := ⟨b, j, none⟩) hB _, H.out.set _ _ (by omega) (by omega)⟩
  · have hv0 : decide ((v : Int) = 0) = false := by simp; omega
    have H := hideP h
    clear h
    go_enter Ybaf.func14, Ybaf.ntmps14
    go_wp2_with fail
    go_loopw [1, 5] (fun s1 s5 wr => ∃ vi wi r : Nat, s1 = .int .u64 vi ∧ s5 = .int .i64 wi ∧ r ≤ k ∧ vi < 10 ^ r ∧ n + r ≤ wi + k ∧ wi ≤ n ∧ Below B w wr ∧ Buf wr b) (fun s1 _ _ => (intOf s1).toNat)
    case atStart => exact ⟨v, n, k, rfl, rfl, Nat.le_refl _, hv, Nat.le_refl _, Nat.le_refl _, Below.refl _ _, H.out⟩
    case round =>
      obtain ⟨vi, wi, r, rfl, rfl, hr, hvi, hw, hwn, hbel, hbuf⟩ := hrel
      clear hv H
      by_cases hz : vi = 0
      · subst hz
        have HF := hideP (And.intro hbel hbuf)
        clear hbel hbuf hvi
        go_wp2_with fail
        go_ret
        exact ⟨wi, rfl, by omega, hwn, HF.out.1, HF.out.2⟩
      · obtain ⟨r', rfl⟩ : ∃ r', r = r' + 1 := ⟨r - 1, by
          rcases r with _ | r
          · simp at hvi; omega
          · rfl⟩
        have hvi' : vi / 10 < 10 ^ r' := by
          rw [Nat.pow_succ] at hvi
          omega
        have hv64' : vi < 18446744073709551616 := Nat.lt_of_lt_of_le hvi (Nat.le_trans (Nat.pow_le_pow_right (by omega) (Nat.le_trans hr hk19)) (by decide))
        obtain ⟨j, rfl⟩ : ∃ j, wi = j + 1 := ⟨wi - 1, by omega⟩
        obtain ⟨x, hx⟩ := hbuf.cell j (by omega)
        have hf := hbuf.frozen j
        have hlt := hbuf.lt
        have HF := hideP (And.intro hbel hbuf)
        clear hbel hbuf hvi
        have hpos : decide ((0 : Int) < (vi : Int)) = true := by simp; omega
        go_wp2_with fail
        go_roundw
        case rel =>
          refine ⟨vi / 10, j, r', by go_num, by go_num, by omega, hvi', by omega, by omega, ?_, ?_⟩
          · exact HF.out.1.setCell (p := ⟨b, j, none⟩) hB _
          · exact HF.out.2.set _ _ (by omega) (by omega)
        case measure => simp [intOf]; omega

set_option maxHeartbeats 800000 in
set_option maxRecDepth 100000 in
/-- time.fmtFrac: it writes at most p digits and a point. -/
theorem fmtFrac_any (B b n cap p : Nat) (v : Nat) (w : World) (hB : B ≤ b) (h : Buf w b) (hn : n ≤ 32) (hp : p + 1 ≤ n) (hv : v < 18446744073709551616) :
    Calls Ybaf.prog 13 #[.slice (some ⟨b, 0, none⟩) n cap, .int .u64 v, .int .i64 p] w fun e w' => ∃ m : Nat, e = .returned (.tuple #[.int .i64 m, .int .u64 (v / 10 ^ p : Nat)]) ∧ n ≤ m + p + 1 ∧ m ≤ n ∧ Below B w w' ∧ Buf w' b := by
  have H := hideP h
  clear h
  go_enter Ybaf.func13, Ybaf.ntmps13
  go_wp2_with fail
  go_loopw [1, 8, 9, 10] (fun s1 s8 s9 s10 wr => ∃ (wi i : Nat) (pr : Bool), s1 = .int .u64 (v / 10 ^ i : Nat) ∧ s8 = .int .i64 wi ∧ s9 = .bool pr ∧ s10 = .int .i64 i ∧ i ≤ p ∧ n ≤ wi + i ∧ wi ≤ n ∧ Below B w wr ∧ Buf wr b) (fun _ _ _ s10 _ => p - (intOf s10).toNat)
  case atStart => exact ⟨n, 0, false, by simp, rfl, rfl, rfl, by omega, by omega, by omega, Below.refl _ _, H.out⟩
  case round =>
    obtain ⟨wi, i, pr, rfl, rfl, rfl, rfl, hip, hw, hwn, hbel, hbuf⟩ := hrel
    clear H
    have hvi : v / 10 ^ i < 18446744073709551616 := Nat.lt_of_le_of_lt (Nat.div_le_self _ _) hv
    have hnext : v / 10 ^ i / 10 = v / 10 ^ (i + 1) := by rw [Nat.div_div_eq_div_mul, Nat.pow_succ]
    by_cases hlt : i < p
    · have hlt' : decide ((i : Int) < (p : Int)) = true := by simp; omega
      obtain ⟨j, hj⟩ : ∃ j, wi = j + 1 := ⟨wi - 1, by omega⟩
      subst hj
      obtain ⟨x, hx⟩ := hbuf.cell j (by omega)
      have hf := hbuf.frozen j
      have hbl := hbuf.lt
      have HF := hideP (And.intro hbel hbuf)
      clear hbel hbuf
      generalize v / 10 ^ i = vi at *
      have HN := hideP hnext
      clear hnext
      have hdd : decide ((vi : Int) % 10 = 0) = decide (vi % 10 = 0) := by congr 1; exact propext ⟨fun h => by omega, fun h => by omega⟩
      cases pr with
      | true =>
        go_wp2_with fail
        go_roundw
        case rel =>
          refine ⟨j, i + 1, true, by rw [← HN.out]; go_num, by go_num, rfl, by go_num, by omega, by omega, by omega, ?_, ?_⟩
          · exact HF.out.1.setCell (p := ⟨b, j, none⟩) hB _
          · exact HF.out.2.set _ _ (by omega) (by omega)
        case measure => simp [intOf]; omega
      | false =>
        by_cases hz : vi % 10 = 0
        · have hz1 : decide ((vi : Int) % 10 = 0) = true := by simp; omega
          have hz2 : (vi : Int) % 10 = 0 := by omega
          clear hdd
          go_wp2_with fail
          go_roundw
          case rel =>
            refine ⟨j + 1, i + 1, false, by rw [← HN.out]; go_num, by go_num, rfl, by go_num, by omega, by omega, by omega, HF.out.1, HF.out.2⟩
          case measure => simp [intOf]; omega
        · have hz1 : decide ((vi : Int) % 10 = 0) = false := by simp; omega
          have hz2 : ¬ (vi : Int) % 10 = 0 := by omega
          clear hdd
          go_wp2_with fail
          go_roundw
          case rel =>
            refine ⟨j, i + 1, true, by rw [← HN.out]; go_num, by go_num, by simp [hz2], by go_num, by omega, by omega, by omega, ?_, ?_⟩
            · exact HF.out.1.setCell (p := ⟨b, j, none⟩) hB _
            · exact HF.out.2.set _ _ (by omega) (by omega)
          case measure => simp [intOf]; omega
    · have hlt' : decide ((i : Int) < (p : Int)) = false := by simp; omega
      obtain rfl : i = p := by omega
      obtain ⟨j, hj⟩ : ∃ j, wi = j + 1 ∨ wi = 0 := ⟨wi - 1, by omega⟩
      have HF := hideP (And.intro hbel hbuf)
      cases pr with
      | false =>
        clear hbel hbuf
        go_wp2_with fail
        go_ret2
        exact ⟨wi, rfl, by omega, by omega, HF.out.1, HF.out.2⟩
      | true =>
        obtain ⟨j, hj⟩ : ∃ j, wi = j + 1 := ⟨wi - 1, by omega⟩
        subst hj
        obtain ⟨x, hx⟩ := hbuf.cell j (by omega)
        have hf := hbuf.frozen j
        have hbl := hbuf.lt
        clear hbel hbuf
        go_wp2_with fail
        go_ret2
        refine ⟨j, rfl, by omega, by omega, ?_, ?_⟩
        · exact HF.out.1.setCell (p := ⟨b, j, none⟩) hB _
        · exact HF.out.2.set _ _ (by omega) (by omega)

end Go.Proofs.YbulkcgmwFmt.Du
