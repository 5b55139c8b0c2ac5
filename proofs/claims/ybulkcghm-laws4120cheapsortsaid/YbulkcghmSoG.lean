import Derived.Test.YbulkcghmSoF
namespace Go.Proofs.Ybulkcghm.So
open Go.RowKit
open Go.Sort (swp size_swp ltInt)
set_option linter.unusedVariables false

theorem Row.of_bx {w : World} {g off n : Nat} {d : Array Int} {wx wy : World} (h : Row w g off n d wx) {sp : Nat} {t : TypeId} {v : Value} (hb : Bx wx sp t v wy) (hsp : w.heap.size ≤ sp) (hg : g < wx.heap.size) (hgs : g ≠ sp) : Row w g off n d wy :=
  ⟨hb.os.trans h.os, hb.tape.trans h.tape, hb.output.trans h.output, Nat.le_trans h.size hb.size, fun k hk hn => (hb.block k (Nat.lt_of_lt_of_le hk h.size) (by omega)).trans (h.block k hk hn), h.len,
    fun j hj => (World.cell?_of_block (w := wx) (hb.block g hg hgs)).trans (h.cell j hj), fun j hj => (World.frozen?_of_block (w := wx) (hb.block g hg hgs)).trans (h.free j hj)⟩

theorem Bx.self {sp : Nat} {t : TypeId} {v : Value} {wx : World} (h : wx.heap[sp]? = some (.cells #[v] t)) : Bx wx sp t v wx := ⟨rfl, rfl, rfl, Nat.le_refl _, fun _ _ _ => rfl, h⟩

/-- The rounds of breakPatterns. -/
def bpN (a l M idx : Nat) (d : Array Int) : Nat → UInt64 × Array Int
  | 0 => (UInt64.ofNat l, d)
  | m + 1 => Go.Sort.breakStep a l M (bpN a l M idx d m) (idx + m)

theorem bp_eq (d : Array Int) (a l : Nat) (h : 8 ≤ l) : Go.Sort.breakPatterns d a (a + l) = (bpN a l (1 <<< Go.Sort.bitsLen l) (a + l / 4 * 2 - 1) d 3).2 := by
  unfold Go.Sort.breakPatterns
  simp only [show a + l - a = l by omega, ge_iff_le, if_pos h]
  rfl

theorem other_lt (x : UInt64) (l : Nat) (h : 8 ≤ l) (hl : l ≤ 1024) : (x.toNat &&& ((1 <<< Go.Sort.bitsLen l) - 1)) < 2 * l ∧ (1 <<< Go.Sort.bitsLen l) ≤ 2048 ∧ 1 ≤ (1 <<< Go.Sort.bitsLen l) := by
  have h1 := Go.Sort.two_pow_bitsLen_le (n := l) (by omega)
  have h2 : 0 < 2 ^ Go.Sort.bitsLen l := Nat.pow_pos (by omega)
  rw [Nat.shiftLeft_eq, Nat.one_mul]
  have h3 : x.toNat &&& (2 ^ Go.Sort.bitsLen l - 1) ≤ 2 ^ Go.Sort.bitsLen l - 1 := Nat.and_le_right
  omega

theorem cell_set_some {w : World} {p q : Addr} {x v : Value} (h : w.cell? q = some v) : ∃ v', (w.setCell p x).cell? q = some v' := by
  by_cases e : p = q
  · subst e; exact ⟨x, World.cell?_setCell_same _ _ _ h⟩
  · exact ⟨v, (World.cell?_setCell_other _ _ _ _ e).trans h⟩

set_option maxHeartbeats 2000000 in
set_option maxRecDepth 100000 in
theorem break_u (g off n cap a b : Nat) (d : Array Int) (w : World) (hR : Row w g off n d w) (hg : g < w.heap.size) (hab : a + 12 < b) (hb : b ≤ n) (hn : n ≤ 1024) :
    Calls Yba.prog 58 #[.slice (some ⟨g, off, none⟩) n cap, .int .i64 a, .int .i64 b] w fun e w' => e = .returned (.tuple #[]) ∧ Row w g off n (Go.Sort.breakPatterns d a b) w' := by
  obtain ⟨l, rfl⟩ : ∃ l, b = a + l := ⟨b - a, by omega⟩
  rw [bp_eq d a l (by omega)]
  have ha2 : a ≤ 1024 := by omega
  have hl2 : l ≤ 1024 := by omega
  have HOT := hideP (fun x => other_lt x l (by omega) hl2)
  have HP := hideP (power_u l)
  have hM := (other_lt 0 l (by omega) hl2).2
  generalize 1 <<< Go.Sort.bitsLen l = M at *
  obtain ⟨hM1, hM0⟩ := hM
  obtain ⟨idx, hidx⟩ : ∃ idx, a + l / 4 * 2 - 1 = idx := ⟨_, rfl⟩
  rw [hidx]
  have e0 : (a : Int) + (l : Int) - (a : Int) = (l : Int) := by omega
  have e1 : (a : Int) + (l : Int) / 4 * 2 - 1 = (idx : Int) := by omega
  have e2 : (a : Int) + (l : Int) / 4 * 2 + 1 = (idx : Int) + 2 := by omega
  have HE := hideP (And.intro e0 (And.intro e1 e2))
  have hi2 : idx + 2 < n := by omega
  clear e0 e1 e2 hidx
  have HR := hideP hR
  clear hR
  have t8 : decide ((8 : Int) ≤ (l : Int)) = true := by simp; omega
  go_enter Yba.func58, Yba.ntmps58
  go_upto_region 1 with (fail)
  simp only [HE.out.1]
  go_wp2_with (go_at_call 84; refine (HP.out _ hl2).mono ?_; rintro e w1 ⟨rfl, rfl⟩)
  simp only [HE.out.2.1]
  go_loopw [9] (fun vi wr => ∃ m : Nat, vi = .int .i64 ((idx : Int) + (m : Int)) ∧ m ≤ 3 ∧ Row w g off n (bpN a l M idx d m).2 wr ∧ wr.heap[w.heap.size]? = some (.cells #[.int .u64 ((bpN a l M idx d m).1.toNat : Int)] 156)) (fun vi _ => (idx + 4) - (intOf vi).toNat)
  case atStart =>
    refine ⟨0, by simp, by omega, ?_, ?_⟩
    · have h := HR.out
      exact ⟨rfl, rfl, rfl, by simp, fun k hk _ => Below.heap_alloc _ _ _ hk, h.len, fun j hj => (World.cell?_of_block (w := w) (Below.heap_alloc _ _ _ hg)).trans (h.cell j hj), fun j hj => (World.frozen?_of_block (w := w) (Below.heap_alloc _ _ _ hg)).trans (h.free j hj)⟩
    · have e : ((bpN a l M idx d 0).1.toNat : Int) = (l : Int) := by
        show ((UInt64.ofNat l).toNat : Int) = _
        rw [UInt64.toNat_ofNat']
        omega
      rw [e]
      show (w.heap.push _)[w.heap.size]? = _
      rw [Array.getElem?_push, if_pos rfl]
  case round =>
    clear HR HP t8
    obtain ⟨m, rfl, hm, hRk, hbx⟩ := hrel
    have hgr : g < wr.heap.size := Nat.lt_of_lt_of_le hg hRk.size
    by_cases hm3 : m ≤ 2
    · have tt : decide ((idx : Int) + (m : Int) ≤ (a : Int) + (l : Int) / 4 * 2 + 1) = true := by have := HE.out.2.2; simp; omega
      obtain ⟨x, hx⟩ : ∃ x, x = (bpN a l M idx d m).1 := ⟨_, rfl⟩
      obtain ⟨dk, hdk⟩ : ∃ x, x = (bpN a l M idx d m).2 := ⟨_, rfl⟩
      have HX := hideP (And.intro hx hdk)
      rw [← hx] at hbx
      rw [← hdk] at hRk
      have HN := hideP (next_u w.heap.size x wr wr (Bx.self hbx))
      obtain ⟨G, hG⟩ : ∃ G : Nat → Int, ∀ t, G t = dk[t]! := ⟨fun t => dk[t]!, fun _ => rfl⟩
      have HG := hideP hG
      obtain ⟨o0, ho0⟩ : ∃ o0, (Go.Sort.xorNext x).toNat &&& (M - 1) = o0 := ⟨_, rfl⟩
      have HO := hideP ho0
      have ho2 := (HOT.out (Go.Sort.xorNext x)).1
      rw [ho0] at ho2
      have hand : bits .and .u64 ((Go.Sort.xorNext x).toNat : Int) ((M : Int) - 1) = (o0 : Int) := by
        have hlt : (Go.Sort.xorNext x).toNat < 18446744073709551616 := (Go.Sort.xorNext x).toNat_lt
        rw [u64_and _ _ (by omega) (by omega) (by omega) (by omega), Int.toNat_natCast, show ((M : Int) - 1).toNat = M - 1 by omega, ho0]
      have hoI : (o0 : Int) ≤ 2048 := by omega
      have hoI0 : (0 : Int) ≤ (o0 : Int) := by omega
      have HRk := hideP hRk
      clear hx hdk hRk hbx hG ho0 HOT HE
      go_wp2_with fail
      refine Calls.mono HN.out ?_
      rintro e w2 ⟨rfl, hB2⟩
      have HB2 := hideP hB2
      have hR2 := HRk.out.of_bx hB2 (Nat.le_refl _) hgr (by omega)
      have hc : ∀ t, t < n → w2.cell? ⟨g, off + t, none⟩ = some (.int .u64 (G t)) := fun t ht => by rw [HG.out]; exact hR2.cell t ht
      have hf : ∀ t, t < n → w2.frozen? ⟨g, off + t, none⟩ = false := hR2.free
      have HR2 := hideP hR2
      clear hB2 hR2 HN HRk
      by_cases hol : l ≤ o0
      · have tl : decide ((l : Int) ≤ (o0 : Int)) = true := by simp; omega
        have j1 : (idx : Int) + (m : Int) < (n : Int) := by omega
        have j2 : (a : Int) + ((o0 : Int) - (l : Int)) < (n : Int) := by omega
        have j3 : (0 : Int) ≤ ((o0 : Int) - (l : Int)) := by omega
        obtain ⟨v', hy'⟩ := cell_set_some (w := w2) (p := ⟨g, off + (idx + m), none⟩) (x := .int .u64 (G (a + (o0 - l)))) (hc (a + (o0 - l)) (by omega))
        have h1 := HR2.out.swap (idx + m) (a + (o0 - l)) (by omega) (by omega)
        simp only [← HG.out] at h1
        have H1 := hideP h1
        clear h1
        go_wp2_with fail
        go_region
        go_wp2_with fail
        go_roundw
        case rel =>
          refine ⟨m + 1, by go_num, by omega, ?_, ?_⟩
          · have e : (bpN a l M idx d (m + 1)).2 = swp dk (idx + m) (a + (o0 - l)) := by
              show (Go.Sort.breakStep a l M (bpN a l M idx d m) (idx + m)).2 = _
              unfold Go.Sort.breakStep
              simp only [← HX.out.1, ← HX.out.2]
              rw [HO.out, if_pos (by omega)]
            rw [e]
            exact H1.out.drew
          · have e : (bpN a l M idx d (m + 1)).1 = Go.Sort.xorNext x := by
              show (Go.Sort.breakStep a l M (bpN a l M idx d m) (idx + m)).1 = _
              unfold Go.Sort.breakStep
              rw [← HX.out.1]
            rw [e]
            exact (Below.heap_setCell _ _ _ _ (show w.heap.size ≠ g by omega)).trans ((Below.heap_setCell _ _ _ _ (show w.heap.size ≠ g by omega)).trans HB2.out.box)
        case measure => simp [intOf]; omega
      · have tl : decide ((l : Int) ≤ (o0 : Int)) = false := by simp; omega
        have j1 : (idx : Int) + (m : Int) < (n : Int) := by omega
        have j2 : (a : Int) + ((o0 : Int)) < (n : Int) := by omega
        have j3 : (0 : Int) ≤ ((o0 : Int)) := by omega
        obtain ⟨v', hy'⟩ := cell_set_some (w := w2) (p := ⟨g, off + (idx + m), none⟩) (x := .int .u64 (G (a + (o0)))) (hc (a + (o0)) (by omega))
        have h1 := HR2.out.swap (idx + m) (a + (o0)) (by omega) (by omega)
        simp only [← HG.out] at h1
        have H1 := hideP h1
        clear h1
        go_wp2_with fail
        go_region
        go_wp2_with fail
        go_roundw
        case rel =>
          refine ⟨m + 1, by go_num, by omega, ?_, ?_⟩
          · have e : (bpN a l M idx d (m + 1)).2 = swp dk (idx + m) (a + (o0)) := by
              show (Go.Sort.breakStep a l M (bpN a l M idx d m) (idx + m)).2 = _
              unfold Go.Sort.breakStep
              simp only [← HX.out.1, ← HX.out.2]
              rw [HO.out, if_neg (by omega)]
            rw [e]
            exact H1.out.drew
          · have e : (bpN a l M idx d (m + 1)).1 = Go.Sort.xorNext x := by
              show (Go.Sort.breakStep a l M (bpN a l M idx d m) (idx + m)).1 = _
              unfold Go.Sort.breakStep
              rw [← HX.out.1]
            rw [e]
            exact (Below.heap_setCell _ _ _ _ (show w.heap.size ≠ g by omega)).trans ((Below.heap_setCell _ _ _ _ (show w.heap.size ≠ g by omega)).trans HB2.out.box)
        case measure => simp [intOf]; omega
    · have hm4 : m = 3 := by omega
      subst hm4
      have tt : decide ((idx : Int) + ((3 : Nat) : Int) ≤ (a : Int) + (l : Int) / 4 * 2 + 1) = false := by have := HE.out.2.2; simp; omega
      have tt' : decide ((idx : Int) + 3 ≤ (a : Int) + (l : Int) / 4 * 2 + 1) = false := by have := HE.out.2.2; simp; omega
      have HRk := hideP hRk
      clear hRk hbx
      go_wp2_with fail
      go_end0
      exact ⟨rfl, HRk.out⟩

end Go.Proofs.Ybulkcghm.So
