import Derived.Test.YbulkcghmChk
namespace Go.Proofs.Ybulkcghm.Bk
open Go.RowKit Go.Deep
open Go.Proofs.Ybulkcghm.Flt (F)
open Go.Proofs.Ybulkcghm.Avl
open Go.Proofs.Ybulkcghm.Srt
set_option linter.unusedVariables false

theorem Tree.goal {N : Nat → Nd} {root n : Nat} {ts : Nat → Int} (h : Tree N root n ts) (hn : n ≤ 1024) : Goal N root (n + 1) (ord ts n) := by
  have hm := fun i => (mem_ord ts n i).1
  refine ⟨h.tree, ⟨h.z, by omega, fun j hj => by have := hm j hj; omega, fun j hj => ?_, by rw [length_ord]; exact hn⟩, fun j hj => h.id j (hm j hj).1 (hm j hj).2, fun j hj => h.tok j (hm j hj).1 (hm j hj).2⟩
  have := hm j hj
  rw [h.tok j this.1 this.2]; omega

/-- The check behind n inserts. -/
theorem check_all (B p n gw : Nat) (ts : Nat → Int) (w0 w : World) (hn : n ≤ 1024) (h : St B w0 w p n ts) (hr : w.rowIs gw 28 n (fun i => .int .u64 ((ord ts n).getD i 0 : Nat))) :
    Calls Yba.prog 16 #[.pointer (some ⟨p, 0, none⟩), .slice (some ⟨gw, 0, none⟩) n n] w fun e w' => e = .returned (.bool true) ∧ Below w.heap.size w w' := by
  obtain ⟨hB, hBp, ⟨rfl, hh⟩ | ⟨hpos, g, cap, N, root, hH, hT, hc, hg, tr⟩⟩ := h
  · exact check_nil p 0 _ w hh
  · have hl := length_ord ts n
    have hW : Wants w (some ⟨gw, 0, none⟩) (ord ts n) := fun i hi => ⟨gw, 0, hr.lt, rfl, fun j hj => by rw [Nat.zero_add]; exact hr.cell (by omega)⟩
    have := check_pos p g (n + 1) cap root 0 n (some ⟨gw, 0, none⟩) N (ord ts n) w hT hH (by omega) (tr.goal hn) hW
    rw [hl] at this
    exact this

theorem St.below {B : Nat} {w0 w w' : World} {p n : Nat} {ts : Nat → Int} (h : St B w0 w p n ts) (hb : Below w.heap.size w w') (hB : B ≤ w.heap.size) : St B w0 w' p n ts := by
  obtain ⟨hB', hBp, ⟨rfl, hh⟩ | ⟨hpos, g, cap, N, root, hH, hT, hc, hg, tr⟩⟩ := h
  · have hpl : p < w.heap.size := (Array.getElem?_eq_some_iff.1 hh).1
    exact ⟨hB'.trans (hb.mono hB), hBp, .inl ⟨rfl, by rw [hb.block p hpl]; exact hh⟩⟩
  · have hpl := hH.lt
    refine ⟨hB'.trans (hb.mono hB), hBp, .inr ⟨hpos, g, cap, N, root, ?_, hT.of_block (hb.block g hT.lt), hc, hg, tr⟩⟩
    unfold Hdr
    rw [hb.block p hpl]; exact hH

theorem Reads.below {w w' : World} {a0 : Option Addr} {len : Nat} {Z : Nat → Int} (h : Reads w a0 len Z) (hb : Below w.heap.size w w') : Reads w' a0 len Z := fun i hi => by
  obtain ⟨b, off, h1, h2, h3⟩ := h i hi
  exact ⟨b, off, Nat.lt_of_lt_of_le h1 hb.size, h2, fun j hj => by rw [hb.cell (p := ⟨b, off + j, none⟩) h1]; exact h3 j hj⟩

set_option maxHeartbeats 2000000 in
set_option maxRecDepth 100000 in
theorem lawI_short (a0 : Option Addr) (len cap : Nat) (Z : Nat → Int) (w : World) (hl : len ≤ 1024) (hc : Reads w a0 len Z) (hZ : ∀ i, -128 ≤ Z i ∧ Z i ≤ 127) :
    Calls Yba.prog 6 #[.slice a0 len cap] w fun e w' => e = .returned (.bool true) ∧ Below w.heap.size w w' := by
  have hgt : decide ((1024 : Int) < (len : Int)) = false := by simp; omega
  have HC := hideP hc
  clear hc
  go_enter Yba.func6, Yba.ntmps6
  go_wp2_with fail
  refine (build_any a0 len cap Z w hl HC.out hZ).mono ?_
  rintro e w1 ⟨rfl, S1⟩
  have HS1 := hideP S1
  have hb1 := S1.1
  clear S1
  go_wp2_with fail
  refine (order_any a0 len cap Z w1 hl (HC.out.below hb1) hZ).mono ?_
  rintro e w2 ⟨gw, rfl, hgw, hb2, hr⟩
  have S2 := HS1.out.below hb2 hb1.size
  have hb12 := hb1.trans (hb2.mono hb1.size)
  clear HS1 hb1
  have HK := hideP (check_all w.heap.size w.heap.size len gw Z w w2 hl S2 hr)
  clear S2 hr
  go_wp2_with fail
  refine Calls.mono HK.out ?_
  rintro e w3 ⟨rfl, hb3⟩
  have hb := hb12.trans (hb3.mono (Nat.le_trans hb12.size (Nat.le_refl _)))
  clear HK hb3 hb12 hb2
  go_wp2_with fail
  go_ret
  exact ⟨rfl, hb⟩

set_option maxRecDepth 100000 in
theorem lawI_long (a0 : Option Addr) (len cap : Nat) (w : World) (hl : 1024 < len) (hm : len ≤ maxLen) :
    Calls Yba.prog 6 #[.slice a0 len cap] w fun e w' => e = .returned (.bool true) ∧ Below w.heap.size w w' := by
  unfold maxLen at hm
  have hgt : decide ((1024 : Int) < (len : Int)) = true := by simp; omega
  go_enter Yba.func6, Yba.ntmps6
  go_wp2_with fail
  go_ret
  exact ⟨rfl, Below.refl _ _⟩

end Go.Proofs.Ybulkcghm.Bk
