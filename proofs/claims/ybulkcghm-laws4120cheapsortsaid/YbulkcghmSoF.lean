import Derived.Test.YbulkcghmSoD
import Derived.Test.YbulkcghmLen
namespace Go.Proofs.Ybulkcghm.So
open Go.RowKit
open Go.Sort (swp size_swp ltInt)
set_option linter.unusedVariables false

theorem bl (l : Nat) (h : l ≤ 1024) : Lib.bitLen l = Go.Sort.bitsLen l ∧ Go.Sort.bitsLen l ≤ 11 := by
  have key : ∀ i : Fin 1025, Lib.bitLen i.val = Go.Sort.bitsLen i.val ∧ Go.Sort.bitsLen i.val ≤ 11 := by decide +kernel
  exact key ⟨l, by omega⟩

theorem pw (k : Nat) (h : k ≤ 11) : IntKind.u64.wrap ((2 : Int) ^ min k 64) = ((1 <<< k : Nat) : Int) := by
  have key : ∀ i : Fin 12, IntKind.u64.wrap ((2 : Int) ^ min i.val 64) = ((1 <<< i.val : Nat) : Int) := by decide +kernel
  exact key ⟨k, by omega⟩

set_option maxHeartbeats 1000000 in
set_option maxRecDepth 100000 in
theorem power_u (l : Nat) (w : World) (hl : l ≤ 1024) :
    Calls Yba.prog 84 #[.int .i64 l] w fun e w' => e = .returned (.int .u64 ((1 <<< Go.Sort.bitsLen l : Nat) : Int)) ∧ w' = w := by
  have H := hideP (Yba.bits_Len (l : Int) w (by omega) (by omega))
  obtain ⟨b1, b2⟩ := bl l hl
  have hp := hideP (pw _ b2)
  rw [← b1] at hp ⊢
  clear b1 b2
  go_enter Yba.func84, Yba.ntmps84
  go_wp2_with fail
  refine Calls.mono H.out ?_
  rintro e w1 ⟨rfl, rfl⟩
  clear H
  go_wp2_with fail
  go_ret
  exact ⟨by rw [← hp.out]; rfl, rfl⟩

/-- One new box, its value v. -/
structure Bx (w : World) (sp : Nat) (t : TypeId) (v : Value) (wx : World) : Prop where
  os : wx.os = w.os
  tape : wx.tape = w.tape
  output : wx.output = w.output
  size : w.heap.size ≤ wx.heap.size
  block : ∀ k, k < w.heap.size → k ≠ sp → wx.heap[k]? = w.heap[k]?
  box : wx.heap[sp]? = some (.cells #[v] t)

theorem Bx.drew {w : World} {sp : Nat} {t : TypeId} {v : Value} {wx : World} (h : Bx w sp t v wx) : Bx w sp t v wx.drew := ⟨h.os, h.tape, h.output, h.size, h.block, h.box⟩
theorem Bx.set {w : World} {sp : Nat} {t : TypeId} {v : Value} {wx : World} (h : Bx w sp t v wx) (u : Value) : Bx w sp t u (wx.setCell ⟨sp, 0, none⟩ u) :=
  ⟨h.os, h.tape, h.output, by simpa [World.setCell] using h.size, fun k hk hn => (Below.heap_setCell _ _ _ _ hn).trans (h.block k hk hn), by simp [World.setCell, Array.getElem?_modify, h.box]⟩

theorem xl (x : UInt64) (k : UInt64) (m : Int) (hk : k.toNat < 64) (hm : m = ((2 ^ k.toNat : Nat) : Int)) : bits .xor .u64 (x.toNat : Int) (IntKind.u64.wrap ((x.toNat : Int) * m)) = ((x ^^^ (x <<< k)).toNat : Int) := by
  have hx : x.toNat < 18446744073709551616 := x.toNat_lt
  have e : IntKind.u64.wrap ((x.toNat : Int) * m) = ((x.toNat * 2 ^ k.toNat % 18446744073709551616 : Nat) : Int) := by
    rw [IntKind.wrap_u64, hm, ← Int.natCast_mul]; omega
  rw [e, UInt64.toNat_xor, UInt64.toNat_shiftLeft, Nat.mod_eq_of_lt hk, Nat.shiftLeft_eq]
  have hq : x.toNat * 2 ^ k.toNat % 18446744073709551616 < 18446744073709551616 := Nat.mod_lt _ (by omega)
  show _ = ((x.toNat ^^^ (x.toNat * 2 ^ k.toNat % 18446744073709551616) : Nat) : Int)
  generalize x.toNat * 2 ^ k.toNat % 18446744073709551616 = q at *
  rw [u64_xor _ _ (by omega) (by omega) (by omega) (by omega), Int.toNat_natCast, Int.toNat_natCast]
theorem xr (x : UInt64) (k : UInt64) (m : Int) (hk : k.toNat < 64) (hm : m = ((2 ^ k.toNat : Nat) : Int)) : bits .xor .u64 (x.toNat : Int) ((x.toNat : Int) / m) = ((x ^^^ (x >>> k)).toNat : Int) := by
  have hx : x.toNat < 18446744073709551616 := x.toNat_lt
  have e : (x.toNat : Int) / m = ((x.toNat / 2 ^ k.toNat : Nat) : Int) := by rw [hm]; rfl
  have h2 : x.toNat / 2 ^ k.toNat ≤ x.toNat := Nat.div_le_self _ _
  rw [e, UInt64.toNat_xor, UInt64.toNat_shiftRight, Nat.mod_eq_of_lt hk, Nat.shiftRight_eq_div_pow]
  generalize x.toNat / 2 ^ k.toNat = q at *
  rw [u64_xor _ _ (by omega) (by omega) (by omega) (by omega), Int.toNat_natCast, Int.toNat_natCast]

set_option maxHeartbeats 1000000 in
set_option maxRecDepth 100000 in
theorem next_u (sp : Nat) (x : UInt64) (w wx : World) (h : Bx w sp 156 (.int .u64 (x.toNat : Int)) wx) :
    Calls Yba.prog 85 #[.pointer (some ⟨sp, 0, none⟩)] wx fun e w' => e = .returned (.int .u64 ((Go.Sort.xorNext x).toNat : Int)) ∧ Bx w sp 156 (.int .u64 ((Go.Sort.xorNext x).toNat : Int)) w' := by
  have E1 := xl x 13 8192 (by decide) (by decide)
  have E2 := xr (x ^^^ (x <<< 13)) 7 128 (by decide) (by decide)
  have E3 := xl ((x ^^^ (x <<< 13)) ^^^ ((x ^^^ (x <<< 13)) >>> 7)) 17 131072 (by decide) (by decide)
  have e0 : Go.Sort.xorNext x = ((x ^^^ (x <<< 13)) ^^^ ((x ^^^ (x <<< 13)) >>> 7)) ^^^ (((x ^^^ (x <<< 13)) ^^^ ((x ^^^ (x <<< 13)) >>> 7)) <<< 17) := rfl
  rw [e0]
  clear e0
  have hx : (x.toNat : Int) ≤ 18446744073709551615 := by have := x.toNat_lt; omega
  generalize ((x ^^^ (x <<< 13)) ^^^ ((x ^^^ (x <<< 13)) >>> 7)) ^^^ (((x ^^^ (x <<< 13)) ^^^ ((x ^^^ (x <<< 13)) >>> 7)) <<< 17) = x3 at *
  have hx2 : (((x ^^^ (x <<< 13)) ^^^ ((x ^^^ (x <<< 13)) >>> 7)).toNat : Int) ≤ 18446744073709551615 := by have := ((x ^^^ (x <<< 13)) ^^^ ((x ^^^ (x <<< 13)) >>> 7)).toNat_lt; omega
  generalize (x ^^^ (x <<< 13)) ^^^ ((x ^^^ (x <<< 13)) >>> 7) = x2 at *
  have hx1 : ((x ^^^ (x <<< 13)).toNat : Int) ≤ 18446744073709551615 := by have := (x ^^^ (x <<< 13)).toNat_lt; omega
  generalize x ^^^ (x <<< 13) = x1 at *
  have kb : wx.cell? ⟨sp, 0, none⟩ = some (.int .u64 (x.toNat : Int)) := by simp [World.cell?, h.box]
  have kf : wx.frozen? ⟨sp, 0, none⟩ = false := by simp [World.frozen?, h.box]
  have k3 : (((wx.setCell ⟨sp, 0, none⟩ (.int .u64 (x1.toNat : Int))).setCell ⟨sp, 0, none⟩ (.int .u64 (x2.toNat : Int))).setCell ⟨sp, 0, none⟩ (.int .u64 (x3.toNat : Int))).cell? ⟨sp, 0, none⟩ = some (.int .u64 (x3.toNat : Int)) := by
    have hb := (((h.set (.int .u64 (x1.toNat : Int))).set (.int .u64 (x2.toNat : Int))).set (.int .u64 (x3.toNat : Int))).box
    unfold World.cell?
    rw [hb]
    rfl
  have HB := hideP h
  clear h
  go_enter Yba.func85, Yba.ntmps85
  go_wp2_with fail
  go_region
  go_wp2_with fail
  go_region
  go_wp2_with fail
  go_region
  go_wp2_with fail
  go_ret
  exact ⟨rfl, (((HB.out.set _).set _).set _).drew.drew.drew⟩

end Go.Proofs.Ybulkcghm.So
