import Derived.Test.YbulkcghmLawR
namespace Go.Proofs.Ybulkcghm.Bk
open Go.RowKit Go.Deep
open Go.Proofs.Ybulkcghm.Flt (F)
open Go.Proofs.Ybulkcghm.Avl
open Go.Proofs.Ybulkcghm.Srt
set_option linter.unusedVariables false
set_option linter.unusedSimpArgs false
attribute [local go_sem] run_store_float

set_option maxRecDepth 100000 in
theorem lawR_long (a0 : Option Addr) (len cap : Nat) (k : Int) (w : World) (hl : 1024 < len) (hm : len ≤ maxLen) :
    Calls Yba.prog 7 #[.slice a0 len cap, .int .u16 k] w fun e w' => e = .returned (.bool true) ∧ Below w.heap.size w w' := by
  unfold maxLen at hm
  have hgt : decide ((1024 : Int) < (len : Int)) = true := by simp; omega
  go_enter Yba.func7, Yba.ntmps7
  go_wp2_with fail
  go_ret
  exact ⟨rfl, Below.refl _ _⟩

set_option maxHeartbeats 4000000 in
set_option maxRecDepth 100000 in
theorem lawR_zero (a0 : Option Addr) (cap : Nat) (k : Nat) (w : World) (hk : k ≤ 65535) :
    Calls Yba.prog 7 #[.slice a0 0 cap, .int .u16 (k : Int)] w fun e w' => e = .returned (.bool true) ∧ Below w.heap.size w w' := by
  have HC := hideP (show Reads w a0 0 (fun _ => 0) from fun i hi => by omega)
  have hme : ((k : Int).tmod 1) = 0 := Int.tmod_one _
  go_enter Yba.func7, Yba.ntmps7
  go_wp2_with fail
  refine (build_any a0 0 cap (fun _ => 0) w (by omega) HC.out (fun _ => by omega)).mono ?_
  rintro e w1 ⟨rfl, S1⟩
  have HS1 := hideP S1
  have hb1 := S1.1
  clear S1
  go_wp2_with fail
  refine (order_any a0 0 cap (fun _ => 0) w1 (by omega) (HC.out.below hb1) (fun _ => by omega)).mono ?_
  rintro e w2 ⟨gw, rfl, hgw, hb2, hr⟩
  have S2 := HS1.out.below hb2 hb1.size
  have hb12 := hb1.trans (hb2.mono hb1.size)
  have hgl := hr.lt
  obtain ⟨_, hBp, ⟨_, hh⟩ | ⟨h0, _⟩⟩ := S2
  rotate_left
  · omega
  have HK := hideP (check_nil w.heap.size 0 (some ⟨gw, 0, none⟩) w2 hh)
  clear HS1 hb1 hr hBp hgw hh HC
  go_wp2_with fail
  refine wp_loop_rounds 1 ?_
  rw [rounds_succ]
  go_wp2_with fail
  refine Calls.mono HK.out ?_
  rintro e w3 ⟨rfl, hb3⟩
  have hb := hb12.trans (hb3.mono hb12.size)
  clear HK hb3 hb12 hb2
  go_wp2_with fail
  go_ret
  exact ⟨rfl, hb⟩

end Go.Proofs.Ybulkcghm.Bk
