import Derived.Test.YbulkcghmSoM
import Derived.Test.YbulkcghmSoN
import Derived.Lib.Walk
import Derived.Lib.SliceRun
namespace Go.Proofs.Ybulkcghm.So
open Go.RowKit Go.Lib
open Go.Sort (swp size_swp ltInt)
set_option linter.unusedVariables false

theorem info28 : (Yba.prog.info? 28).map (fun i => (i.zero, i.size, i.bytes)) = some (some (.int .u64 0), 1, 8) := by kernel_rfl
theorem info28i : ∃ i, Yba.prog.info? 28 = some i ∧ i.zero = some (.int .u64 0) ∧ i.size = 1 ∧ i.bytes = 8 := by
  obtain ⟨i, hi, h⟩ := Option.map_eq_some_iff.1 info28
  simp at h
  exact ⟨i, hi, h.1, h.2.1, h.2.2⟩

set_option maxHeartbeats 400000 in
set_option maxRecDepth 100000 in
/-- slices.Clone at uint64, not nil. -/
theorem clone_u (ad : Addr) (n c : Nat) (news : List Int) (w : World) (hl : news.length = n) (hn : n ≤ 1024) (hc : ∀ j, j < n → w.cell? (ad.add j) = some (.int .u64 (news.getD j 0))) :
    Calls Yba.prog 24 #[.slice (some ad) n c] w fun e w' => ∃ v', e = .returned v' ∧ w'.ownsRow w.heap.size 28 1 v' n (news.map (Value.int .u64)) ∧ v' ≠ .slice none 0 0 ∧ Below w.heap.size w w' := by
  have q22 : ∀ (w : World) (a : Option Addr) (n c n' c' : Nat), (binOp .eql 48 (.slice a n c) (.slice none n' c')).run Yba.prog w = .ok (.bool a.isNone) w := fun w a n c n' c' => Lib.run_eql_slice_nil w _ _ a n c n' c' Yba.underlying48
  obtain ⟨i0, hi, hz0, hz1, hz2⟩ := info28i
  have A : Hid (∀ j, j < n → w.cell? (ad.add j) = some (.int .u64 (news.getD j 0))) := hc
  clear hc
  go_enter Yba.func24, Yba.ntmps24
  go_wp2_with (refine wpList_append_own _ rfl _ _ 48 rfl w.heap.size 28 i0 (.int .u64 0) 1 8 Yba.underlying48 hi hz0 hz1 hz2 rfl (by decide) _ _ _ rfl (World.ownsRow_made w #[] 0 (Nat.le_refl _) (Nat.zero_le _) (by simp)) ad n c (news.map (Value.int .u64)) rfl ?qc1 ?qc2 ?qc3 ?qc4 ?qc5 ?qc6 ?_)
  case qc1 => simp [hl]
  case qc2 =>
    intro j u hj
    rw [List.getElem?_map, Option.map_eq_some_iff] at hj
    obtain ⟨x, hx, rfl⟩ := hj
    have hlt : j < news.length := (List.getElem?_eq_some_iff.1 hx).1
    refine Lib.cell?_alloc_some _ ?_
    rw [A.out j (by omega)]
    simp [List.getD, hx]
  case qc3 =>
    intro u hu
    obtain ⟨x, _, rfl⟩ := List.mem_map.1 hu
    rfl
  case qc4 => unfold maxLen; omega
  case qc5 => omega
  case qc6 => simp
  intro v' w1 hown hgrow hnil
  have HO := hideP hown
  have HG := hideP hgrow
  have HN := hideP hnil
  clear hown hgrow hnil hi hz0 hz1 hz2 A
  go_wp2
  go_ret
  refine ⟨v', rfl, by simpa using HO.out, ?_, ?_⟩
  · exact HN.out
  · exact ((Below.refl _ w).alloc (Nat.le_refl _) _).grown HG.out (by simp) (by intro k hk; simp [Value.ownBlock] at hk; omega)

set_option maxHeartbeats 400000 in
set_option maxRecDepth 100000 in
theorem clone_nil (w : World) : Calls Yba.prog 24 #[.slice none 0 0] w fun e w' => e = .returned (.slice none 0 0) ∧ w' = w := by
  have q22 : ∀ (w : World) (a : Option Addr) (n c n' c' : Nat), (binOp .eql 48 (.slice a n c) (.slice none n' c')).run Yba.prog w = .ok (.bool a.isNone) w := fun w a n c n' c' => Lib.run_eql_slice_nil w _ _ a n c n' c' Yba.underlying48
  go_enter Yba.func24, Yba.ntmps24
  go_wp2
  go_ret
  exact ⟨rfl, rfl⟩

set_option maxHeartbeats 400000 in
set_option maxRecDepth 100000 in
theorem insertion_nil (w : World) : Calls Yba.prog 56 #[.slice none 0 0, .int .i64 0, .int .i64 0] w fun e w' => e = .returned (.tuple #[]) ∧ w' = w := by
  go_enter Yba.func56, Yba.ntmps56
  go_wp2_with fail
  go_loopw [6] (fun vi wr => vi = .int .i64 1 ∧ wr = w) (fun _ _ => 0)
  case atStart => exact ⟨by go_num, rfl⟩
  case round =>
    obtain ⟨rfl, rfl⟩ := hrel
    go_wp2_with fail
    go_end0
    exact ⟨rfl, rfl⟩

set_option maxHeartbeats 400000 in
set_option maxRecDepth 100000 in
theorem pdq_nil (x : Int) (w : World) : Calls Yba.prog 44 #[.slice none 0 0, .int .i64 0, .int .i64 0, .int .i64 x] w fun e w' => e = .returned (.tuple #[]) ∧ w' = w := by
  have HI := hideP (insertion_nil w)
  go_enter Yba.func44, Yba.ntmps44
  go_wp2_with fail
  go_loopw [1, 2, 3, 8, 9] (fun va vb vl v8 v9 wr => va = .int .i64 0 ∧ vb = .int .i64 0 ∧ wr = w) (fun _ _ _ _ _ _ => 0)
  case atStart => exact ⟨rfl, rfl, rfl⟩
  case round =>
    obtain ⟨rfl, rfl, rfl⟩ := hrel
    go_wp2_with fail
    refine Calls.mono HI.out ?_
    rintro e w1 ⟨rfl, rfl⟩
    clear HI
    go_wp2_with fail
    refine bodyPost_ret (results_none rfl _ _ _) rfl ?_
    exact ⟨rfl, rfl⟩

set_option maxHeartbeats 400000 in
set_option maxRecDepth 100000 in
theorem sort_nil (w : World) : Calls Yba.prog 25 #[.slice none 0 0] w fun e w' => e = .returned (.tuple #[]) ∧ w' = w := by
  have HL := hideP (Yba.bits_Len 0 w (by omega) (by omega))
  have HP := hideP (fun x => pdq_nil x w)
  go_enter Yba.func25, Yba.ntmps25
  go_wp2_with fail
  refine Calls.mono HL.out ?_
  rintro e w1 ⟨rfl, rfl⟩
  clear HL
  go_wp2_with fail
  refine Calls.mono (HP.out _) ?_
  rintro e w2 ⟨rfl, rfl⟩
  clear HP
  go_wp2_with fail
  go_end0
  exact ⟨rfl, rfl⟩

end Go.Proofs.Ybulkcghm.So
