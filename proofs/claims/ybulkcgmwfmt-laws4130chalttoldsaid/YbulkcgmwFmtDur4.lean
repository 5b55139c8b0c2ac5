import Derived.Test.YbulkcgmwFmtDur3
import Derived.Laws.BytesArg
namespace Go.Proofs.YbulkcgmwFmt.Du
open Go.RowKit Go.Deep
set_option linter.unusedVariables false
set_option linter.unusedSimpArgs false

theorem Buf.string {w : World} {b : Nat} (h : Buf w b) (m : Nat) (hm : m < 32) : ∃ s : ByteArray, (convert 51 9 (.slice (some ⟨b, m, none⟩) (32 - m) (32 - m))).run Ybaf.prog w = .ok (.string s) w := by
  obtain ⟨q, _, hr⟩ := h
  refine ⟨_, run_convert_bytes_arg w 51 5 Ybaf.underlying51 Ybaf.underlying5 b m (32 - m) (32 - m) ((List.range (32 - m)).map fun i => q (m + i)) (by simp) ?_ 9 Ybaf.underlying9⟩
  intro i hi
  rw [hr.cell (by omega)]
  simp [List.getD_eq_getElem?_getD, List.getElem?_map, List.getElem?_range hi]

theorem buf_new (w : World) (c : Array Value) (hc : c = (List.replicate 32 (Value.int .u8 0)).toArray) : Buf (w.alloc (.cells c 48)) w.heap.size := by
  refine ⟨fun _ => 0, fun _ => (show (0:Int) ≤ 0 ∧ (0:Int) ≤ 255 by omega), ?_⟩
  have h := World.rowIs_alloc w c 48 (fun _ => .int .u8 0) (fun i hi => by
    rw [hc] at hi ⊢
    rw [List.getElem?_toArray, List.getElem?_replicate, if_pos (by simpa using hi)])
  have e : c.size = 32 := by rw [hc]; simp
  rw [e] at h
  exact h

set_option maxHeartbeats 800000 in
set_option maxRecDepth 100000 in
theorem string_any (d : Int) (w : World) (h1 : -9223372036854775808 ≤ d) (h2 : d ≤ 9223372036854775807) :
    Calls Ybaf.prog 10 #[.int .i64 d] w fun e w' => ∃ s : ByteArray, e = .returned (.string s) ∧ Below w.heap.size w w' := by
  go_enter Ybaf.func10, Ybaf.ntmps10
  go_wp2_with fail
  refine (format_any w.heap.size w.heap.size d _ (Nat.le_refl _) (buf_new w _ rfl) h1 h2).mono ?_
  rintro e w1 ⟨m, rfl, hm, hb, hB⟩
  obtain ⟨s, hs⟩ := hB.string m hm
  have hsl := slice_from w.heap.size m hm
  have HB := hideP (((Below.refl w.heap.size w).alloc (Nat.le_refl _) _).trans hb)
  clear hb hB
  go_wp2_with fail
  go_ret
  exact ⟨s, rfl, HB.out⟩

end Go.Proofs.YbulkcgmwFmt.Du
