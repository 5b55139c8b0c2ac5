import Derived.Test.YbulkcghmPopB
import Derived.Laws.CopyOwn
import Derived.BigQuiet
import Derived.Deep.QuietTactic
import Derived.OpenShut
import Derived.WalkSpells
import Derived.LaidEqlPtr
import Derived.WalkSmall
namespace Go.Proofs.Ybulkcghm.Pop
open Go.RowKit Go.Deep

/-- A whole row copied over another of the same length. -/
theorem copy_rows {P : Program} (w : World) (dT sT ty elem : TypeId) (hu : P.underlying dT = some (.slice elem)) (hsz : (P.info? elem).map (·.size) = some 1)
    (g b n : Nat) (t t' : TypeId) (f f' : Nat → Value) (hg : w.rowIs g t n f') (hb : w.rowIs b t' n f) (h1 : ∀ i, i < n → (f i).oneCell' = true) :
    ∃ w', (Builtin.copy_ #[dT, sT] ty #[.slice (some ⟨g, 0, none⟩) n n, .slice (some ⟨b, 0, none⟩) n n]).run P w = .ok (goInt n) w' ∧
      w'.rowIs g t n f ∧ (∀ k, k ≠ g → w'.heap[k]? = w.heap[k]?) ∧ w'.heap.size = w.heap.size ∧ (∀ B w0, Below B w0 w → B ≤ g → Below B w0 w') := by
  obtain ⟨cur, hcur, hcn, _⟩ := hg
  have hlen : ((List.range n).map f).length = n := by simp
  have hrun := run_copy_row (P := P) w dT sT ty elem g 0 n n ⟨b, 0, none⟩ n n cur t ((List.range n).map f) hu hsz hcur (by simp) ?_ (by simp [hcn]) ?_
  · rw [hlen] at hrun
    refine ⟨_, hrun, ⟨_, setRow_heap w g cur _ t _ hcur, by simp [hcn], fun i hi => ?_⟩, fun k hk => setRow_other w g k _ hk, by simp [World.setRow], fun B w0 hB hg => below_setRow hB hg _⟩
    simp [hcn, hi]
  · intro j v hj
    have hj' : j < n := by
      have := (List.getElem?_eq_some_iff.1 hj).1
      simpa using this
    have hv : v = f j := by
      simp [List.getElem?_map, List.getElem?_range hj'] at hj
      exact hj.symm
    subst hv
    have := hb.cell hj'
    unfold Addr.add
    split
    · rename_i h0; subst h0; exact this
    · simpa using this
  · intro v hv
    simp at hv
    obtain ⟨i, hi, rfl⟩ := hv
    exact h1 i hi

/-- The timers, the slice of them and its copy, h a variable of its own. -/
structure St (w w2 : World) (g n : Nat) (Z : Nat → Int) : Prop where
  below : Below w.heap.size w w2
  gt : g = w.heap.size + 1 + n
  tops : w2.rowIs w.heap.size 62 n (top w.heap.size n)
  arr : w2.rowIs g 62 n (top w.heap.size n)
  made : ∀ j, j < n → w2.heap[w.heap.size + 1 + j]? = some (.cells (timer (Z j) j) 67 (0, 0))
  var : w2.heap[g + 1]? = some (.cells #[.slice (some ⟨g, 0, none⟩) n n] 60 (0, 0))

theorem st_start {w w1 : World} {n : Nat} {Z : Nat → Int} (hB : Built w w1 n n Z) :
    ∃ w2, (Builtin.copy_ #[60, 58] 3 #[.slice (some ⟨w1.heap.size, 0, none⟩) n n, .slice (some ⟨w.heap.size, 0, none⟩) n n]).run Yba.prog
        ((w1.alloc (.cells (madeCells #[.pointer none] n) 62)).alloc (.cells #[.slice (some ⟨w1.heap.size, 0, none⟩) n n] 60)) = .ok (goInt n) w2 ∧ St w w2 w1.heap.size n Z := by
  have hd0 := World.rowIs_made w1 (.pointer none) n 62
  obtain ⟨w2, hcp, hr2, ho2, hz2, hb2⟩ := copy_rows (P := Yba.prog) ((w1.alloc (.cells (madeCells #[.pointer none] n) 62)).alloc (.cells #[.slice (some ⟨w1.heap.size, 0, none⟩) n n] 60)) 60 58 3 62 Yba.underlying60 (by kernel_rfl)
    w1.heap.size w.heap.size n 62 62 (top w.heap.size n) _ (hd0.alloc _) ((hB.top.alloc _).alloc _) (by intro i hi; simp [top, hi, Value.oneCell'])
  have hz := hB.size
  refine ⟨w2, hcp, hb2 _ _ ((hB.below.alloc (by omega) _).alloc (by simp; omega) _) (by omega), hz, ?_, hr2, fun j hj => ?_, ?_⟩
  · exact ((hB.top.alloc _).alloc _).of_block (ho2 _ (by omega))
  · rw [ho2 _ (by omega), blk_alloc_lt _ _ _ (by simp; omega), blk_alloc_lt _ _ _ (by omega)]
    exact hB.made j hj
  · rw [ho2 _ (by omega)]
    have := blk_alloc_new (w1.alloc (.cells (madeCells #[.pointer none] n) 62)) (.cells #[.slice (some ⟨w1.heap.size, 0, none⟩) n n] 60)
    simpa using this

/-- Behind Pop. -/
structure Aft (w w3 : World) (g n : Nat) (Z : Nat → Int) : Prop where
  below : Below w.heap.size w w3
  tops : ∀ j, j < n + 1 → w3.cell? ⟨w.heap.size, j, none⟩ = some (.pointer (some ⟨w.heap.size + 1 + j, 0, none⟩))
  arr : ∀ j, j < n → w3.cell? ⟨g, j, none⟩ = some (.pointer (some ⟨w.heap.size + 1 + j, 0, none⟩))
  last : w3.cell? ⟨g, n, none⟩ = some (.pointer none)
  lastIx : w3.cell? ⟨w.heap.size + 1 + n, 7, none⟩ = some (.int .i64 (-1))
  seq : ∀ j, j < n → w3.cell? ⟨w.heap.size + 1 + j, 6, none⟩ = some (.int .u64 (Z j))
  ix : ∀ j, j < n → w3.cell? ⟨w.heap.size + 1 + j, 7, none⟩ = some (.int .i64 j)
  var : w3.cell? ⟨g + 1, 0, none⟩ = some (.slice (some ⟨g, 0, none⟩) n (n + 1))

theorem cell_blk {w : World} {b : Nat} {c : Array Value} {t : TypeId} {f : Nat × Nat} (h : w.heap[b]? = some (.cells c t f)) (i : Nat) : w.cell? ⟨b, i, none⟩ = c[i]? := by
  simp [World.cell?, h]

theorem free_blk {w : World} {b : Nat} {c : Array Value} {t : TypeId} (h : w.heap[b]? = some (.cells c t (0, 0))) (i : Nat) : w.frozen? ⟨b, i, none⟩ = false := by
  simp [World.frozen?, h]

theorem c_ne {w : World} {b o b' o' : Nat} {v : Value} (h : b ≠ b' ∨ o ≠ o') : (w.setCell ⟨b, o, none⟩ v).cell? ⟨b', o', none⟩ = w.cell? ⟨b', o', none⟩ :=
  World.cell?_setCell_other _ _ _ _ (by intro e; cases e; simp at h)

theorem c_same {w : World} {a : Addr} {u v : Value} (h : w.cell? a = some u) : (w.setCell a v).cell? a = some v := World.cell?_setCell_same _ _ _ h

theorem st_pop {w w2 : World} {g n : Nat} {Z : Nat → Int} (h : St w w2 g (n + 1) Z) :
    Aft w (((w2.setCell ⟨g, n, none⟩ (.pointer none)).setCell ⟨w.heap.size + 1 + n, 7, none⟩ (.int .i64 (-1))).setCell ⟨g + 1, 0, none⟩ (.slice (some ⟨g, 0, none⟩) n (n + 1))) g n Z := by
  have hg := h.gt
  have c1 : ∀ j, j < n + 1 → w2.cell? ⟨w.heap.size, j, none⟩ = some (.pointer (some ⟨w.heap.size + 1 + j, 0, none⟩)) := fun j hj => by rw [h.tops.cell hj]; simp [top, hj]
  have c2 : ∀ j, j < n + 1 → w2.cell? ⟨g, j, none⟩ = some (.pointer (some ⟨w.heap.size + 1 + j, 0, none⟩)) := fun j hj => by rw [h.arr.cell hj]; simp [top, hj]
  have c3 : ∀ j, j < n + 1 → w2.cell? ⟨w.heap.size + 1 + j, 6, none⟩ = some (.int .u64 (Z j)) := fun j hj => by rw [cell_blk (h.made j hj)]; simp [timer]
  have c4 : ∀ j, j < n + 1 → w2.cell? ⟨w.heap.size + 1 + j, 7, none⟩ = some (.int .i64 j) := fun j hj => by rw [cell_blk (h.made j hj)]; simp [timer]
  have c5 : w2.cell? ⟨g + 1, 0, none⟩ = some (.slice (some ⟨g, 0, none⟩) (n + 1) (n + 1)) := by rw [cell_blk h.var]; simp
  refine ⟨((h.below.setCell (by show _ ≤ g; omega) _).setCell (by show _ ≤ w.heap.size + 1 + n; omega) _).setCell (by show _ ≤ g + 1; omega) _, fun j hj => ?_, fun j hj => ?_, ?_, ?_, fun j hj => ?_, fun j hj => ?_, ?_⟩
  · rw [c_ne (by omega), c_ne (by omega), c_ne (by omega)]; exact c1 j hj
  · rw [c_ne (by omega), c_ne (by omega), c_ne (by omega)]; exact c2 j (by omega)
  · rw [c_ne (by omega), c_ne (by omega)]; exact c_same (c2 n (by omega))
  · rw [c_ne (by omega)]; exact c_same (by rw [c_ne (by omega)]; exact c4 n (by omega))
  · rw [c_ne (by omega), c_ne (by omega), c_ne (by omega)]; exact c3 j (by omega)
  · rw [c_ne (by omega), c_ne (by omega), c_ne (by omega)]; exact c4 j (by omega)
  · exact c_same (by rw [c_ne (by omega), c_ne (by omega)]; exact c5)

theorem assert62 (v : Value) (w : World) : (Instr.typeAssert (.iface 62 v) 20 62 true).run Yba.prog w = .ok (.tuple #[v, .bool true]) w := by
  simp [Instr.typeAssert, run_underlying Yba.underlying62, go_sem, Result.andThen]

theorem info67 : (Yba.prog.info? 67).isSome = true := by kernel_rfl

theorem neq62 (a : Addr) (w : World) : (binOp .neq 62 (.pointer (some a)) (.pointer (some a))).run Yba.prog w = .ok (.bool false) w := by
  obtain ⟨j, hj⟩ := Option.isSome_iff_exists.1 info67
  have h : ∀ d : Nat, (Op.equalIn (d + 1) 62 (.pointer (some a)) (.pointer (some a))).run Yba.prog w = .ok true w := fun d => by
    simp [Op.equalIn, run_underlying Yba.underlying62, sizeOf, typeInfo, hj, run_sameAddr_same]
  simp only [binOp]
  simp [Op.equal, Op.maxDepth, h 9999]

set_option maxHeartbeats 2000000 in
set_option maxRecDepth 100000 in
theorem walk_pos (a0 : Option Addr) (len cap : Nat) (Z : Nat → Int) (w : World) (hl : len ≤ 1024) (hc : Reads w a0 len Z) :
    Calls Yba.prog 8 #[.slice a0 len cap] w fun e w' => e = .returned (.bool true) ∧ Below w.heap.size w w' := by
  have hmk : ∀ W : World, (Instr.makeSlice 60 (.int .i64 ((len : Int) + 1)) (.int .i64 ((len : Int) + 1))).run Yba.prog W = .ok (.slice (some ⟨W.heap.size, 0, none⟩) (len + 1) (len + 1)) (W.alloc (.cells (madeCells #[.pointer none] (len + 1)) 62)) :=
    fun W => run_make_row' (P := Yba.prog) 60 62 (.pointer none) 8 Yba.underlying60 info62 rfl .i64 .i64 (len + 1) (by omega) (by omega) W
  have hgt : decide ((1024 : Int) < (len : Int)) = false := by simp; omega
  go_enter Yba.func8, Yba.ntmps8
  go_wp2_with fail
  refine (build_any a0 len cap Z _ hl hc).mono ?_
  rintro e w1 ⟨rfl, hB⟩
  obtain ⟨w2, hcp, hS⟩ := st_start hB
  clear hB
  have hv : w2.cell? ⟨w1.heap.size + 1, 0, none⟩ = some (.slice (some ⟨w1.heap.size, 0, none⟩) (len + 1) (len + 1)) := by rw [cell_blk hS.var]; simp
  go_wp2_with fail
  have hgt2 := hS.gt
  refine (pop_any (w1.heap.size + 1) w1.heap.size (w.heap.size + 1 + len) len (len + 1) _ w2 (by omega) (by omega) hv (free_blk hS.var 0) (by rw [hS.arr.cell (by omega)]; simp [top])
    (hS.arr.frozen _) (by rw [cell_blk (hS.made len (by omega))]; rfl) (free_blk (hS.made len (by omega)) 7) (by omega) (by omega) (by omega)).mono ?_
  rintro e w3 ⟨rfl, hw3⟩
  have hA : Aft w w3 w1.heap.size len (fun i => if i < len then Z i else 0) := by rw [hw3]; exact st_pop hS
  have hne : w1.heap.size ≠ w.heap.size := by omega
  clear hw3 hS hv hcp hgt2 hmk
  generalize w1.heap.size = g at *
  obtain ⟨hbel, htops, harr, hlast, hlastIx, hseq, hix, hvar⟩ := hA
  have ht0 := htops len (by omega)
  have has := assert62
  have hnq := neq62
  go_wp2_with fail
  go_loopw [10] (fun i wr => ∃ k : Nat, k ≤ len ∧ i = .int .i64 k ∧ ∃ nd, wr = w3.drewN nd) (fun i _ => len - (intOf i).toNat)
  case atStart => exact ⟨0, Nat.zero_le _, rfl, 0, rfl⟩
  case round =>
    obtain ⟨k, hk, rfl, nd, rfl⟩ := hrel
    clear hlast hlastIx ht0 has
    by_cases hlt : k < len
    · obtain ⟨b, off, hb, rfl, hcell⟩ := hc k hlt
      have hx := (hbel.cell (p := ⟨b, off + k, none⟩) hb).trans (hcell k hlt)
      have h1 := htops k (by omega)
      have h2 := harr k hlt
      have h3 := hseq k hlt
      rw [if_pos hlt] at h3
      have h4 := hix k hlt
      clear hc hcell htops harr hseq hix
      go_wp2
      go_quiet (fail)
      go_wp2
      go_quiet (fail)
      go_wp2
      go_roundw
      case rel => exact ⟨k + 1, by omega, by go_num, _, rfl⟩
      case measure => simp [intOf]; omega
    · have hkl : k = len := by omega
      subst hkl
      go_wp2
      go_ret
      exact ⟨rfl, below_drewN hbel _⟩

set_option maxRecDepth 100000 in
theorem walk_long (a0 : Option Addr) (len cap : Nat) (w : World) (hl : 1024 < len) (hm : len ≤ maxLen) :
    Calls Yba.prog 8 #[.slice a0 len cap] w fun e w' => e = .returned (.bool true) ∧ Below w.heap.size w w' := by
  unfold maxLen at hm
  have hgt : decide ((1024 : Int) < (len : Int)) = true := by simp; omega
  go_enter Yba.func8, Yba.ntmps8
  go_wp2
  go_ret
  exact ⟨rfl, Below.refl _ _⟩

end Go.Proofs.Ybulkcghm.Pop
