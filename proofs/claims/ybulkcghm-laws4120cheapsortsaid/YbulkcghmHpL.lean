import Derived.Test.YbulkcghmHpK
namespace Go.Proofs.Ybulkcghm.Hs
open Go.RowKit Go.Deep Go.Proofs.Ybulkcghm.Pop Go.Proofs.Ybulkcghm.Hp
open Go.Proofs.Ybulkcghm.So (Row info28 info28i)
set_option linter.unusedVariables false

def srt (L : List Int) : List Int := L.mergeSort (fun x y => decide (x ≤ y))

/-- slices.Clone, and slices.Sort behind it, in whatever later world. -/
def Cln (w : World) (a0 : Option Addr) (len cap : Nat) (L : List Int) : Prop := ∀ wx, Below w.heap.size w wx → Calls Yba.prog 24 #[.slice a0 len cap] wx fun e w' => ∃ s c, e = .returned (.slice s len c) ∧ Below wx.heap.size wx w' ∧
  Calls Yba.prog 25 #[.slice s len c] w' fun e w'' => e = .returned (.tuple #[]) ∧ Below wx.heap.size wx w'' ∧ ∀ i, i < len → ∃ b off, s = some ⟨b, off, none⟩ ∧ w''.cell? ⟨b, off + i, none⟩ = some (.int .u64 ((srt L).getD i 0))

theorem cln_nil (w : World) : Cln w none 0 0 [] := fun wx _ => by
  refine (So.clone_nil wx).mono ?_
  rintro e w' ⟨rfl, rfl⟩
  refine ⟨none, 0, rfl, Below.refl _ _, (So.sort_nil _).mono ?_⟩
  rintro e w'' ⟨rfl, rfl⟩
  exact ⟨rfl, Below.refl _ _, fun i hi => absurd hi (Nat.not_lt_zero _)⟩

theorem cln_some (w : World) (x : Addr) (len cap : Nat) (L : List Int) (hL : L.length = len) (hn : len ≤ 1024) (hc : ∀ i, i < len → w.cell? (x.add i) = some (.int .u64 (L.getD i 0))) : Cln w (some x) len cap L := fun wx hb => by
  refine (So.clone_u x len cap L wx hL hn fun i hi => (hb.cell (World.block_lt_of_cell? w _ (hc i hi))).trans (hc i hi)).mono ?_
  rintro e w' ⟨v', rfl, how, hne, hB⟩
  have how' := how
  obtain ⟨_, ho⟩ := how
  rcases ho with ⟨e, _⟩ | ⟨g, c, cur, rfl, hg, hcur, _⟩
  · exact absurd e hne
  have R : Row w' g 0 len L.toArray w' := by
    refine ⟨rfl, rfl, rfl, Nat.le_refl _, fun _ _ _ => rfl, by simpa using hL, fun j hj => ?_, fun j hj => ?_⟩
    · rw [Nat.zero_add, (owns_cell how' j hj).1]
      simp [List.getD, List.getElem?_eq_getElem (show j < L.length by omega)]
    · rw [Nat.zero_add]; exact (owns_cell how' j hj).2
  refine ⟨some ⟨g, 0, none⟩, c, rfl, hB, (So.sort_u g 0 len c L.toArray w' R (lt_of_blk hcur) hn).mono ?_⟩
  rintro e w'' ⟨rfl, R2⟩
  refine ⟨rfl, hB.trans ⟨R2.os, R2.tape, R2.output, R2.size, fun k hk => R2.block k (by have := hB.size; omega) (by omega)⟩, fun i hi => ⟨g, 0, rfl, ?_⟩⟩
  have e1 := So.sort_list L.toArray
  have hs := R2.len
  rw [R2.cell i hi]
  unfold srt
  have e2 : L.toArray.toList = L := by simp
  rw [e2] at e1
  rw [← e1, getElem!_pos _ i (by omega)]
  simp [List.getD, Array.getElem?_eq_getElem (show i < (Go.Sort.sort Go.Sort.ltInt L.toArray).size by omega)]

/-- k timers are pushed. -/
structure Psh (w wr : World) (hp g cap k : Nat) (T : Array (Nat × Int)) (L : List Int) : Prop where
  below : Below w.heap.size w wr
  st : Hp.Hp w.heap.size wr hp g cap T
  ord : Ord (fun k => T[k]!.2) T.size
  perm : (T.toList.map (·.2)).Perm (L.take k)

theorem psh_start (w : World) (L : List Int) : Psh w ((w.alloc (.cells #[] 62)).alloc (.cells #[.slice (some ⟨w.heap.size, 0, none⟩) 0 0] 60)) (w.heap.size + 1) w.heap.size 0 0 #[] L := by
  have h1 := blk_alloc_new (w.alloc (.cells #[] 62)) (.cells #[.slice (some ⟨w.heap.size, 0, none⟩) 0 0] 60)
  have h0 := blk_alloc_new w (.cells #[] 62)
  refine ⟨((Below.refl _ w).alloc (Nat.le_refl _) _).alloc (by simp) _, ⟨by omega, Nat.le_refl _, fun i hi => absurd hi (Nat.not_lt_zero _), by simpa using h1, Nat.zero_le _, Nat.zero_le _, ⟨#[], ?_, rfl, fun i hi => absurd hi (Nat.not_lt_zero _)⟩, fun i hi => absurd hi (Nat.not_lt_zero _)⟩, fun k _ hk => absurd hk (Nat.not_lt_zero _), by simp⟩
  rw [Below.heap_alloc _ _ _ (by simp)]
  exact h0

theorem Psh.size {w wr : World} {hp g cap k : Nat} {T : Array (Nat × Int)} {L : List Int} (h : Psh w wr hp g cap k T L) (hk : k ≤ L.length) : T.size = k := by
  have := h.perm.length_eq
  simp at this
  omega

theorem Psh.later {w wr w' : World} {hp g cap g' cap' k p : Nat} {T T' : Array (Nat × Int)} {L : List Int} (h : Psh w wr hp g cap k T L) (hk : k < L.length) (hk1 : Kp w.heap.size wr w') (st : Hp.Hp w.heap.size w' hp g' cap' T') (ord : Ord (fun k => T'[k]!.2) T'.size)
    (perm : T'.toList.Perm ((p, L.getD k 0) :: T.toList)) : Psh w w' hp g' cap' (k + 1) T' L := by
  refine ⟨hk1.below h.below h.below.size, st, ord, (perm.map _).trans ?_⟩
  have e : L.take (k + 1) = L.take k ++ [L.getD k 0] := by
    rw [List.take_add_one, List.getElem?_eq_getElem hk]
    simp [List.getD, List.getElem?_eq_getElem hk]
  rw [e]
  simp only [List.map_cons]
  exact ((h.perm.cons _).trans (List.perm_append_singleton _ _).symm)

theorem assert62 (v : Value) (w : World) : (Instr.typeAssert (.iface 62 v) 20 62 true).run Yba.prog w = .ok (.tuple #[v, .bool true]) w := by
  simp [Instr.typeAssert, run_underlying Yba.underlying62, go_sem, Result.andThen]

/-- j timers are popped. -/
structure Pp (w wr : World) (hp g cap j o co : Nat) (T : Array (Nat × Int)) (zs L : List Int) : Prop where
  below : Below w.heap.size w wr
  st : Hp.Hp w.heap.size wr hp g cap T
  ord : Ord (fun k => T[k]!.2) T.size
  out : Out L zs T
  len : zs.length = j
  own : wr.ownsRow w.heap.size 28 1 (.slice (some ⟨o, 0, none⟩) j co) j (zs.map (Value.int .u64))

theorem Pp.size {w wr : World} {hp g cap j o co : Nat} {T : Array (Nat × Int)} {zs L : List Int} (h : Pp w wr hp g cap j o co T zs L) : j + T.size = L.length := by
  have := h.out.perm.length_eq
  simp at this
  have := h.len
  omega

theorem pp_start {w wr : World} {hp g cap k : Nat} {T : Array (Nat × Int)} {L : List Int} (h : Psh w wr hp g cap k T L) (hk : L.length = k) (hk1 : k ≤ 1024) :
    Pp w (wr.alloc (.cells (madeCells #[.int .u64 0] k) 28)) hp g cap 0 wr.heap.size k T [] L := by
  refine ⟨h.below.alloc h.below.size _, h.st.later ((Below.refl _ _).alloc (Nat.le_refl _) _), h.ord, ⟨?_, List.Pairwise.nil, fun z hz => by simp at hz⟩, rfl, ?_⟩
  · have := h.perm
    rw [List.take_of_length_le (by omega)] at this
    simpa using this
  · exact World.ownsRow_made wr _ k h.below.size (by unfold maxLen; omega) (by rw [size_madeCells]; simp)

theorem Pp.pop {w wr w1 w2 : World} {hp g cap j o co g' co' : Nat} {T T' : Array (Nat × Int)} {zs L : List Int} (h : Pp w wr hp g cap j o co T zs L) (h0 : 0 < T.size) (st : Hp.Hp w.heap.size w1 hp g cap T') (ord : Ord (fun k => T'[k]!.2) T'.size) (hp' : T.toList.Perm (T[0]! :: T'.toList)) (kp : Kp w.heap.size wr w1)
    (hown : w2.ownsRow w.heap.size 28 1 (.slice (some ⟨g', 0, none⟩) (j + 1) co') (j + 1) (zs.map (Value.int .u64) ++ [.int .u64 T[0]!.2])) (hgr : (w1.alloc (.cells #[.int .u64 T[0]!.2] 28)).grownBy w2 (some o)) :
    Pp w w2 hp g cap (j + 1) g' co' T' (zs ++ [T[0]!.2]) L := by
  have b1 := kp.below h.below h.below.size
  have o1 := owns_kept h.own kp
  obtain ⟨c, f, h28⟩ := owns_28 o1
  have hlo := lt_of_blk h28
  have hBo : w.heap.size ≤ o := by
    rcases h.own.2 with ⟨e, _⟩ | ⟨G, c, cur, e1, e2, _⟩
    · simp at e
    · simp at e1; omega
  refine ⟨(b1.alloc b1.size _).grown hgr (by have := b1.size; simp; omega) (by intro k hk; simp at hk; omega), hp_grown (st.later ((Below.refl _ _).alloc (Nat.le_refl _) _)) hgr ⟨c, f, by rw [Below.heap_alloc _ _ _ hlo]; exact h28⟩, ord, h.out.step h0 h.ord hp', by simp [h.len], ?_⟩
  have e : (zs ++ [T[0]!.2]).map (Value.int .u64) = zs.map (Value.int .u64) ++ [.int .u64 T[0]!.2] := by simp
  rw [e]; exact hown

theorem Pp.own1 {w wr w1 : World} {hp g cap j o co : Nat} {T : Array (Nat × Int)} {zs L : List Int} (h : Pp w wr hp g cap j o co T zs L) (kp : Kp w.heap.size wr w1) (ob : Obj) :
    (w1.alloc ob).ownsRow w.heap.size 28 1 (.slice (some ⟨o, 0, none⟩) j co) j (zs.map (Value.int .u64)) := by
  have o1 := owns_kept h.own kp
  obtain ⟨c, f, h28⟩ := owns_28 o1
  exact owns_blk o1 (Below.heap_alloc _ _ _ (lt_of_blk h28))

theorem cell_new (w : World) (v : Value) (t : TypeId) : (w.alloc (.cells #[v] t)).cell? ⟨w.heap.size, 0, none⟩ = some v := by
  have := blk_alloc_new w (.cells #[v] t)
  unfold World.cell?
  simp only [this]
  rfl

set_option maxHeartbeats 1000000 in
set_option maxRecDepth 100000 in
theorem walk_main (a0 : Option Addr) (len cap : Nat) (L : List Int) (w : World) (hL : L.length = len) (hl : len ≤ 1024) (hc : Reads w a0 len (fun i => L.getD i 0)) (hC : Cln w a0 len cap L) :
    Calls Yba.prog 9 #[.slice a0 len cap] w fun e w' => e = .returned (.bool true) ∧ Below w.heap.size w w' := by
  have hgt : decide ((1024 : Int) < (len : Int)) = false := by simp; omega
  have HC := hideP hC
  have HR := hideP hc
  have HLn := hideP hL
  clear hC hc hL
  go_enter Yba.func9, Yba.ntmps9
  go_wp2_with fail
  go_loopw [18] (fun vi wr => ∃ (k g cp : Nat) (T : Array (Nat × Int)), vi = .int .i64 k ∧ k ≤ len ∧ Hid (Psh w wr (w.heap.size + 1) g cp k T L)) (fun vi _ => len - (intOf vi).toNat)
  case atStart => exact ⟨0, w.heap.size, 0, #[], rfl, Nat.zero_le _, psh_start w L⟩
  case round =>
    obtain ⟨k, g, cp, T, rfl, hk, HP⟩ := hrel
    by_cases hlt : k < len
    · obtain ⟨b, off, hb, rfl, hcell⟩ := HR.out k hlt
      have hx : wr.cell? ⟨b, off + k, none⟩ = some (.int .u64 (L.getD k 0)) := (HP.out.below.cell (p := ⟨b, off + k, none⟩) hb).trans (hcell k hlt)
      have hkk : (k : Int) < (len : Int) := by omega
      have hTs : T.size = k := HP.out.size (by rw [HLn.out]; omega)
      obtain ⟨z, hz⟩ : ∃ z, z = L.getD k 0 := ⟨_, rfl⟩
      rw [← hz] at hx
      have HU := hideP (push_h w.heap.size (w.heap.size + 1) g cp wr.heap.size z 0 T (wr.alloc (.cells (timer z 0) 67)) (HP.out.st.later ((Below.refl _ _).alloc (Nat.le_refl _) _)) (by omega) HP.out.ord (by have := HP.out.below.size; simp; omega) (blk_alloc_new _ _) HP.out.below.size (fun i hi => by have := lt_of_blk (HP.out.st.made i hi); omega))
      have HZ := hideP hz
      clear hcell hTs hz
      go_wp2_with fail
      refine Calls.mono HU.out ?_
      rintro e w1 ⟨rfl, g', cap', T', st, pm, od, kp⟩
      rw [HZ.out] at pm
      have HP1 := hideP (HP.out.later (by rw [HLn.out]; exact hlt) ((Kp.of_below ((Below.refl _ wr).alloc (Nat.le_refl _) _)).trans kp) st od pm)
      clear HU st pm od kp hx HP HC HR HZ
      go_wp2_with fail
      go_roundw
      case rel => exact ⟨k + 1, g', cap', T', by go_num, by omega, HP1.out⟩
      case measure => simp [intOf]; omega
    · have hkl : k = len := by omega
      subst hkl
      have hTs : T.size = k := HP.out.size (by rw [HLn.out]; omega)
      have HT := hideP hTs
      have hv := HP.out.st.cellv
      rw [hTs] at hv
      have hg := fun i (hi : i < k) => HP.out.st.cellg (i := i) (by omega)
      have h7 := fun i (hi : i < k) => HP.out.st.cell7 (i := i) (by omega)
      clear hlt hk hTs
      go_wp2_with fail
      obtain ⟨wo, rfl⟩ : ∃ wo : World, wo = wr := ⟨_, rfl⟩
      go_loopw [6] (fun vi w2 => ∃ i : Nat, vi = .int .i64 i ∧ i ≤ k ∧ w2 = wo) (fun vi _ => k - (intOf vi).toNat)
      case atStart => exact ⟨0, rfl, Nat.zero_le _, rfl⟩
      case round =>
        obtain ⟨i, rfl, hi, rfl⟩ := hrel
        by_cases hik : i < k
        · have tt : decide ((i : Int) < (k : Int)) = true := by simp; omega
          have j1 : (i : Int) < (k : Int) := by omega
          have g1 := hg i hik
          have g7 := h7 i hik
          clear hg h7
          go_wp2_with fail
          go_roundw
          case rel => exact ⟨i + 1, by go_num, by omega, by trivial⟩
          case measure => simp [intOf]; omega
        · have hik' : i = k := by omega
          subst hik'
          clear hg h7 hik hi
          have hPp := hideP (pp_start HP.out HLn.out hl)
          have hmk := fun W => run_make_room (P := Yba.prog) 48 28 (.int .u64 0) 8 Yba.underlying48 info28 rfl .i64 .i64 i (by omega) (by omega) W
          clear HP HT
          go_wp2_with fail
          clear hmk hv
          go_loopw [7, 8] (fun vo vj wx => ∃ (j o co : Nat) (T' : Array (Nat × Int)) (zs : List Int), vj = .int .i64 j ∧ vo = .slice (some ⟨o, 0, none⟩) j co ∧ j ≤ i ∧ Hid (Pp w wx (w.heap.size + 1) g cp j o co T' zs L)) (fun _ vj _ => i - (intOf vj).toNat)
          case atStart => exact ⟨0, _, i, T, [], rfl, rfl, Nat.zero_le _, hPp.out⟩
          case round =>
            clear hPp
            obtain ⟨j, o, co, T', zs, rfl, rfl, hji, HPp⟩ := hrel
            have hsz := HPp.out.size
            rw [HLn.out] at hsz
            by_cases hlt : j < i
            · have tt : decide ((j : Int) < (i : Int)) = true := by simp; omega
              have Hsz := hideP hsz
              have HPo := hideP (pop_h w.heap.size (w.heap.size + 1) g cp (T'.size - 1) T' wr HPp.out.st (by omega) (by omega) HPp.out.ord)
              have has := assert62
              clear hsz
              go_wp2_with fail
              refine Calls.mono HPo.out ?_
              rintro e w1 ⟨rfl, T2, st, pm, od, kp, hb⟩
              have c7 : w1.cell? ⟨T'[0]!.1, 7, none⟩ = some (.int .i64 (-1)) := by simp [World.cell?, hb, timer]
              have c6 : w1.cell? ⟨T'[0]!.1, 6, none⟩ = some (.int .u64 T'[0]!.2) := by simp [World.cell?, hb, timer]
              have hown := hideP (HPp.out.own1 kp (.cells #[.int .u64 T'[0]!.2] 28))
              have hnew := hideP (cell_new w1 (.int .u64 T'[0]!.2) 28)
              have hstp := hideP (fun g' co' w2 => HPp.out.pop (w2 := w2) (g' := g') (co' := co') (by have := Hsz.out; omega) st od pm kp)
              have hB1 : w.heap.size ≤ w1.heap.size := (kp.below HPp.out.below HPp.out.below.size).size
              clear HPo HPp st pm od kp hb
              go_wp2_with (refine wpList_append_u _ rfl _ _ rfl w.heap.size o j co w1.heap.size T'[0]!.2 (zs.map (Value.int .u64)) ?q0 ?q1 rfl hown.out rfl hnew.out ?_)
              case q0 => omega
              case q1 => simp; omega
              intro g' co' w2 HO HG
              have HP2 := hideP (hstp.out g' co' w2 HO.out HG.out)
              clear hstp HO HG hown hnew c7 c6 has
              go_wp2_with fail
              go_roundw
              case rel => exact ⟨j + 1, g', co', T2, _, by go_num, rfl, by omega, HP2.out⟩
              case measure => simp [intOf]; omega
            · have hij : j = i := by omega
              subst hij
              have hT0 : T'.size = 0 := by omega
              have tt : decide ((j : Int) < (j : Int)) = false := by simp
              have hv := HPp.out.st.cellv
              rw [hT0] at hv
              have hz : zs = srt L := HPp.out.out.last hT0
              have HCl := hideP (HC.out wr HPp.out.below)
              have hzl := HPp.out.len
              have hcz : Hid (∀ t, t < j → wr.cell? ⟨o, t, none⟩ = some (.int .u64 ((srt L).getD t 0))) := fun t ht => by rw [← hz]; exact (owns_cell HPp.out.own t ht).1
              have hol : Hid (∀ t, t < j → o < wr.heap.size) := fun t ht => World.block_lt_of_cell? _ _ (hcz.out t ht)
              have HB := hideP HPp.out.below
              clear hz hzl HPp hsz hT0 hlt hji HC
              go_wp2_with fail
              refine Calls.mono HCl.out ?_
              rintro e w1 ⟨s, c, rfl, b1, hs⟩
              have HS := hideP hs
              clear HCl hv hs b1
              go_wp2_with fail
              refine Calls.mono HS.out ?_
              rintro e w2 ⟨rfl, b2, hw⟩
              have HE := hideP (So.equal_u (some ⟨o, 0, none⟩) s j co c (fun t => (srt L).getD t 0) w2 hl (fun t ht => ⟨o, 0, rfl, by rw [Nat.zero_add, b2.cell (p := ⟨o, t, none⟩) (hol.out t ht)]; exact hcz.out t ht⟩) (fun t ht => hw t ht))
              have HB2 := hideP (HB.out.trans (b2.mono HB.out.size))
              clear HS b2 hw
              go_wp2_with fail
              refine Calls.mono HE.out ?_
              rintro e w3 ⟨rfl, q, rfl⟩
              clear HE
              go_wp2_with fail
              go_ret
              exact ⟨rfl, below_drewN HB2.out q⟩

set_option maxRecDepth 100000 in
theorem walk_long (a0 : Option Addr) (len cap : Nat) (w : World) (hl : 1024 < len) (hm : len ≤ maxLen) :
    Calls Yba.prog 9 #[.slice a0 len cap] w fun e w' => e = .returned (.bool true) ∧ Below w.heap.size w w' := by
  unfold maxLen at hm
  have hgt : decide ((1024 : Int) < (len : Int)) = true := by simp; omega
  go_enter Yba.func9, Yba.ntmps9
  go_wp2
  go_ret
  exact ⟨rfl, Below.refl _ _⟩

end Go.Proofs.Ybulkcghm.Hs
