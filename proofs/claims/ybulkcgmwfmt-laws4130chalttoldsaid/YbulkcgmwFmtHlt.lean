import Derived.Test.YbulkcgmwFmtChk
namespace Go.Proofs.YbulkcgmwFmt.Du
open Go.RowKit Go.Deep
open Go.Extern.Stop Go.Stop Go.Extern
set_option linter.unusedVariables false
set_option linter.unusedSimpArgs false

def haltB : ByteArray := ⟨#[104, 97, 108, 116]⟩

/-- The configuration. -/
def conf (period : Int) (mode root : ByteArray) (tmin : Int) (M n : Nat) : Value :=
  .agg #[.int .i64 period, .string mode, .string root, .int .i64 tmin, .slice (some ⟨M, 0, none⟩) n n, .pointer none, .slice none 0 0]

/-- What the law asks. -/
def want (period : Int) (mode root : ByteArray) (tmin : Int) (mem : Bool) : Bool :=
  if mode.toList == [104, 97, 108, 116] then (!(root.toList == [])) && mem && decide (¬ tmin = 0) && decide (10000000 ≤ tmin) && decide (tmin ≤ period)
  else root.toList == [] && decide (tmin = 0)

/-- An error, or none. -/
def ErrIs (ok : Bool) (v : Value) : Prop := (v = .nilIface ∧ ok = true) ∨ (ok = false ∧ ∃ t p, v = .iface t p)

set_option maxHeartbeats 1600000 in
set_option maxRecDepth 100000 in
theorem halt_other (F : Interp) (period : Int) (mode root : ByteArray) (tmin : Int) (M n : Nat) (S : Nat → ByteArray) (w : World) (h : Mem w M n S) (hn : n ≤ 1024) (hF : F.answers w.tape)
    (ha : -9223372036854775808 ≤ tmin ∧ tmin ≤ 9223372036854775807) (hp : -9223372036854775808 ≤ period ∧ period ≤ 9223372036854775807)
    (hm : (mode.toList == [104, 97, 108, 116]) = false) :
    Calls Ybaf.prog 4 #[conf period mode root tmin M n] w fun e w' => ∃ v, e = .returned v ∧ ErrIs (want period mode root tmin (isIn S root n)) v ∧ Below w.heap.size w w' := by
  have hM := World.rowIs.lt h
  have HC := hideP (member_any period tmin mode root root M n S (w.alloc (.cells #[.int .i64 period, .string mode, .string root, .int .i64 tmin, .slice (some ⟨M, 0, none⟩) n n, .pointer none, .slice none 0 0] 33)) (World.rowIs.alloc h _) hn)
  have HA := hideP (And.intro ha hp)
  clear h ha hp
  unfold conf
  go_enter Ybaf.func4, Ybaf.ntmps4
  go_wp2_with fail
  refine Calls.mono HC.out ?_
  rintro e w1 ⟨a, b, c, rfl, hb1⟩
  clear HC
  generalize hmem : isIn S root n = mem
  have HM := hideP hmem
  clear hmem
  have q0 := (hb1.cell (p := ⟨w.heap.size, 0, none⟩) (by simp)).trans (show _ = some (Value.int .i64 period) by go_simp)
  have q1 := (hb1.cell (p := ⟨w.heap.size, 1, none⟩) (by simp)).trans (show _ = some (Value.string mode) by go_simp)
  have q2 := (hb1.cell (p := ⟨w.heap.size, 2, none⟩) (by simp)).trans (show _ = some (Value.string root) by go_simp)
  have q3 := (hb1.cell (p := ⟨w.heap.size, 3, none⟩) (by simp)).trans (show _ = some (Value.int .i64 tmin) by go_simp)
  have hs1 := hb1.size
  simp at hs1
  have hbel := ((Below.refl w.heap.size w).alloc (Nat.le_refl _) _).trans (hb1.mono (by simp))
  have hlt : w.heap.size < w1.heap.size := by omega
  have hF1 : F.answers w1.tape := by rw [hbel.tape]; exact hF
  have HB := hideP hbel
  have hle := hbel.size
  clear hbel hb1 hF hs1
  have b1 : Below w.heap.size w (w1.alloc (.cells #[.string a, .string b, .string c] 29)) := HB.out.alloc hle _
  have s1 : w.heap.size ≤ (w1.alloc (.cells #[.string a, .string b, .string c] 29)).heap.size := by simp; omega
  have HB1 := hideP (And.intro b1 s1)
  clear b1 s1 HB hle
  cases hr : (root.toList == []) with
  | false =>
    have HE := hideP (errorf1 F (w1.heap.size + 1) ⟨#[104, 97, 108, 116]⟩ ((w1.alloc (.cells #[.string a, .string b, .string c] 29)).alloc (.cells #[.iface 24 (.string ⟨#[104, 97, 108, 116]⟩)] 20)) hF1 (by go_simp))
    have hb2 := hideP (HB1.out.1.alloc HB1.out.2 (.cells #[.iface 24 (.string ⟨#[104, 97, 108, 116]⟩)] 20))
    clear hF1
    go_wp2_with fail
    refine Calls.mono HE.out ?_
    rintro e w' ⟨v, rfl, ⟨pa, ps, rfl, _, _⟩, hb'⟩
    have HF := hideP (hb2.out.trans (hb'.mono hb2.out.size))
    clear HE hb' hb2 HB1
    go_wp2_with fail
    go_ret
    exact ⟨_, rfl, .inr ⟨by simp [want, hm, hr], _, _, rfl⟩, HF.out⟩
  | true =>
    by_cases ht : tmin = 0
    · subst ht
      go_wp2_with fail
      go_ret
      exact ⟨_, rfl, .inl ⟨rfl, by simp [want, hm, hr]⟩, HB1.out.1⟩
    · have HE := hideP (errorf2 F (w1.heap.size + 1) ⟨#[104, 97, 108, 116]⟩ ((w1.alloc (.cells #[.string a, .string b, .string c] 29)).alloc (.cells #[.iface 24 (.string ⟨#[104, 97, 108, 116]⟩)] 20)) hF1 (by go_simp))
      have hb2 := hideP (HB1.out.1.alloc HB1.out.2 (.cells #[.iface 24 (.string ⟨#[104, 97, 108, 116]⟩)] 20))
      clear hF1
      go_wp2_with fail
      refine Calls.mono HE.out ?_
      rintro e w' ⟨v, rfl, ⟨pa, ps, rfl, _, _⟩, hb'⟩
      have HF := hideP (hb2.out.trans (hb'.mono hb2.out.size))
      clear HE hb' hb2 HB1
      go_wp2_with fail
      go_ret
      exact ⟨_, rfl, .inr ⟨by simp [want, hm, hr, ht], _, _, rfl⟩, HF.out⟩

set_option maxHeartbeats 1600000 in
set_option maxRecDepth 100000 in
theorem halt_halt (F : Interp) (period : Int) (mode root : ByteArray) (tmin : Int) (M n : Nat) (S : Nat → ByteArray) (w : World) (h : Mem w M n S) (hn : n ≤ 1024) (hF : F.answers w.tape)
    (ha : -9223372036854775808 ≤ tmin ∧ tmin ≤ 9223372036854775807) (hp : -9223372036854775808 ≤ period ∧ period ≤ 9223372036854775807)
    (hm : (mode.toList == [104, 97, 108, 116]) = true) :
    Calls Ybaf.prog 4 #[conf period mode root tmin M n] w fun e w' => ∃ v, e = .returned v ∧ ErrIs (want period mode root tmin (isIn S root n)) v ∧ Below w.heap.size w w' := by
  have hM := World.rowIs.lt h
  have HC := hideP (member_any period tmin mode root root M n S (w.alloc (.cells #[.int .i64 period, .string mode, .string root, .int .i64 tmin, .slice (some ⟨M, 0, none⟩) n n, .pointer none, .slice none 0 0] 33)) (World.rowIs.alloc h _) hn)
  have HA := hideP (And.intro ha hp)
  clear h ha hp
  unfold conf
  go_enter Ybaf.func4, Ybaf.ntmps4
  go_wp2_with fail
  refine Calls.mono HC.out ?_
  rintro e w1 ⟨a, b, c, rfl, hb1⟩
  clear HC
  generalize hmem : isIn S root n = mem
  have HM := hideP hmem
  clear hmem
  have q0 := (hb1.cell (p := ⟨w.heap.size, 0, none⟩) (by simp)).trans (show _ = some (Value.int .i64 period) by go_simp)
  have q1 := (hb1.cell (p := ⟨w.heap.size, 1, none⟩) (by simp)).trans (show _ = some (Value.string mode) by go_simp)
  have q2 := (hb1.cell (p := ⟨w.heap.size, 2, none⟩) (by simp)).trans (show _ = some (Value.string root) by go_simp)
  have q3 := (hb1.cell (p := ⟨w.heap.size, 3, none⟩) (by simp)).trans (show _ = some (Value.int .i64 tmin) by go_simp)
  have hs1 := hb1.size
  simp at hs1
  have hbel := ((Below.refl w.heap.size w).alloc (Nat.le_refl _) _).trans (hb1.mono (by simp))
  have hlt : w.heap.size < w1.heap.size := by omega
  have hF1 : F.answers w1.tape := by rw [hbel.tape]; exact hF
  have HB := hideP hbel
  have hle := hbel.size
  clear hbel hb1 hF hs1
  have b1 : Below w.heap.size w (w1.alloc (.cells #[.string a, .string b, .string c] 29)) := HB.out.alloc hle _
  have s1 : w.heap.size ≤ (w1.alloc (.cells #[.string a, .string b, .string c] 29)).heap.size := by simp; omega
  have HB1 := hideP (And.intro b1 s1)
  clear b1 s1 HB hle
  cases hr : (root.toList == []) with
  | true =>
    clear hF1
    go_wp2_with fail
    refine (errorsNew _ _).mono ?_
    rintro e w' ⟨p, rfl, hb'⟩
    have HF := hideP (HB1.out.1.trans (hb'.mono HB1.out.2))
    clear hb' HB1
    go_wp2_with fail
    go_ret
    exact ⟨_, rfl, .inr ⟨by simp [want, hm, hr], _, _, rfl⟩, HF.out⟩
  | false =>
    cases mem with
    | false =>
      have HE := hideP (errorf3 F (w1.heap.size + 1) root ((w1.alloc (.cells #[.string a, .string b, .string c] 29)).alloc (.cells #[.iface 9 (.string root)] 20)) hF1 (by go_simp))
      have hb2 := hideP (HB1.out.1.alloc HB1.out.2 (.cells #[.iface 9 (.string root)] 20))
      clear hF1
      go_wp2_with fail
      refine Calls.mono HE.out ?_
      rintro e w' ⟨v, rfl, ⟨pa, ps, rfl, _, _⟩, hb'⟩
      have HF := hideP (hb2.out.trans (hb'.mono hb2.out.size))
      clear HE hb' hb2 HB1
      go_wp2_with fail
      go_ret
      exact ⟨_, rfl, .inr ⟨by simp [want, hm, hr, HM.out], _, _, rfl⟩, HF.out⟩
    | true =>
      by_cases ht : tmin = 0
      · subst ht
        clear hF1
        go_wp2_with fail
        refine (errorsNew _ _).mono ?_
        rintro e w' ⟨p, rfl, hb'⟩
        have HF := hideP (HB1.out.1.trans (hb'.mono HB1.out.2))
        clear hb' HB1
        go_wp2_with fail
        go_ret
        exact ⟨_, rfl, .inr ⟨by simp [want, hm, hr], _, _, rfl⟩, HF.out⟩
      · by_cases hok : 10000000 ≤ tmin ∧ tmin ≤ period
        · have HO := hideP (tmin_ok tmin period (w1.alloc (.cells #[.string a, .string b, .string c] 29)) hok.1 hok.2)
          have HK := hideP hok
          clear hok hF1
          go_wp2_with fail
          refine Calls.mono HO.out ?_
          rintro e w' ⟨rfl, rfl⟩
          clear HO
          go_wp2_with fail
          go_ret
          exact ⟨_, rfl, .inl ⟨rfl, by simp [want, hm, hr, HM.out, ht, HK.out.1, HK.out.2]⟩, HB1.out.1⟩
        · have HO := hideP (tmin_bad F tmin period (w1.alloc (.cells #[.string a, .string b, .string c] 29)) hF1 hok HA.out.1 HA.out.2)
          have HK := hideP hok
          have HF1 := hideP hF1
          clear hok hF1
          go_wp2_with fail
          refine Calls.mono HO.out ?_
          rintro e w2 ⟨v, rfl, hpl, hb2⟩
          have hb2' := HB1.out.1.trans (hb2.mono HB1.out.2)
          have hF2 : F.answers w2.tape := by rw [hb2.tape]; exact HF1.out
          obtain ⟨pa, ps, rfl, hpl1, hpl2⟩ := hpl
          have HE := hideP (errorf4 F w2.heap.size (.iface 45 (.pointer (some pa))) (w2.alloc (.cells #[.iface 45 (.pointer (some pa))] 20)) hF2 ⟨pa, ps, rfl, by simp; omega, by rw [World.cell?_of_block (blk_alloc_lt _ _ _ hpl1)]; exact hpl2⟩ (by go_simp))
          have HB2 := hideP (hb2'.alloc hb2'.size (.cells #[.iface 45 (.pointer (some pa))] 20))
          clear hb2 hb2' hF2 hpl1 hpl2 HO HF1 HB1
          go_wp2_with fail
          refine Calls.mono HE.out ?_
          rintro e w3 ⟨p3, rfl, hb3⟩
          have HF := hideP (HB2.out.trans (hb3.mono HB2.out.size))
          clear HE hb3 HB2
          go_wp2_with fail
          go_ret
          refine ⟨_, rfl, .inr ⟨?_, _, _, rfl⟩, HF.out⟩
          have := HK.out
          simp [want, hm, hr, HM.out, ht]
          omega

theorem halt_any (F : Interp) (period : Int) (mode root : ByteArray) (tmin : Int) (M n : Nat) (S : Nat → ByteArray) (w : World) (h : Mem w M n S) (hn : n ≤ 1024) (hF : F.answers w.tape)
    (ha : -9223372036854775808 ≤ tmin ∧ tmin ≤ 9223372036854775807) (hp : -9223372036854775808 ≤ period ∧ period ≤ 9223372036854775807) :
    Calls Ybaf.prog 4 #[conf period mode root tmin M n] w fun e w' => ∃ v, e = .returned v ∧ ErrIs (want period mode root tmin (isIn S root n)) v ∧ Below w.heap.size w w' := by
  cases hm : (mode.toList == [104, 97, 108, 116]) with
  | false => exact halt_other F period mode root tmin M n S w h hn hF ha hp hm
  | true => exact halt_halt F period mode root tmin M n S w h hn hF ha hp hm

end Go.Proofs.YbulkcgmwFmt.Du
