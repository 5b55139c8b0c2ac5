import Derived.Test.YbulkcgmwFmtHlt
import Derived.Deep.DeepCutAuto
namespace Go.Proofs.YbulkcgmwFmt.Du
open Go.RowKit Go.Deep
open Go.Extern.Stop Go.Stop Go.Extern
set_option linter.unusedVariables false
set_option linter.unusedSimpArgs false

/-- What is read of the slice 'names'. -/
def Reads (w : World) (a0 : Option Addr) (len : Nat) (S : Nat → ByteArray) : Prop :=
  ∀ i, i < len → ∃ b off, b < w.heap.size ∧ a0 = some ⟨b, off, none⟩ ∧ ∀ j, j < len → w.cell? ⟨b, off + j, none⟩ = some (.string (S j))

def Fits (d : Int) : Prop := -9223372036854775808 ≤ d ∧ d ≤ 9223372036854775807

theorem mode_cell (w : World) (j : Int) (h0 : 0 ≤ j) (h5 : j < 5) : ∃ m : ByteArray, (w.alloc (.cells #[.string ⟨#[]⟩, .string ⟨#[97, 108, 108]⟩, .string ⟨#[114, 105, 110, 103]⟩, .string ⟨#[104, 97, 108, 116]⟩, .string ⟨#[120]⟩] 25)).cell? ⟨w.heap.size, j.toNat, none⟩ = some (.string m) := by
  have : j = 0 ∨ j = 1 ∨ j = 2 ∨ j = 3 ∨ j = 4 := by omega
  rcases this with rfl | rfl | rfl | rfl | rfl
  · exact ⟨⟨#[]⟩, by go_simp⟩
  · exact ⟨⟨#[97, 108, 108]⟩, by go_simp⟩
  · exact ⟨⟨#[114, 105, 110, 103]⟩, by go_simp⟩
  · exact ⟨⟨#[104, 97, 108, 116]⟩, by go_simp⟩
  · exact ⟨⟨#[120]⟩, by go_simp⟩

/-- The names that the first i rounds have laid. -/
def upTo (S : Nat → ByteArray) (i : Nat) : Nat → ByteArray := fun k => if k < i then S k else ⟨#[]⟩

theorem Mem.set {w : World} {M n i : Nat} {S : Nat → ByteArray} (h : Mem w M n (upTo S i)) (hi : i < n) : Mem (w.setCell ⟨M, i * 3, none⟩ (.string (S i))) M n (upTo S (i + 1)) := by
  refine World.rowIs.congr (World.rowIs.set h (i * 3) (.string (S i))) fun q hq => ?_
  by_cases e : q = i * 3
  · subst e
    rw [if_pos rfl, if_pos (by omega), Nat.mul_div_cancel _ (by omega), upTo, if_pos (by omega)]
  · rw [if_neg e]
    by_cases e3 : q % 3 = 0
    · rw [if_pos e3, if_pos e3, upTo, upTo]
      by_cases c : q / 3 < i
      · rw [if_pos c, if_pos (by omega)]
      · rw [if_neg c, if_neg (by omega)]
    · rw [if_neg e3, if_neg e3]

theorem Mem.done {w : World} {M n : Nat} {S : Nat → ByteArray} (h : Mem w M n (upTo S n)) : Mem w M n S := by
  refine World.rowIs.congr h fun q hq => ?_
  by_cases e3 : q % 3 = 0
  · rw [if_pos e3, if_pos e3, upTo, if_pos (by omega)]
  · rw [if_neg e3, if_neg e3]

theorem Mem.frozen {w : World} {M n : Nat} {S : Nat → ByteArray} (h : Mem w M n S) (i : Nat) : w.frozen? ⟨M, i, none⟩ = false := World.rowIs.frozen h i

theorem mem_new (w : World) (n : Nat) (S : Nat → ByteArray) : Mem (w.alloc (.cells (madeCells #[.string ⟨#[]⟩, .string ⟨#[]⟩, .string ⟨#[]⟩] (n * 3)) 29)) w.heap.size n (upTo S 0) := by
  have h := World.rowIs_alloc w (madeCells #[.string ⟨#[]⟩, .string ⟨#[]⟩, .string ⟨#[]⟩] (n * 3)) 29 (fun i => .string (if i % 3 = 0 then upTo S 0 (i / 3) else ⟨#[]⟩)) (fun i hi => by
    rw [size_madeCells] at hi
    have e : i % 3 = 0 ∨ i % 3 = 1 ∨ i % 3 = 2 := by omega
    simp [madeCells, hi, upTo]
    rcases e with e | e | e <;> simp [e])
  rw [size_madeCells] at h
  unfold Mem
  rw [Nat.mul_comm 3 n]
  exact h

theorem made27 (len : Nat) (hl : len ≤ 1024) (W : World) : (Instr.makeSlice 27 (.int .i64 (len : Int)) (.int .i64 (len : Int))).run Ybaf.prog W = .ok (.slice (some ⟨W.heap.size, 0, none⟩) len len) (W.alloc (.cells (madeCells #[.string ⟨#[]⟩, .string ⟨#[]⟩, .string ⟨#[]⟩] (len * 3)) 29)) := by
  have := run_makeSlice W 27 29 Ybaf.t29 (.agg #[.string ⟨#[]⟩, .string ⟨#[]⟩, .string ⟨#[]⟩]) Ybaf.underlying27 (by kernel_rfl) (by rfl) .i64 .i64 (len : Int) (len : Int) (by omega) (by omega)
    (by rw [show Ybaf.t29.size = 3 from rfl]; omega) (by rw [show Ybaf.t29.bytes = 48 from rfl]; omega) (by omega)
  rw [show Ybaf.t29.size = 3 from rfl] at this
  simpa [Value.cells] using this

set_option maxHeartbeats 1600000 in
set_option maxRecDepth 100000 in
theorem law_any (F : Interp) (ms ps : Int) (praw : Int) (poff : Int) (rs : Int) (rraw : ByteArray) (ri ts : Int) (traw : Int) (a0 : Option Addr) (len cap : Nat) (S : Nat → ByteArray) (w : World)
    (hF : F.answers w.tape) (hl : len ≤ 1024) (hR : Reads w a0 len S) (h1 : 0 ≤ ms ∧ ms ≤ 255) (h2 : 0 ≤ ps ∧ ps ≤ 255) (h3 : Fits praw) (h4 : 0 ≤ poff ∧ poff ≤ 65535) (h5 : 0 ≤ rs ∧ rs ≤ 255) (h6 : 0 ≤ ri ∧ ri ≤ 255) (h7 : 0 ≤ ts ∧ ts ≤ 255) (h8 : Fits traw) :
    Calls Ybaf.prog 3 #[.int .u8 ms, .int .u8 ps, .int .i64 praw, .int .u16 poff, .int .u8 rs, .string rraw, .int .u8 ri, .int .u8 ts, .int .i64 traw, .slice a0 len cap] w fun e w' => e = .returned (.bool true) ∧ Below w.heap.size w w' := by
  have hgt : decide ((1024 : Int) < (len : Int)) = false := by simp; omega
  obtain ⟨mode, hmode⟩ := mode_cell w (ms % 5) (by omega) (by omega)
  have HR := hideP hR
  have HF := hideP hF
  have HH := hideP (And.intro h3 (And.intro h4 (And.intro h5 (And.intro h6 (And.intro h7 h8)))))
  have hmm : 0 ≤ ms % 5 ∧ ms % 5 < 5 := by omega
  have hmt : ms.tmod 5 = ms % 5 := Int.tmod_eq_emod_of_nonneg (by omega)
  clear hR hF h3 h4 h5 h6 h7 h8
  go_enter Ybaf.func3, Ybaf.ntmps3
  go_upto_if 46 with (fail)
  go_cut [23] (fun s23 wx => ∃ p : Int, s23 = .int .i64 p ∧ Fits p ∧ wx = w.alloc (.cells #[.string ⟨#[]⟩, .string ⟨#[97, 108, 108]⟩, .string ⟨#[114, 105, 110, 103]⟩, .string ⟨#[104, 97, 108, 116]⟩, .string ⟨#[120]⟩] 25))
  case first =>
    as_aux_lemma =>
    have h4 := HH.out.2.1
    have h41 := h4.1
    have h42 := h4.2
    clear h4
    go_wp2_with fail
    all_goals go_meet
    all_goals first
      | exact ⟨praw, rfl, HH.out.1, rfl⟩
      | exact ⟨10000000 + poff * 1000000, rfl, ⟨by omega, by omega⟩, rfl⟩
  case rest =>
  as_aux_lemma =>
  obtain ⟨p, rfl, hp, rfl⟩ := hcut
  clear hmode hmm hmt
  have HP := hideP hp
  clear hp
  have hmk := made27 len hl
  have b0 : Below w.heap.size w (w.alloc (.cells #[.string ⟨#[]⟩, .string ⟨#[97, 108, 108]⟩, .string ⟨#[114, 105, 110, 103]⟩, .string ⟨#[104, 97, 108, 116]⟩, .string ⟨#[120]⟩] 25)) := (Below.refl _ _).alloc (Nat.le_refl _) _
  have z0 : (w.alloc (.cells #[.string ⟨#[]⟩, .string ⟨#[97, 108, 108]⟩, .string ⟨#[114, 105, 110, 103]⟩, .string ⟨#[104, 97, 108, 116]⟩, .string ⟨#[120]⟩] 25)).heap.size = w.heap.size + 1 := by simp
  generalize (w.alloc (.cells #[.string ⟨#[]⟩, .string ⟨#[97, 108, 108]⟩, .string ⟨#[114, 105, 110, 103]⟩, .string ⟨#[104, 97, 108, 116]⟩, .string ⟨#[120]⟩] 25)) = w0 at *
  have HB0 := hideP (And.intro (b0.alloc (by omega) (.cells (madeCells #[.string ⟨#[]⟩, .string ⟨#[]⟩, .string ⟨#[]⟩] (len * 3)) 29)) (mem_new w0 len S))
  clear b0
  obtain ⟨M, hMe⟩ : ∃ M, M = w.heap.size + 1 := ⟨_, rfl⟩
  rw [z0, ← hMe] at HB0
  have HME := hideP hMe
  clear hMe
  go_upto_region 9 with (fail)
  rw [← HME.out]
  generalize (w0.alloc (.cells (madeCells #[.string ⟨#[]⟩, .string ⟨#[]⟩, .string ⟨#[]⟩] (len * 3)) 29)) = w1 at *
  clear z0 hmk
  go_wp2_with fail
  go_loopw [25] (fun s25 wr => ∃ i : Nat, s25 = .int .i64 i ∧ i ≤ len ∧ Below w.heap.size w wr ∧ Mem wr M len (upTo S i)) (fun s25 _ => len - (intOf s25).toNat)
  case atStart => exact ⟨0, rfl, Nat.zero_le _, HB0.out.1, HB0.out.2⟩
  case round =>
    as_aux_lemma =>
    obtain ⟨i, rfl, hin, hbel, hmem⟩ := hrel
    clear HB0
    by_cases hlt : i < len
    · obtain ⟨b, off, hb, rfl, hc⟩ := HR.out i hlt
      have c0 := (hbel.cell (p := ⟨b, off + i, none⟩) hb).trans (hc i hlt)
      have m0 := hmem.c0 hlt
      have f0 := hmem.frozen (i * 3)
      have hMl := World.rowIs.lt hmem
      have hbw : b < wr.heap.size := Nat.lt_of_lt_of_le hb hbel.size
      have HX := hideP (And.intro hbel hmem)
      clear hbel hmem hc
      have hlt' : decide ((i : Int) < (len : Int)) = true := by simp; omega
      go_wp2_with fail
      go_roundw
      case rel => exact ⟨i + 1, by go_num, by omega, HX.out.1.setCell (p := ⟨M, i * 3, none⟩) (by show w.heap.size ≤ M; have := HME.out; omega) _, HX.out.2.set hlt⟩
      case measure => simp [intOf]; omega
    · obtain rfl : i = len := by omega
      have hMem := hmem.done
      have HX := hideP (And.intro hbel hMem)
      clear hbel hmem hMem hlt hin
      go_upto_region 13 with (fail)
      rename_i K13 h13
      go_cut [26] (fun s26 wx => s26 = .string rraw ∧ wx = wr)
      case first =>
        as_aux_lemma =>
        go_wp2_with fail
        go_meet
        exact ⟨rfl, rfl⟩
      case rest =>
      as_aux_lemma =>
      obtain ⟨rfl, hwc⟩ := hcut
      rw [← hwc] at HX
      clear hwc
      refine h13 _ _ ?_
      clear h13
      refine wp_seq_k ?_
      intro Kx hKx
      go_cut [26] (fun s26 wx => ∃ r : ByteArray, s26 = .string r ∧ wx = wc)
      case first =>
        as_aux_lemma =>
        obtain ⟨h61, h62⟩ := HH.out.2.2.2.1
        by_cases h0 : i = 0
        · subst h0
          go_wp2_with fail
          all_goals go_meet
          all_goals exact ⟨_, rfl, rfl⟩
        · obtain ⟨b, off, hb, rfl, hc⟩ := HR.out 0 (by omega)
          have hri : 0 ≤ ri % (i : Int) ∧ ri % (i : Int) < i := ⟨Int.emod_nonneg _ (by omega), Int.emod_lt_of_pos _ (by omega)⟩
          obtain ⟨hri1, hri2⟩ := hri
          have hrt : ri.tmod (i : Int) = ri % (i : Int) := Int.tmod_eq_emod_of_nonneg h61
          have c0 := (HX.out.1.cell (p := ⟨b, off + (ri % (i : Int)).toNat, none⟩) hb).trans (hc (ri % (i : Int)).toNat (by omega))
          have hpos : decide ((0 : Int) < (i : Int)) = true := by simp; omega
          clear hc
          go_wp2_with fail
          all_goals go_meet
          all_goals exact ⟨_, rfl, rfl⟩
      case rest =>
      as_aux_lemma =>
      obtain ⟨root, rfl, rfl⟩ := hcut
      refine hKx _ _ ?_
      clear hKx
      go_upto_region 20 with (fail)
      rename_i K20 h20
      go_cut [27] (fun s27 wx => s27 = .int .i64 0 ∧ wx = wc)
      case first =>
        as_aux_lemma =>
        go_wp2_with fail
        go_meet
        exact ⟨rfl, rfl⟩
      case rest =>
      as_aux_lemma =>
      obtain ⟨rfl, rfl⟩ := hcut
      refine h20 _ _ ?_
      clear h20
      refine wp_seq_k ?_
      intro Ky hKy
      go_cut [27] (fun s27 wx => ∃ t : Int, s27 = .int .i64 t ∧ Fits t ∧ wx = wc)
      case first =>
        as_aux_lemma =>
        go_wp2_with fail
        all_goals go_meet
        all_goals first
          | exact ⟨_, rfl, HP.out, rfl⟩
          | exact ⟨_, rfl, HH.out.2.2.2.2.2, rfl⟩
          | exact ⟨0, rfl, ⟨by omega, by omega⟩, rfl⟩
          | exact ⟨10000000, rfl, ⟨by omega, by omega⟩, rfl⟩
      case rest =>
      as_aux_lemma =>
      obtain ⟨t, rfl, ht, rfl⟩ := hcut
      refine hKy _ _ ?_
      clear hKy
      have HT := hideP ht
      clear ht
      have hwz := HX.out.1.size
      have HC := hideP (halt_any F p mode root t M i S (wc.alloc (.cells #[.int .i64 p, .string mode, .string root, .int .i64 t, .slice (some ⟨M, 0, none⟩) i i, .pointer none, .slice none 0 0] 33)) (World.rowIs.alloc HX.out.2 _) hl (by show F.answers wc.tape; rw [HX.out.1.tape]; exact HF.out) HT.out HP.out)
      go_upto_region 31 with (first | (go_at_call 4; unfold conf at HC; refine Calls.mono HC.out ?_; rintro e w2 ⟨v, rfl, hv, hb2⟩))
      have hMl := World.rowIs.lt HX.out.2
      have hb3 : Below w.heap.size w w2 := (HX.out.1.alloc hwz _).trans (hb2.mono (by simp; omega))
      have hMem2 : Mem w2 M i S := World.rowIs.of_block (World.rowIs.alloc HX.out.2 _) (hb2.block M (by simp; omega))
      have HX2 := hideP (And.intro hb3 hMem2)
      have HV := hideP hv
      clear HC hb2 hb3 hMem2 hv HX hMl hwz HH
      go_wp2_with fail
      go_loopw [30, 31] (fun s30 s31 wr => ∃ q : Nat, s31 = .int .i64 q ∧ q ≤ i ∧ s30 = .bool (isIn S root q) ∧ wr = w2) (fun _ s31 _ => i - (intOf s31).toNat)
      case atStart => exact ⟨0, rfl, Nat.zero_le _, rfl, rfl⟩
      case round =>
        as_aux_lemma =>
        obtain ⟨q, rfl, hq, rfl, hwr⟩ := hrel
        subst hwr
        by_cases hlt : q < i
        · obtain ⟨b, off, hb, rfl, hc⟩ := HR.out q hlt
          have c0 := (HX2.out.1.cell (p := ⟨b, off + q, none⟩) hb).trans (hc q hlt)
          have hlt' : decide ((q : Int) < (i : Int)) = true := by simp; omega
          clear hc
          cases heq : ((S q).toList == root.toList) with
          | true =>
            go_wp2_with fail
            go_roundw
            case rel => exact ⟨q + 1, by go_num, by omega, by rw [isIn, heq, Bool.or_true], trivial⟩
            case measure => simp [intOf]; omega
          | false =>
            go_wp2_with fail
            go_roundw
            case rel => exact ⟨q + 1, by go_num, by omega, by rw [isIn, heq, Bool.or_false], trivial⟩
            case measure => simp [intOf]; omega
        · obtain rfl : q = i := by omega
          generalize isIn S root q = mem at *
          have hlt' : decide ((q : Int) < (q : Int)) = false := by simp
          go_upto_if 117 with (fail)
          go_cut [32] (fun s32 wx => s32 = .bool (want p mode root t mem) ∧ wx = wr)
          case first =>
            as_aux_lemma =>
            cases hm : (mode.toList == [104, 97, 108, 116]) with
            | false =>
              cases hr : (root.toList == []) with
              | false =>
                go_wp2_with fail
                all_goals go_meet
                all_goals exact ⟨by simp [want, hm, hr], rfl⟩
              | true =>
                by_cases h0 : t = 0
                · subst h0
                  go_wp2_with fail
                  all_goals go_meet
                  all_goals exact ⟨by simp [want, hm, hr], rfl⟩
                · have h0' : decide (t = 0) = false := by simp [h0]
                  go_wp2_with fail
                  all_goals go_meet
                  all_goals exact ⟨by simp [want, hm, hr, h0], rfl⟩
            | true =>
              cases hr : (root.toList == []) with
              | true =>
                go_wp2_with fail
                all_goals go_meet
                all_goals exact ⟨by simp [want, hm, hr], rfl⟩
              | false =>
                cases mem with
                | false =>
                  go_wp2_with fail
                  all_goals go_meet
                  all_goals exact ⟨by simp [want, hm, hr], rfl⟩
                | true =>
                  by_cases h0 : t = 0
                  · subst h0
                    go_wp2_with fail
                    all_goals go_meet
                    all_goals exact ⟨by simp [want, hm, hr], rfl⟩
                  · have h0' : decide (t = 0) = false := by simp [h0]
                    by_cases h10 : 10000000 ≤ t
                    · have h10' : decide (10000000 ≤ t) = true := by simp [h10]
                      by_cases hle : t ≤ p
                      · have hle' : decide (t ≤ p) = true := by simp [hle]
                        go_wp2_with fail
                        all_goals go_meet
                        all_goals exact ⟨by simp [want, hm, hr, h0, h10, hle], rfl⟩
                      · have hle' : decide (t ≤ p) = false := by simp [hle]
                        go_wp2_with fail
                        all_goals go_meet
                        all_goals exact ⟨by simp [want, hm, hr, h0, h10, hle], rfl⟩
                    · have h10' : decide (10000000 ≤ t) = false := by simp [h10]
                      go_wp2_with fail
                      all_goals go_meet
                      all_goals exact ⟨by simp [want, hm, hr, h0, h10] <;> omega, rfl⟩
          case rest =>
          as_aux_lemma =>
          obtain ⟨rfl, hwc⟩ := hcut
          subst hwc
          generalize want p mode root t mem = wn at *
          have hlv := HX2.out.1.size
          go_wp2_with fail
          go_loopw [33] (fun s33 wr => ∃ k : Nat, s33 = .int .i64 k ∧ k ≤ q ∧ Below w.heap.size w wr ∧ Mem wr M q S) (fun s33 _ => q - (intOf s33).toNat)
          case atStart => exact ⟨0, rfl, Nat.zero_le _, HX2.out.1, HX2.out.2⟩
          case round =>
            as_aux_lemma =>
            obtain ⟨k, rfl, hk, hbel, hmem⟩ := hrel
            clear HX2
            by_cases hkq : k < q
            · obtain ⟨b, off, hb, rfl, hc⟩ := HR.out k hkq
              have c0 := (hbel.cell (p := ⟨b, off + k, none⟩) hb).trans (hc k hkq)
              have m0 := hmem.c0 hkq
              have m1 := hmem.c1 hkq
              have m2 := hmem.c2 hkq
              have hkq' : decide ((k : Int) < (q : Int)) = true := by simp; omega
              have hMl := World.rowIs.lt hmem
              have hbw : b < wr.heap.size := Nat.lt_of_lt_of_le hb hbel.size
              have HY := hideP (And.intro hbel hmem)
              clear hc hbel hmem
              go_wp2_with fail
              go_quiet (fail)
              go_wp2_with fail
              go_roundw
              case rel => exact ⟨k + 1, by go_num, by omega, HY.out.1.trans ⟨rfl, rfl, rfl, Nat.le_refl _, fun _ _ => rfl⟩, World.rowIs.of_block HY.out.2 rfl⟩
              case measure => simp [intOf]; omega
            · obtain rfl : k = q := by omega
              have hkq' : decide ((k : Int) < (k : Int)) = false := by simp
              have HY := hideP hbel
              clear hbel hmem
              rcases HV.out with ⟨rfl, rfl⟩ | ⟨rfl, tt, pp, rfl⟩
              · go_wp2_with fail
                go_ret
                exact ⟨rfl, HY.out⟩
              · go_wp2_with fail
                go_ret
                exact ⟨rfl, HY.out⟩

set_option maxRecDepth 100000 in
theorem law_long (ms ps praw poff rs : Int) (rraw : ByteArray) (ri ts traw : Int) (a0 : Option Addr) (len cap : Nat) (w : World) (hl : 1024 < len) (hm : len ≤ maxLen) :
    Calls Ybaf.prog 3 #[.int .u8 ms, .int .u8 ps, .int .i64 praw, .int .u16 poff, .int .u8 rs, .string rraw, .int .u8 ri, .int .u8 ts, .int .i64 traw, .slice a0 len cap] w fun e w' => e = .returned (.bool true) ∧ Below w.heap.size w w' := by
  unfold maxLen at hm
  have hgt : decide ((1024 : Int) < (len : Int)) = true := by simp; omega
  go_enter Ybaf.func3, Ybaf.ntmps3
  go_wp2_with fail
  go_ret
  exact ⟨rfl, Below.refl _ _⟩

end Go.Proofs.YbulkcgmwFmt.Du
