/- DERIVED. (*Buffer).Block, one item a line, where the Buffer has no Gaps (asked for). -/
import Derived.Test.YbulkbwqoIa
namespace Go.Proofs.Ybulkbwqo
open Go.RowKit

section
variable {B Bb Lb Pb Ib wd lv N : Nat} {v lg : Value} {l : List UInt8} {op cl : UInt8} {lines bare : Bool} {X : Option Addr} {n cap : Nat} {S : Nat → ByteArray} {w : World}

set_option maxRecDepth 100000 in
set_option maxHeartbeats 40000000 in
theorem block_lines_t (h : Run B Bb Lb Pb Ib wd .nilFunc v lg l 0 X n cap w) (hl : l.length ≤ 65536) (hn : n ≤ 1024) (hS : ∀ k, k < n → (S k).size ≤ 4096) (hI : ∀ w', Below B w w' → ∀ k, k < n → ∃ b off, X = some ⟨b, off, none⟩ ∧ w'.cell? ⟨b, off + k, none⟩ = some (.string (S k)))
    (hN : N ≤ 600) (hN0 : 0 < N) (hlv : lv ≤ 255) (hwd : wd ≤ 4) (hx : lines = true) :
    Calls Yba.prog 17 #[.pointer (some ⟨Bb, 0, none⟩), .agg #[.int .u8 op.toNat, .int .u8 cl.toNat, .int .i64 lv, .bool lines, .bool bare], .int .i64 N, .func (.func 15) #[] #[.pointer (some ⟨Lb, 0, none⟩), .pointer (some ⟨Pb, 0, none⟩), .pointer (some ⟨Ib, 0, none⟩)]] w
      fun e w' => e = .returned (.tuple #[]) ∧ ∃ v' lg', Run B Bb Lb Pb Ib wd .nilFunc v' lg' (l ++ [op] ++ expT (itm n S) lv wd N bare (fun _ => false) N ++ [cl]) N X n cap w' ∧ Stp B T4 w w' := by
  have hB := h.buf.lt
  have bQ : (w.alloc (.cells #[.int .u8 op.toNat, .int .u8 cl.toNat, .int .i64 lv, .bool lines, .bool bare] 41)).heap[w.heap.size]? = some (.cells #[.int .u8 op.toNat, .int .u8 cl.toNat, .int .i64 lv, .bool lines, .bool bare] 41) := heap_alloc_new w _
  have r1 := h.below ((Below.refl _ _).alloc (Nat.le_refl _) (.cells #[.int .u8 op.toNat, .int .u8 cl.toNat, .int .i64 lv, .bool lines, .bool bare] 41))
  have S1 : Stp B T4 w (w.alloc (.cells #[.int .u8 op.toNat, .int .u8 cl.toNat, .int .i64 lv, .bool lines, .bool bare] 41)) := (Stp.refl _ _ _).alloc hB _
  generalize hw1 : w.alloc (.cells #[.int .u8 op.toNat, .int .u8 cl.toNat, .int .i64 lv, .bool lines, .bool bare] 41) = w1 at *
  generalize hQ : w.heap.size = Q at *
  have q0 : w1.cell? ⟨Q, 0, none⟩ = some (.int .u8 op.toNat) := by simp [World.cell?, bQ]
  have c0 := r1.buf.c0
  have lB : Bb < w1.heap.size := lt_of_some r1.buf.blk
  have lQ : Q < w1.heap.size := lt_of_some bQ
  obtain ⟨x2, m2, k2, w2, hr2, c2, f2, r3, S3⟩ := r1.byte op (by omega)
  have S13 := S1.trans S3.up4
  have bQ3 := S3.fr _ _ _ (by decide) bQ
  generalize hw3 : w2.setCell ⟨Bb, 0, none⟩ (.slice x2 m2 k2) = w3 at *
  have d1 := r3.buf.c1
  have hne := nl_ne (16 * wd)
  have q2 : w3.cell? ⟨Q, 2, none⟩ = some (.int .i64 lv) := by simp [World.cell?, bQ3]
  have q3 : w3.cell? ⟨Q, 3, none⟩ = some (.bool lines) := by simp [World.cell?, bQ3]
  clear r1 S1 bQ S3 h
  have c3 := r3.buf.c3
  have g3 := r3.buf.c0
  have lB3 : Bb < w3.heap.size := lt_of_some r3.buf.blk
  have lQ3 : Q < w3.heap.size := lt_of_some bQ3
  have hq := eqNil w3
  have hw1' : IntKind.i64.wrap ((lv : Int) + 1) = (lv : Int) + 1 := wrap_small (by omega) (by omega)
  have hnl := appendNewline_any B Bb wd (lv + 1) _ _ w3.drew hwd (by omega) r3.buf.lt r3.buf.c1 r3.buf.c2 r3.buf.own.drew (by simp; omega)
  have hnl2 := hnl.mono (R' := fun e w' => ∃ v', e = .returned v' ∧ ∃ x m q, v' = .slice x m q ∧ w'.cell? ⟨Bb, 0, none⟩ = some (.slice x2 m2 k2) ∧ w'.frozen? ⟨Bb, 0, none⟩ = false ∧ Run B Bb Lb Pb Ib wd .nilFunc v' lg (l ++ [op] ++ expT (itm n S) lv wd N bare (fun _ => false) 0) 0 X n cap (w'.setCell ⟨Bb, 0, none⟩ v') ∧ Stp B T4 w (w'.setCell ⟨Bb, 0, none⟩ v') ∧ (w'.setCell ⟨Bb, 0, none⟩ v').heap[Q]? = some (.cells #[.int .u8 op.toNat, .int .u8 cl.toNat, .int .i64 lv, .bool lines, .bool bare] 41)) (fun e w' hh => by
    obtain ⟨v', rfl, ho, hs⟩ := hh
    obtain ⟨x, m, q, e1, e2, e3, r, s⟩ := r3.nl hs.ofDrew ho
    exact ⟨v', rfl, x, m, q, e1, e2, e3, r, S13.trans s.up4, s.fr _ _ _ (by decide) bQ3⟩)
  have HN := hid hnl2
  have hit := itm_size hS
  have HI := hid (And.intro hI (And.intro hit hS))
  obtain ⟨T, hT⟩ : ∃ T, T = l ++ [op] ++ expT (itm n S) lv wd N bare (fun _ => false) N ++ [cl] := ⟨_, rfl⟩
  rw [← hT]
  have HT0 := hid hT
  clear hnl hnl2 r3 S13 bQ3 hT hI hit hS
  have n0 : (0 : Int) < (N : Int) := by omega
  have n00 : ¬ (N : Int) = 0 := by omega
  subst hx
  ·
    go_enter Yba.func17, Yba.ntmps17
    go_upto_region 1 with fail
    go_cut [] from 12 to 22 (fun wz => wz = w3)
    case first =>
      go_region_law (refine step_append_run (by rfl) _ _ 22 22 (by rfl) v _ _ w2 (by rfl) (by rfl) hr2 ?_)
      all_goals
        go_wp2_with fail
        go_meet
        case rel => rfl
    case rest =>
      subst hcut
      clear hr2 hw3 c2 f2
      go_upto_region 17 with fail
      go_cut [] from 77 to 116 (fun wz => ∃ v', Run B Bb Lb Pb Ib wd .nilFunc v' lg (l ++ [op] ++ expT (itm n S) lv wd N bare (fun _ => false) 0) 0 X n cap wz ∧ Stp B T4 w wz ∧ wz.heap[Q]? = some (.cells #[.int .u8 op.toNat, .int .u8 cl.toNat, .int .i64 lv, .bool true, .bool bare] 41))
      case first =>
        go_region_law (refine step_call (by rfl) 22 _ (by first | kernel_rfl | simp [go_sem]) HN.out ?_; rintro v9 w9 ⟨x9, m9, q9, rfl, c9, f9, hfin⟩)
        all_goals
          go_wp2_with fail
          go_meet
          case rel => exact ⟨_, hfin⟩
      case rest =>
        have HC := hid hcut
        clear hcut HN d1 q2 q3 c0 q0 c3 g3
        go_wp2
        go_loopw [132] (fun iv wz => ∃ (i : Nat) (v' lg' : Value), i ≤ N ∧ iv = .int .i64 i ∧ Run B Bb Lb Pb Ib wd .nilFunc v' lg' (l ++ [op] ++ expT (itm n S) lv wd N bare (fun _ => false) i) i X n cap wz ∧ Stp B T4 w wz ∧ wz.heap[Q]? = some (.cells #[.int .u8 op.toNat, .int .u8 cl.toNat, .int .i64 lv, .bool true, .bool bare] 41)) (fun iv _ => N - (intOf iv).toNat)
        case atStart =>
          obtain ⟨v', r, s, b⟩ := HC.out
          exact ⟨0, _, _, Nat.zero_le _, rfl, r, s, b⟩
        case round =>
          obtain ⟨i, vi, lgi, hi, rfl, ri, si, bi⟩ := hrel
          clear HC
          rename World => w5
          have hlen := expT_len (lv := lv) (wd := wd) (N := N) (bare := bare) (gp := fun _ => false) HI.out.2.1 hwd i
          by_cases hlt : i < N
          · have i1 : (i : Int) < (N : Int) := by omega
            have hli := HI.out.2.1 i
            have hls : (itm n S i).data.size = (itm n S i).size := rfl
            have hrun := runItem_any B Bb Lb Pb Ib wd .nilFunc vi lgi _ i X n cap S w5 ri (by omega) (by simp; omega) hn HI.out.2.2 (fun w' hw' => HI.out.1 w' (si.bel.trans hw'))
            have HR := hid (And.intro hrun (And.intro si bi))
            clear hrun ri si bi
            by_cases hlast : i + 1 = N
            · have e1 : (N : Int) - 1 = (i : Int) := by omega
              have hst : expT (itm n S) lv wd N bare (fun _ => false) (i + 1) = expT (itm n S) lv wd N bare (fun _ => false) i ++ (itm n S i).data.toList ++ (if bare then [] else [44]) ++ nl (min lv 16 * wd) := by simp [expT, hlast]
              have HST := hid hst
              clear hst
              cases bare with
              | true =>
                as_aux_lemma =>
                  go_wp2_with fail
                  refine HR.out.1.mono ?_
                  rintro e w8 ⟨rfl, v8, lg8, r8, S8⟩
                  have s8 := HR.out.2.1.trans S8
                  have b8 := S8.fr _ _ _ (by decide) HR.out.2.2
                  have g8 := r8.buf.c3
                  have gq2 : w8.cell? ⟨Q, 2, none⟩ = some (.int .i64 lv) := by simp [World.cell?, b8]
                  have gq4 : w8.cell? ⟨Q, 4, none⟩ = some (.bool true) := by simp [World.cell?, b8]
                  have hq8 := eqNil w8
                  have hend := endItem_nil B Bb Lb Pb Ib wd v8 lg8 _ (i + 1) X n cap Q lv lv _ _ true true w8 r8 (by simp; omega) hwd hlv (by omega) b8
                  have HE := hid (And.intro hend (And.intro s8 b8))
                  clear hend s8 b8 r8 S8 HR
                  go_wp2_with fail
                  refine HE.out.1.mono ?_
                  rintro e w9 ⟨rfl, v9, r9, S9⟩
                  have s9 := HE.out.2.1.trans S9.up4
                  have b9 := S9.fr _ _ _ (by decide) HE.out.2.2
                  have hsp := spill_any B Bb wd .nilFunc v9 _ w9 r9.buf
                  have H := hid (And.intro r9 (And.intro s9 b9))
                  have HS := hid hsp
                  clear r9 s9 S9 b9 hsp HE
                  go_wp2_with fail
                  refine HS.out.mono ?_
                  rintro e wx ⟨rfl, rfl⟩
                  go_wp2
                  go_roundw
                  case rel =>
                    refine ⟨i + 1, v9, lg8, by omega, by go_num, ?_, H.out.2.1, H.out.2.2⟩
                    have h1 := H.out.1
                    rw [HST.out]
                    simpa only [if_true, List.append_nil, List.append_assoc] using h1
                  case measure => simp [intOf]; omega
              | false =>
                as_aux_lemma =>
                  go_wp2_with fail
                  refine HR.out.1.mono ?_
                  rintro e w8 ⟨rfl, v8, lg8, r8, S8⟩
                  have s8 := HR.out.2.1.trans S8
                  have b8 := S8.fr _ _ _ (by decide) HR.out.2.2
                  have g8 := r8.buf.c3
                  have g80 := r8.buf.c0
                  have gq2 : w8.cell? ⟨Q, 2, none⟩ = some (.int .i64 lv) := by simp [World.cell?, b8]
                  have gq4 : w8.cell? ⟨Q, 4, none⟩ = some (.bool false) := by simp [World.cell?, b8]
                  have hq8 := eqNil w8
                  obtain ⟨va, wa, hra, oa, Sa⟩ := app1 B v8 _ 44 44 rfl w8 r8.buf.lt r8.buf.own (by simp; omega)
                  have bba := Sa.fr _ _ _ (by decide) r8.buf.blk
                  have hnl := appendNewline_any B Bb wd lv va _ wa hwd (by omega) (by have := Sa.bel.size; have := r8.buf.lt; omega) (by simp [World.cell?, bba]) (by simp [World.cell?, bba]) oa (by simp; omega)
                  have hnl2 := hnl.mono (R' := fun e w' => ∃ x m q, e = .returned (.slice x m q) ∧ w'.cell? ⟨Bb, 0, none⟩ = some v8 ∧ w'.frozen? ⟨Bb, 0, none⟩ = false ∧ Run B Bb Lb Pb Ib wd .nilFunc (.slice x m q) lg8 (l ++ [op] ++ expT (itm n S) lv wd N false (fun _ => false) (i + 1)) (i + 1) X n cap (w'.setCell ⟨Bb, 0, none⟩ (.slice x m q)) ∧ Stp B T4 w (w'.setCell ⟨Bb, 0, none⟩ (.slice x m q)) ∧ (w'.setCell ⟨Bb, 0, none⟩ (.slice x m q)).heap[Q]? = some (.cells #[.int .u8 op.toNat, .int .u8 cl.toNat, .int .i64 lv, .bool true, .bool false] 41)) (fun e w' hh => by
                    obtain ⟨v', rfl, ho, hs⟩ := hh
                    obtain ⟨x, m, q, rfl, e2, e3, r, s⟩ := r8.nl (Sa.trans hs) ho
                    refine ⟨x, m, q, rfl, e2, e3, ?_, s8.trans s.up4, s.fr _ _ _ (by decide) b8⟩
                    rw [HST.out]
                    simpa only [Bool.false_eq_true, if_false, List.append_assoc] using r)
                  have HN := hid hnl2
                  clear hnl hnl2 s8 b8 r8 S8 HR oa Sa bba
                  go_wp2_with (at_builtin; refine wpList_append_run (by rfl) _ _ 22 22 (by rfl) v8 _ _ wa (by rfl) (by rfl) hra ?_)
                  refine HN.out.mono ?_
                  rintro e w9 ⟨x9, m9, q9, rfl, c9, f9, r9, s9, b9⟩
                  generalize hw10 : w9.setCell ⟨Bb, 0, none⟩ (.slice x9 m9 q9) = w10 at *
                  have hsp := spill_any B Bb wd .nilFunc _ _ w10 r9.buf
                  have H := hid (And.intro r9 (And.intro s9 b9))
                  have HS := hid hsp
                  clear r9 s9 b9 hsp HN
                  go_wp2_with fail
                  refine HS.out.mono ?_
                  rintro e wx ⟨rfl, rfl⟩
                  go_wp2
                  go_roundw
                  case rel => exact ⟨i + 1, _, lg8, by omega, by go_num, H.out.1, H.out.2.1, H.out.2.2⟩
                  case measure => simp [intOf]; omega
            · have e1 : ¬ (i : Int) = (N : Int) - 1 := by omega
              have hst : expT (itm n S) lv wd N bare (fun _ => false) (i + 1) = expT (itm n S) lv wd N bare (fun _ => false) i ++ (itm n S i).data.toList ++ (if bare then [] else [44]) ++ nl (min (lv + 1) 16 * wd) := by simp [expT, hlast]
              have HST := hid hst
              clear hst
              cases bare with
              | true =>
                as_aux_lemma =>
                  go_wp2_with fail
                  refine HR.out.1.mono ?_
                  rintro e w8 ⟨rfl, v8, lg8, r8, S8⟩
                  have s8 := HR.out.2.1.trans S8
                  have b8 := S8.fr _ _ _ (by decide) HR.out.2.2
                  have g8 := r8.buf.c3
                  have gq2 : w8.cell? ⟨Q, 2, none⟩ = some (.int .i64 lv) := by simp [World.cell?, b8]
                  have gq4 : w8.cell? ⟨Q, 4, none⟩ = some (.bool true) := by simp [World.cell?, b8]
                  have hq8 := eqNil w8
                  have hend := endItem_nil B Bb Lb Pb Ib wd v8 lg8 _ (i + 1) X n cap Q lv (lv + 1) _ _ true false w8 r8 (by simp; omega) hwd hlv (by omega) b8
                  have HE := hid (And.intro hend (And.intro s8 b8))
                  clear hend s8 b8 r8 S8 HR
                  go_wp2_with fail
                  refine HE.out.1.mono ?_
                  rintro e w9 ⟨rfl, v9, r9, S9⟩
                  have s9 := HE.out.2.1.trans S9.up4
                  have b9 := S9.fr _ _ _ (by decide) HE.out.2.2
                  have hsp := spill_any B Bb wd .nilFunc v9 _ w9 r9.buf
                  have H := hid (And.intro r9 (And.intro s9 b9))
                  have HS := hid hsp
                  clear r9 s9 S9 b9 hsp HE
                  go_wp2_with fail
                  refine HS.out.mono ?_
                  rintro e wx ⟨rfl, rfl⟩
                  go_wp2
                  go_roundw
                  case rel =>
                    refine ⟨i + 1, v9, lg8, by omega, by go_num, ?_, H.out.2.1, H.out.2.2⟩
                    have h1 := H.out.1
                    rw [HST.out]
                    simpa only [if_true, List.append_nil, List.append_assoc] using h1
                  case measure => simp [intOf]; omega
              | false =>
                as_aux_lemma =>
                  go_wp2_with fail
                  refine HR.out.1.mono ?_
                  rintro e w8 ⟨rfl, v8, lg8, r8, S8⟩
                  have s8 := HR.out.2.1.trans S8
                  have b8 := S8.fr _ _ _ (by decide) HR.out.2.2
                  have g8 := r8.buf.c3
                  have g80 := r8.buf.c0
                  have gq2 : w8.cell? ⟨Q, 2, none⟩ = some (.int .i64 lv) := by simp [World.cell?, b8]
                  have gq4 : w8.cell? ⟨Q, 4, none⟩ = some (.bool false) := by simp [World.cell?, b8]
                  have hq8 := eqNil w8
                  obtain ⟨va, wa, hra, oa, Sa⟩ := app1 B v8 _ 44 44 rfl w8 r8.buf.lt r8.buf.own (by simp; omega)
                  have bba := Sa.fr _ _ _ (by decide) r8.buf.blk
                  have hnl := appendNewline_any B Bb wd (lv + 1) va _ wa hwd (by omega) (by have := Sa.bel.size; have := r8.buf.lt; omega) (by simp [World.cell?, bba]) (by simp [World.cell?, bba]) oa (by simp; omega)
                  have hnl2 := hnl.mono (R' := fun e w' => ∃ x m q, e = .returned (.slice x m q) ∧ w'.cell? ⟨Bb, 0, none⟩ = some v8 ∧ w'.frozen? ⟨Bb, 0, none⟩ = false ∧ Run B Bb Lb Pb Ib wd .nilFunc (.slice x m q) lg8 (l ++ [op] ++ expT (itm n S) lv wd N false (fun _ => false) (i + 1)) (i + 1) X n cap (w'.setCell ⟨Bb, 0, none⟩ (.slice x m q)) ∧ Stp B T4 w (w'.setCell ⟨Bb, 0, none⟩ (.slice x m q)) ∧ (w'.setCell ⟨Bb, 0, none⟩ (.slice x m q)).heap[Q]? = some (.cells #[.int .u8 op.toNat, .int .u8 cl.toNat, .int .i64 lv, .bool true, .bool false] 41)) (fun e w' hh => by
                    obtain ⟨v', rfl, ho, hs⟩ := hh
                    obtain ⟨x, m, q, rfl, e2, e3, r, s⟩ := r8.nl (Sa.trans hs) ho
                    refine ⟨x, m, q, rfl, e2, e3, ?_, s8.trans s.up4, s.fr _ _ _ (by decide) b8⟩
                    rw [HST.out]
                    simpa only [Bool.false_eq_true, if_false, List.append_assoc] using r)
                  have HN := hid hnl2
                  clear hnl hnl2 s8 b8 r8 S8 HR oa Sa bba
                  go_wp2_with (at_builtin; refine wpList_append_run (by rfl) _ _ 22 22 (by rfl) v8 _ _ wa (by rfl) (by rfl) hra ?_)
                  refine HN.out.mono ?_
                  rintro e w9 ⟨x9, m9, q9, rfl, c9, f9, r9, s9, b9⟩
                  generalize hw10 : w9.setCell ⟨Bb, 0, none⟩ (.slice x9 m9 q9) = w10 at *
                  have hsp := spill_any B Bb wd .nilFunc _ _ w10 r9.buf
                  have H := hid (And.intro r9 (And.intro s9 b9))
                  have HS := hid hsp
                  clear r9 s9 b9 hsp HN
                  go_wp2_with fail
                  refine HS.out.mono ?_
                  rintro e wx ⟨rfl, rfl⟩
                  go_wp2
                  go_roundw
                  case rel => exact ⟨i + 1, _, lg8, by omega, by go_num, H.out.1, H.out.2.1, H.out.2.2⟩
                  case measure => simp [intOf]; omega
          · have i1 : ¬ (i : Int) < (N : Int) := by omega
            as_aux_lemma =>
              obtain ⟨x6, m6, k6, w6, hr6, c6, f6, r7, S7⟩ := ri.byte cl (by simp; omega)
              have g0 := ri.buf.c0
              have q1 : w5.cell? ⟨Q, 1, none⟩ = some (.int .u8 cl.toNat) := by simp [World.cell?, bi]
              have lB5 : Bb < w5.heap.size := lt_of_some ri.buf.blk
              have lQ5 : Q < w5.heap.size := lt_of_some bi
              have hiN : i = N := by omega
              have H := hid (And.intro r7 (And.intro (si.trans S7.up4) hiN))
              clear r7 S7 ri si bi hiN lB lQ lB3 lQ3
              go_wp2
              go_region_law (refine step_append_run (by rfl) _ _ 22 22 (by rfl) vi _ _ w6 (by rfl) (by rfl) hr6 ?_)
              all_goals
                go_wp2
                refine bodyPost_end (results_none rfl _ _ _) rfl ⟨rfl, .slice x6 m6 k6, lgi, ?_, H.out.2.1⟩
                have h1 := H.out.1
                rw [H.out.2.2] at h1
                rw [HT0.out]
                exact h1
end
end Go.Proofs.Ybulkbwqo
