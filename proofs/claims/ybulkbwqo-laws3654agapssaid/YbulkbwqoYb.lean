/- DERIVED. (*Buffer).Block, one item a line, with the law's Gaps. -/
import Derived.Test.YbulkbwqoYa
import Derived.Deep.CutRange
namespace Go.Proofs.Ybulkbwqo
open Go.RowKit

section
variable {g : GB} {B Bb Lb Pb Ib wd lv N : Nat} {v lg sv : Value} {l : List UInt8} {op cl : UInt8} {lines bare : Bool} {X : Option Addr} {n cap : Nat} {S : Nat → ByteArray} {w : World}
set_option maxRecDepth 100000 in
set_option maxHeartbeats 40000000 in
theorem block_gaps_t (ok : GOk g) (h : Run B Bb Lb Pb Ib wd g.fn v lg l 0 X n cap w) (hg : GS g B sv 0 [] w) (hP : Pb ≠ g.Kb) (hIb : Ib ≠ g.Kb) (hl : l.length ≤ 65536) (hn : n ≤ 1024) (hS : ∀ k, k < n → (S k).size ≤ 4096) (hI : ∀ w', Below g.W0 w w' → ∀ k, k < n → ∃ b off, X = some ⟨b, off, none⟩ ∧ w'.cell? ⟨b, off + k, none⟩ = some (.string (S k)))
    (hN : N ≤ 600) (hN0 : 0 < N) (hlv : lv ≤ 255) (hwd : wd ≤ 4) (hx : lines = true) :
    Calls Yba.prog 17 #[.pointer (some ⟨Bb, 0, none⟩), .agg #[.int .u8 op.toNat, .int .u8 cl.toNat, .int .i64 lv, .bool lines, .bool bare], .int .i64 N, .func (.func 15) #[] #[.pointer (some ⟨Lb, 0, none⟩), .pointer (some ⟨Pb, 0, none⟩), .pointer (some ⟨Ib, 0, none⟩)]] w
      fun e w' => e = .returned (.tuple #[]) ∧ BlkPost g B Bb Lb Pb Ib wd (l ++ [op] ++ expT (itm n S) lv wd N bare (gpF g.eb g.sb N) N ++ [cl]) N X n cap (seamT N) w w' := by
  have hB := h.buf.lt
  have bQ : (w.alloc (.cells #[.int .u8 op.toNat, .int .u8 cl.toNat, .int .i64 lv, .bool lines, .bool bare] 41)).heap[w.heap.size]? = some (.cells #[.int .u8 op.toNat, .int .u8 cl.toNat, .int .i64 lv, .bool lines, .bool bare] 41) := heap_alloc_new w _
  have r1 := h.below ((Below.refl _ _).alloc (Nat.le_refl _) (.cells #[.int .u8 op.toNat, .int .u8 cl.toNat, .int .i64 lv, .bool lines, .bool bare] 41))
  have S1 : Stp B T4 w (w.alloc (.cells #[.int .u8 op.toNat, .int .u8 cl.toNat, .int .i64 lv, .bool lines, .bool bare] 41)) := (Stp.refl _ _ _).alloc hB _
  generalize hw1 : w.alloc (.cells #[.int .u8 op.toNat, .int .u8 cl.toNat, .int .i64 lv, .bool lines, .bool bare] 41) = w1 at *
  generalize hQ : w.heap.size = Q at *
  have q0 : w1.cell? ⟨Q, 0, none⟩ = some (.int .u8 op.toNat) := by simp [World.cell?, bQ]
  have c0 := r1.buf.c0
  have lB : Bb < w1.heap.size := lt_of_some r1.buf.blk
  have lQ : Q < w1.heap.size := lt_of_some bQ
  obtain ⟨x2, m2, k2, w2, hr2, c2, f2, r3, S3⟩ := r1.byte op (by omega)
  have S13 := S1.trans S3.up4
  have bQ3 := S3.fr _ _ _ (by decide) bQ
  generalize hw3 : w2.setCell ⟨Bb, 0, none⟩ (.slice x2 m2 k2) = w3 at *
  have d1 := r3.buf.c1
  have hne := nl_ne (16 * wd)
  have q2 : w3.cell? ⟨Q, 2, none⟩ = some (.int .i64 lv) := by simp [World.cell?, bQ3]
  have q3 : w3.cell? ⟨Q, 3, none⟩ = some (.bool lines) := by simp [World.cell?, bQ3]
  have hW0 := hg.w0
  have G3 := hg.stp S13 (by decide)
  have X3 : StX g T4 w w3 := StX.ofStp S13 hW0 (fun _ h => h)
  have hlK := hg.lK
  have hQK : Q ≠ g.Kb := by omega
  have c3 := r3.buf.c3
  unfold GB.fn at c3
  have lB3 : Bb < w3.heap.size := lt_of_some r3.buf.blk
  have lQ3 : Q < w3.heap.size := lt_of_some bQ3
  have hq := neNil #[.pointer (some ⟨g.Sv, 0, none⟩), .pointer (some ⟨g.Eb, 0, none⟩), .pointer (some ⟨g.Kb, 0, none⟩), .pointer (some ⟨g.Tb, 0, none⟩), .pointer (some ⟨g.Ob, 0, none⟩)] w3
  have hw1' : IntKind.i64.wrap ((lv : Int) + 1) = (lv : Int) + 1 := wrap_small (by omega) (by omega)
  have G3d : GS g B sv 0 [] w3.drew := G3.same (fun _ _ _ _ h => h) (Below.refl _ _).drew ok.h1 ok.h2
  have hcl := gaps_any g ok B sv 0 [] 0 w3.drew G3d (by have := r3.buf.lt; exact this) (by omega) (by simp) (by omega)
  have hle := g.brk_le 0 0
  generalize g.brk 0 0 = b2 at *
  have hcl2 := hcl.mono (R' := fun e w' => ∃ u, e = .returned u ∧ (u = .agg #[.int .i64 0, .int .i64 0, .int .i64 0, .int .i64 b2] ∧ w'.cell? ⟨Q, 2, none⟩ = some (.int .i64 lv) ∧ Calls Yba.prog 20 #[.pointer (some ⟨Bb, 0, none⟩), .agg #[.int .i64 0, .int .i64 0, .int .i64 0, .int .i64 0], .agg #[.int .i64 0, .int .i64 0, .int .i64 0, .int .i64 b2], .int .i64 ((lv + 1 : Nat) : Int), .int .u8 1, .int .u8 0, .int .i64 ((lv + 1 : Nat) : Int)] w' (fun e w'' => ∃ u, e = .returned u ∧ (u = .tuple #[] ∧ ∃ v' sv', Run B Bb Lb Pb Ib wd g.fn v' lg (l ++ [op] ++ expT (itm n S) lv wd N bare (gpF g.eb g.sb N) 0) 0 X n cap w'' ∧ GS g B sv' 0 (seamT 0) w'' ∧ StX g T4 w w'' ∧ w''.heap[Q]? = some (.cells #[.int .u8 op.toNat, .int .u8 cl.toNat, .int .i64 lv, .bool lines, .bool bare] 41))))) (fun e w' hh => by
    obtain ⟨rfl, sv', G4, s4⟩ := hh
    have s4' : StG g w3 w' := ⟨⟨s4.bel.os, s4.bel.tape, s4.bel.output, s4.bel.size, s4.bel.block⟩, s4.fr⟩
    have r4 := r3.stg s4' hlK hP hIb
    have b4 := s4'.fr _ _ _ (by decide) (by decide) hQK bQ3
    refine ⟨_, rfl, rfl, by simp [World.cell?, b4], ?_⟩
    refine (lineGap_open B Bb Lb Pb Ib wd g.fn _ lg _ 0 X n cap b2 (lv + 1) (lv + 1) w' r4 (by simp; omega) hwd (by omega) hle).mono fun e2 w'' hh2 => ?_
    obtain ⟨rfl, v', r5, s5⟩ := hh2
    exact ⟨_, rfl, rfl, v', sv', r5, G4.stp s5 (by decide), (X3.trans (StX.ofG s4')).trans (StX.ofStp s5 hW0 (by simp [T4])), s5.fr _ _ _ (by decide) b4⟩)
  have HC := hid hcl2
  have hit := itm_size hS
  have HI := hid (And.intro hI (And.intro hit hS))
  obtain ⟨T, hT⟩ : ∃ T, T = l ++ [op] ++ expT (itm n S) lv wd N bare (gpF g.eb g.sb N) N ++ [cl] := ⟨_, rfl⟩
  rw [← hT]
  have HT0 := hid hT
  clear hcl hcl2 r3 S13 bQ3 hT hI hit hS G3 X3 r1 S1 bQ S3 h hg G3d
  have n0 : (0 : Int) < (N : Int) := by omega
  have n00 : ¬ (N : Int) = 0 := by omega
  subst hx
  ·
    go_enter Yba.func17, Yba.ntmps17
    go_upto_region 1 with fail
    go_cut [] from 12 to 22 (fun wz => wz = w3)
    case first =>
      go_region_law (refine step_append_run (by rfl) _ _ 22 22 (by rfl) v _ _ w2 (by rfl) (by rfl) hr2 ?_)
      all_goals
        go_wp2_with fail
        go_meet
        case rel => rfl
    case rest =>
      subst hcut
      clear hr2 hw3 c2 f2
      go_upto_region 18 with fail
      go_cut [] from 77 to 130 (fun wz => ∃ v' sv', Run B Bb Lb Pb Ib wd g.fn v' lg (l ++ [op] ++ expT (itm n S) lv wd N bare (gpF g.eb g.sb N) 0) 0 X n cap wz ∧ GS g B sv' 0 (seamT 0) wz ∧ StX g T4 w wz ∧ wz.heap[Q]? = some (.cells #[.int .u8 op.toNat, .int .u8 cl.toNat, .int .i64 lv, .bool true, .bool bare] 41))
      case first =>
        go_region_law (first | (refine step_callF (by rfl) 20 (by rfl) _ (by first | kernel_rfl | simp [go_sem]) hlg ?_; rintro vg wg ⟨rfl, hfin⟩) | (refine step_call (by rfl) 12 _ (by first | kernel_rfl | simp [go_sem]) HC.out ?_; rintro vg wg ⟨rfl, hq2, hlg⟩))
        all_goals
          go_wp2_with fail
          go_meet
          case rel => exact hfin
      case rest =>
        have HC2 := hid hcut
        clear hcut HC d1 q2 q3 c0 q0 c3
        go_wp2
        go_loopw [132] (fun iv wz => ∃ (i : Nat) (v' lg' sv' : Value), i ≤ N ∧ iv = .int .i64 i ∧ Run B Bb Lb Pb Ib wd g.fn v' lg' (l ++ [op] ++ expT (itm n S) lv wd N bare (gpF g.eb g.sb N) i) i X n cap wz ∧ GS g B sv' i (seamT i) wz ∧ StX g T4 w wz ∧ wz.heap[Q]? = some (.cells #[.int .u8 op.toNat, .int .u8 cl.toNat, .int .i64 lv, .bool true, .bool bare] 41)) (fun iv _ => N - (intOf iv).toNat)
        case atStart =>
          obtain ⟨v', sv', r, G, s, b⟩ := HC2.out
          exact ⟨0, _, _, _, Nat.zero_le _, rfl, r, G, s, b⟩
        case round =>
          obtain ⟨i, vi, lgi, svi, hi, rfl, ri, Gi, si, bi⟩ := hrel
          clear HC2
          rename World => w5
          have hlen := expT_len (lv := lv) (wd := wd) (N := N) (bare := bare) (gp := gpF g.eb g.sb N) HI.out.2.1 hwd i
          by_cases hlt : i < N
          · have i1 : (i : Int) < (N : Int) := by omega
            have hli := HI.out.2.1 i
            have hls : (itm n S i).data.size = (itm n S i).size := rfl
            have hrun := runItem_any B Bb Lb Pb Ib wd g.fn vi lgi _ i X n cap S w5 ri (by omega) (by simp; omega) hn HI.out.2.2 (fun w' hw' => HI.out.1 w' (si.bel.trans (hw'.mono hW0)))
            have HR := hid (And.intro hrun (And.intro Gi (And.intro si bi)))
            clear hrun ri Gi si bi
            by_cases hlast : i + 1 = N
            · have e1 : (N : Int) - 1 = (i : Int) := by omega
              have hst : expT (itm n S) lv wd N bare (gpF g.eb g.sb N) (i + 1) = expT (itm n S) lv wd N bare (gpF g.eb g.sb N) i ++ (itm n S i).data.toList ++ (if bare then [] else [44]) ++ blankT (bk g.eb i) (bk g.sb i) true ++ nl (min lv 16 * wd) := by
                have hgp : gpF g.eb g.sb N i = false := by simp [gpF]; omega
                simp [expT, hlast, hgp, blankT]
              have HST := hid hst
              clear hst
              as_aux_lemma =>
                go_wp2_with fail
                refine HR.out.1.mono ?_
                rintro e w8 ⟨rfl, v8, lg8, r8, S8⟩
                have G8 := HR.out.2.1.stp S8 (by decide)
                have s8 := HR.out.2.2.1.trans (StX.ofStp S8 hW0 (fun _ h => h))
                have b8 := S8.fr _ _ _ (by decide) HR.out.2.2.2
                have g8 := r8.buf.c3
                unfold GB.fn at g8
                have gq2 : w8.cell? ⟨Q, 2, none⟩ = some (.int .i64 lv) := by simp [World.cell?, b8]
                have hq8 := neNil #[.pointer (some ⟨g.Sv, 0, none⟩), .pointer (some ⟨g.Eb, 0, none⟩), .pointer (some ⟨g.Kb, 0, none⟩), .pointer (some ⟨g.Tb, 0, none⟩), .pointer (some ⟨g.Ob, 0, none⟩)] w8
                have hend := endItem_fn g ok B Bb Lb Pb Ib wd v8 lg8 _ (i + 1) X n cap Q lv lv _ _ true bare true svi i (seamT i) w8 r8 G8 (by simp; omega) hP hIb hQK hwd hlv (by omega) (by omega) (by rw [seamT_len]; omega) b8
                have HE := hid (And.intro hend (And.intro s8 b8))
                clear hend s8 b8 r8 S8 G8 HR
                go_wp2_with fail
                refine HE.out.1.mono ?_
                rintro e w9 ⟨rfl, v9, sv9, r9, G9, S9⟩
                have s9 := HE.out.2.1.trans S9.up4
                have b9 := S9.fr _ _ _ (by decide) (by decide) (by decide) hQK HE.out.2.2
                have hsp := spill_any B Bb wd g.fn v9 _ w9 r9.buf
                have H := hid (And.intro r9 (And.intro G9 (And.intro s9 b9)))
                have HS := hid hsp
                clear r9 G9 s9 S9 b9 hsp HE
                go_wp2_with fail
                refine HS.out.mono ?_
                rintro e wx ⟨rfl, rfl⟩
                go_wp2
                go_roundw
                case rel =>
                  refine ⟨i + 1, v9, lg8, sv9, by omega, by go_num, ?_, by simpa [seamT] using H.out.2.1, H.out.2.2.1, H.out.2.2.2⟩
                  have h1 := H.out.1
                  rw [HST.out]
                  simpa only [List.append_assoc] using h1
                case measure => simp [intOf]; omega
            · have e1 : ¬ (i : Int) = (N : Int) - 1 := by omega
              have hst : expT (itm n S) lv wd N bare (gpF g.eb g.sb N) (i + 1) = expT (itm n S) lv wd N bare (gpF g.eb g.sb N) i ++ (itm n S i).data.toList ++ (if bare then [] else [44]) ++ blankT (bk g.eb i) (bk g.sb i) false ++ nl (min (lv + 1) 16 * wd) := by
                have hlt2 : i + 1 < N := by omega
                simp [expT, hlast, gpF, blankT, hlt2]
              have HST := hid hst
              clear hst
              as_aux_lemma =>
                go_wp2_with fail
                refine HR.out.1.mono ?_
                rintro e w8 ⟨rfl, v8, lg8, r8, S8⟩
                have G8 := HR.out.2.1.stp S8 (by decide)
                have s8 := HR.out.2.2.1.trans (StX.ofStp S8 hW0 (fun _ h => h))
                have b8 := S8.fr _ _ _ (by decide) HR.out.2.2.2
                have g8 := r8.buf.c3
                unfold GB.fn at g8
                have gq2 : w8.cell? ⟨Q, 2, none⟩ = some (.int .i64 lv) := by simp [World.cell?, b8]
                have hq8 := neNil #[.pointer (some ⟨g.Sv, 0, none⟩), .pointer (some ⟨g.Eb, 0, none⟩), .pointer (some ⟨g.Kb, 0, none⟩), .pointer (some ⟨g.Tb, 0, none⟩), .pointer (some ⟨g.Ob, 0, none⟩)] w8
                have hend := endItem_fn g ok B Bb Lb Pb Ib wd v8 lg8 _ (i + 1) X n cap Q lv (lv + 1) _ _ true bare false svi i (seamT i) w8 r8 G8 (by simp; omega) hP hIb hQK hwd hlv (by omega) (by omega) (by rw [seamT_len]; omega) b8
                have HE := hid (And.intro hend (And.intro s8 b8))
                clear hend s8 b8 r8 S8 G8 HR
                go_wp2_with fail
                refine HE.out.1.mono ?_
                rintro e w9 ⟨rfl, v9, sv9, r9, G9, S9⟩
                have s9 := HE.out.2.1.trans S9.up4
                have b9 := S9.fr _ _ _ (by decide) (by decide) (by decide) hQK HE.out.2.2
                have hsp := spill_any B Bb wd g.fn v9 _ w9 r9.buf
                have H := hid (And.intro r9 (And.intro G9 (And.intro s9 b9)))
                have HS := hid hsp
                clear r9 G9 s9 S9 b9 hsp HE
                go_wp2_with fail
                refine HS.out.mono ?_
                rintro e wx ⟨rfl, rfl⟩
                go_wp2
                go_roundw
                case rel =>
                  refine ⟨i + 1, v9, lg8, sv9, by omega, by go_num, ?_, by simpa [seamT] using H.out.2.1, H.out.2.2.1, H.out.2.2.2⟩
                  have h1 := H.out.1
                  rw [HST.out]
                  simpa only [List.append_assoc] using h1
                case measure => simp [intOf]; omega
          · have i1 : ¬ (i : Int) < (N : Int) := by omega
            as_aux_lemma =>
              obtain ⟨x6, m6, k6, w6, hr6, c6, f6, r7, S7⟩ := ri.byte cl (by simp; omega)
              have g0 := ri.buf.c0
              have q1 : w5.cell? ⟨Q, 1, none⟩ = some (.int .u8 cl.toNat) := by simp [World.cell?, bi]
              have lB5 : Bb < w5.heap.size := lt_of_some ri.buf.blk
              have lQ5 : Q < w5.heap.size := lt_of_some bi
              have hiN : i = N := by omega
              have H := hid (And.intro r7 (And.intro (Gi.stp S7 (by decide)) (And.intro (si.trans (StX.ofStp S7.up4 hW0 (fun _ h => h))) hiN)))
              clear r7 S7 ri Gi si bi hiN lB lQ lB3 lQ3
              go_wp2
              go_region_law (refine step_append_run (by rfl) _ _ 22 22 (by rfl) vi _ _ w6 (by rfl) (by rfl) hr6 ?_)
              all_goals
                go_wp2
                have h1 := H.out.1
                have h2 := H.out.2.1
                rw [H.out.2.2.2] at h1 h2
                rw [← HT0.out] at h1
                exact bodyPost_end (results_none rfl _ _ _) rfl ⟨rfl, .slice x6 m6 k6, lgi, svi, h1, h2, H.out.2.2.1⟩
end
end Go.Proofs.Ybulkbwqo
