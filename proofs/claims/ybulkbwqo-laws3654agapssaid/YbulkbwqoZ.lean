/- DERIVED. (*Buffer).Block with no item, with the law's Gaps. -/
import Derived.Test.YbulkbwqoYa
namespace Go.Proofs.Ybulkbwqo
open Go.RowKit

section
variable {g : GB} {B Bb Lb Pb Ib wd lv : Nat} {v lg sv : Value} {l : List UInt8} {op cl : UInt8} {bare : Bool} {X : Option Addr} {n cap : Nat} {w : World}
set_option maxRecDepth 100000 in
set_option maxHeartbeats 40000000 in
theorem block_empty_g (ok : GOk g) (h : Run B Bb Lb Pb Ib wd g.fn v lg l 0 X n cap w) (hg : GS g B sv 0 [] w) (hP : Pb ≠ g.Kb) (hIb : Ib ≠ g.Kb) (hl : l.length ≤ 65536) (hlv : lv ≤ 255) (hwd : wd ≤ 4) :
    Calls Yba.prog 17 #[.pointer (some ⟨Bb, 0, none⟩), .agg #[.int .u8 op.toNat, .int .u8 cl.toNat, .int .i64 lv, .bool true, .bool bare], .int .i64 (0 : Nat), .func (.func 15) #[] #[.pointer (some ⟨Lb, 0, none⟩), .pointer (some ⟨Pb, 0, none⟩), .pointer (some ⟨Ib, 0, none⟩)]] w
      fun e w' => e = .returned (.tuple #[]) ∧ BlkPost g B Bb Lb Pb Ib wd (l ++ [op] ++ nl (min lv 16 * wd) ++ [cl]) 0 X n cap (seamT 0) w w' := by
  have hB := h.buf.lt
  have bQ : (w.alloc (.cells #[.int .u8 op.toNat, .int .u8 cl.toNat, .int .i64 lv, .bool true, .bool bare] 41)).heap[w.heap.size]? = some (.cells #[.int .u8 op.toNat, .int .u8 cl.toNat, .int .i64 lv, .bool true, .bool bare] 41) := heap_alloc_new w _
  have r1 := h.below ((Below.refl _ _).alloc (Nat.le_refl _) (.cells #[.int .u8 op.toNat, .int .u8 cl.toNat, .int .i64 lv, .bool true, .bool bare] 41))
  have S1 : Stp B T4 w (w.alloc (.cells #[.int .u8 op.toNat, .int .u8 cl.toNat, .int .i64 lv, .bool true, .bool bare] 41)) := (Stp.refl _ _ _).alloc hB _
  generalize hw1 : w.alloc (.cells #[.int .u8 op.toNat, .int .u8 cl.toNat, .int .i64 lv, .bool true, .bool bare] 41) = w1 at *
  generalize hQ : w.heap.size = Q at *
  have q0 : w1.cell? ⟨Q, 0, none⟩ = some (.int .u8 op.toNat) := by simp [World.cell?, bQ]
  have c0 := r1.buf.c0
  have lB : Bb < w1.heap.size := lt_of_some r1.buf.blk
  have lQ : Q < w1.heap.size := lt_of_some bQ
  obtain ⟨x2, m2, k2, w2, hr2, c2, f2, r3, S3⟩ := r1.byte op (by omega)
  have S13 := S1.trans S3.up4
  have bQ3 := S3.fr _ _ _ (by decide) bQ
  generalize hw3 : w2.setCell ⟨Bb, 0, none⟩ (.slice x2 m2 k2) = w3 at *
  have d1 := r3.buf.c1
  have hne := nl_ne (16 * wd)
  have q2 : w3.cell? ⟨Q, 2, none⟩ = some (.int .i64 lv) := by simp [World.cell?, bQ3]
  have q3 : w3.cell? ⟨Q, 3, none⟩ = some (.bool true) := by simp [World.cell?, bQ3]
  have hW0 := hg.w0
  have G3 := hg.stp S13 (by decide)
  have X3 : StX g T4 w w3 := StX.ofStp S13 hW0 (fun _ h => h)
  have hlK := hg.lK
  have hQK : Q ≠ g.Kb := by omega
  have lB3 : Bb < w3.heap.size := lt_of_some r3.buf.blk
  have lQ3 : Q < w3.heap.size := lt_of_some bQ3
  have hw1' : IntKind.i64.wrap ((lv : Int) + 1) = (lv : Int) + 1 := wrap_small (by omega) (by omega)
  have G3d : GS g B sv 0 [] w3.drew := G3.same (fun _ _ _ _ h => h) (Below.refl _ _).drew ok.h1 ok.h2
  have hcl := gap_fn g ok B Bb wd _ _ sv 0 [] 0 w3.drew (r3.buf.below (Below.refl _ _).drew) G3d (by omega) (by simp) (by omega)
  have hle := g.brk_le 0 0
  generalize g.brk 0 0 = b2 at *
  have hcl2 := hcl.mono (R' := fun e w' => ∃ u, e = .returned u ∧ (u = .agg #[.int .i64 0, .int .i64 0, .int .i64 0, .int .i64 b2] ∧ w'.cell? ⟨Q, 2, none⟩ = some (.int .i64 lv) ∧ Calls Yba.prog 20 #[.pointer (some ⟨Bb, 0, none⟩), .agg #[.int .i64 0, .int .i64 0, .int .i64 0, .int .i64 0], .agg #[.int .i64 0, .int .i64 0, .int .i64 0, .int .i64 b2], .int .i64 ((lv + 1 : Nat) : Int), .int .u8 1, .int .u8 1, .int .i64 lv] w' (fun e w'' => ∃ u, e = .returned u ∧ (u = .tuple #[] ∧ ∃ v' sv', Run B Bb Lb Pb Ib wd g.fn v' lg (l ++ [op] ++ nl (min lv 16 * wd)) 0 X n cap w'' ∧ GS g B sv' 0 (seamT 0) w'' ∧ StX g T4 w w'' ∧ w''.heap[Q]? = some (.cells #[.int .u8 op.toNat, .int .u8 cl.toNat, .int .i64 lv, .bool true, .bool bare] 41))))) (fun e w' hh => by
    obtain ⟨rfl, sv', G4, s4⟩ := hh
    have s4' : StG g w3 w' := ⟨⟨s4.bel.os, s4.bel.tape, s4.bel.output, s4.bel.size, s4.bel.block⟩, s4.fr⟩
    have r4 := r3.stg s4' hlK hP hIb
    have b4 := s4'.fr _ _ _ (by decide) (by decide) hQK bQ3
    refine ⟨_, rfl, rfl, by simp [World.cell?, b4], ?_⟩
    refine (lineGap_plain B Bb Lb Pb Ib wd g.fn _ lg _ 0 X n cap 0 b2 (lv + 1) 1 1 lv w' r4 (by simp; omega) hwd (by omega) (by omega) (by omega) (.inr ⟨by omega, hle, rfl⟩)).mono fun e2 w'' hh2 => ?_
    obtain ⟨rfl, v', r5, s5⟩ := hh2
    exact ⟨_, rfl, rfl, v', sv', r5, G4.stp s5 (by decide), (X3.trans (StX.ofG s4')).trans (StX.ofStp s5 hW0 (by simp [T4])), s5.fr _ _ _ (by decide) b4⟩)
  have HC := hid hcl2
  obtain ⟨T, hT⟩ : ∃ T, T = l ++ [op] ++ nl (min lv 16 * wd) ++ [cl] := ⟨_, rfl⟩
  rw [← hT]
  have hnlen := nlm_len (lv := lv) hwd
  have HT0 := hid (And.intro hT hnlen)
  clear hcl hcl2 r3 S13 bQ3 hT hnlen G3 X3 r1 S1 bQ S3 h hg G3d
  go_enter Yba.func17, Yba.ntmps17
  go_upto_region 1 with fail
  go_cut [] from 12 to 22 (fun wz => wz = w3)
  case first =>
    go_region_law (refine step_append_run (by rfl) _ _ 22 22 (by rfl) v _ _ w2 (by rfl) (by rfl) hr2 ?_)
    all_goals
      go_wp2_with fail
      go_meet
      case rel => rfl
  case rest =>
    subst hcut
    clear hr2 hw3 c2 f2
    go_upto_region 14 with fail
    go_cut [] from 79 to 88 (fun wz => ∃ v' sv', Run B Bb Lb Pb Ib wd g.fn v' lg (l ++ [op] ++ nl (min lv 16 * wd)) 0 X n cap wz ∧ GS g B sv' 0 (seamT 0) wz ∧ StX g T4 w wz ∧ wz.heap[Q]? = some (.cells #[.int .u8 op.toNat, .int .u8 cl.toNat, .int .i64 lv, .bool true, .bool bare] 41))
    case first =>
      go_region_law (first | (refine step_callF (by rfl) 20 (by rfl) _ (by first | kernel_rfl | simp [go_sem]) hlg ?_; rintro vg wg ⟨rfl, hfin⟩) | (refine step_callF (by rfl) 21 (by rfl) _ (by first | kernel_rfl | simp [go_sem]) HC.out ?_; rintro vg wg ⟨rfl, hq2, hlg⟩))
      all_goals
        go_wp2_with fail
        go_meet
        case rel => exact hfin
    case rest =>
      obtain ⟨v5, sv5, r5, G5, s5, b5⟩ := hcut
      obtain ⟨x6, m6, k6, w6, hr6, c6, f6, r7, S7⟩ := r5.byte cl (by have := HT0.out.2; simp; omega)
      have g0 := r5.buf.c0
      have q1 : wc.cell? ⟨Q, 1, none⟩ = some (.int .u8 cl.toNat) := by simp [World.cell?, b5]
      have lB5 : Bb < wc.heap.size := lt_of_some r5.buf.blk
      have lQ5 : Q < wc.heap.size := lt_of_some b5
      have H := hid (And.intro r7 (And.intro (G5.stp S7 (by decide)) (s5.trans (StX.ofStp S7.up4 hW0 (fun _ h => h)))))
      clear r7 S7 r5 G5 s5 b5 HC
      go_wp2
      go_region_law (refine step_append_run (by rfl) _ _ 22 22 (by rfl) v5 _ _ w6 (by rfl) (by rfl) hr6 ?_)
      all_goals
        go_wp2
        have h1 := H.out.1
        rw [← HT0.out.1] at h1
        exact bodyPost_ret (results_none rfl _ _ _) rfl ⟨rfl, .slice x6 m6 k6, lg, sv5, h1, H.out.2.1, H.out.2.2⟩
end
end Go.Proofs.Ybulkbwqo
