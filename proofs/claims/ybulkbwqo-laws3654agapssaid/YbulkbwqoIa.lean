/- DERIVED. (*Buffer).Block with no item, where the Buffer has no Gaps. -/
import Derived.Test.YbulkbwqoK
import Derived.Test.YbulkbwqoH
namespace Go.Proofs.Ybulkbwqo
open Go.RowKit

theorem set_same {w : World} {b i : Nat} {c : Array Value} {t : TypeId} {v : Value} (h : w.heap[b]? = some (.cells c t)) (hv : c[i]? = some v) : w.setCell ⟨b, i, none⟩ v = w := by
  have hc : c.setIfInBounds i v = c := by
    apply Array.ext_getElem?
    intro k
    rw [Array.getElem?_setIfInBounds]
    split
    · rename_i e; subst e
      split
      · exact hv.symm
      · rename_i hh; rw [Array.getElem?_eq_none (by omega)]
    · rfl
  have hh : (w.setCell ⟨b, i, none⟩ v).heap = w.heap := by
    apply Array.ext_getElem?
    intro k
    by_cases e : k = b
    · subst e
      simp only [World.setCell, Array.getElem?_modify, if_true, h, Option.map_some, Option.isSome_none, Bool.false_eq_true, if_false, hc]
    · exact Below.heap_setCell _ _ _ _ e
  unfold World.setCell at hh ⊢
  simp only at hh ⊢
  rw [hh]

set_option maxRecDepth 100000 in
theorem gap_nil' (B Bb wd at' : Nat) (v : Value) (l : List UInt8) (w : World) (h : Buf B Bb wd .nilFunc v l w) :
    Calls Yba.prog 21 #[.pointer (some ⟨Bb, 0, none⟩), .int .u8 at'] w fun e w' => e = .returned (.agg #[.int .i64 0, .int .i64 0, .int .i64 0, .int .i64 0]) ∧ w' = w.alloc (.cells #[.int .i64 0, .int .i64 0, .int .i64 0, .int .i64 0] 56) := by
  have b0 : (w.alloc (.cells #[.int .i64 0, .int .i64 0, .int .i64 0, .int .i64 0] 56)).heap[w.heap.size]? = some (.cells #[.int .i64 0, .int .i64 0, .int .i64 0, .int .i64 0] 56) := heap_alloc_new w _
  have h3 := (h.below ((Below.refl _ _).alloc (Nat.le_refl _) (.cells #[.int .i64 0, .int .i64 0, .int .i64 0, .int .i64 0] 56))).c3
  generalize hw1 : w.alloc (.cells #[.int .i64 0, .int .i64 0, .int .i64 0, .int .i64 0] 56) = w1 at *
  generalize hQ : w.heap.size = Q at *
  have z0 : w1.cell? ⟨Q, 0, none⟩ = some (.int .i64 0) := by simp [World.cell?, b0]
  have z1 : w1.cell? ⟨Q, 1, none⟩ = some (.int .i64 0) := by simp [World.cell?, b0]
  have z2 : w1.cell? ⟨Q, 2, none⟩ = some (.int .i64 0) := by simp [World.cell?, b0]
  have z3 : w1.cell? ⟨Q, 3, none⟩ = some (.int .i64 0) := by simp [World.cell?, b0]
  have f0 : w1.frozen? ⟨Q, 0, none⟩ = false := by simp [World.frozen?, b0]
  have f1 : w1.frozen? ⟨Q, 1, none⟩ = false := by simp [World.frozen?, b0]
  have f2 : w1.frozen? ⟨Q, 2, none⟩ = false := by simp [World.frozen?, b0]
  have f3 : w1.frozen? ⟨Q, 3, none⟩ = false := by simp [World.frozen?, b0]
  have hq := eqNil w1
  have e0 : w1.setCell ⟨Q, 0, none⟩ (.int .i64 0) = w1 := set_same b0 rfl
  have e1 : w1.setCell ⟨Q, 1, none⟩ (.int .i64 0) = w1 := set_same b0 rfl
  have e2 : w1.setCell ⟨Q, 2, none⟩ (.int .i64 0) = w1 := set_same b0 rfl
  have e3 : w1.setCell ⟨Q, 3, none⟩ (.int .i64 0) = w1 := set_same b0 rfl
  have H := hid (And.intro b0 (And.intro e0 (And.intro e1 (And.intro e2 e3))))
  clear h b0 e0 e1 e2 e3
  go_enter Yba.func21, Yba.ntmps21
  go_wp2
  obtain ⟨b0, e0, e1, e2, e3⟩ := H.out
  have hg : ((((w1.setCell ⟨Q, 0, none⟩ (.int .i64 0)).setCell ⟨Q, 1, none⟩ (.int .i64 0)).setCell ⟨Q, 2, none⟩ (.int .i64 0)).setCell ⟨Q, 3, none⟩ (.int .i64 0)).heap[Q]? = some (.cells #[.int .i64 0, .int .i64 0, .int .i64 0, .int .i64 0] 56) := by
    simp [World.setCell, Array.getElem?_modify, b0]
  refine bodyPost_ret (results_cell_row (by rfl) _ _ Q 56 _ (0, 0) _ (by rfl) hg Yba.underlying56 rfl (by kernel_rfl)) rfl ⟨rfl, ?_⟩
  rw [e0, e1, e2, e3]

section
variable {B Bb Lb Pb Ib wd lv N : Nat} {v lg : Value} {l : List UInt8} {op cl : UInt8} {lines bare : Bool} {X : Option Addr} {n cap : Nat} {S : Nat → ByteArray} {w : World}

set_option maxRecDepth 100000 in
set_option maxHeartbeats 40000000 in
theorem block_empty (h : Run B Bb Lb Pb Ib wd .nilFunc v lg l 0 X n cap w) (hl : l.length ≤ 65536) (hlv : lv ≤ 255) (hwd : wd ≤ 4) :
    Calls Yba.prog 17 #[.pointer (some ⟨Bb, 0, none⟩), .agg #[.int .u8 op.toNat, .int .u8 cl.toNat, .int .i64 lv, .bool true, .bool bare], .int .i64 (0 : Nat), .func (.func 15) #[] #[.pointer (some ⟨Lb, 0, none⟩), .pointer (some ⟨Pb, 0, none⟩), .pointer (some ⟨Ib, 0, none⟩)]] w
      fun e w' => e = .returned (.tuple #[]) ∧ ∃ v' lg', Run B Bb Lb Pb Ib wd .nilFunc v' lg' (l ++ [op] ++ nl (min lv 16 * wd) ++ [cl]) 0 X n cap w' ∧ Stp B T4 w w' := by
  have hB := h.buf.lt
  have bQ : (w.alloc (.cells #[.int .u8 op.toNat, .int .u8 cl.toNat, .int .i64 lv, .bool true, .bool bare] 41)).heap[w.heap.size]? = some (.cells #[.int .u8 op.toNat, .int .u8 cl.toNat, .int .i64 lv, .bool true, .bool bare] 41) := heap_alloc_new w _
  have r1 := h.below ((Below.refl _ _).alloc (Nat.le_refl _) (.cells #[.int .u8 op.toNat, .int .u8 cl.toNat, .int .i64 lv, .bool true, .bool bare] 41))
  have S1 : Stp B T4 w (w.alloc (.cells #[.int .u8 op.toNat, .int .u8 cl.toNat, .int .i64 lv, .bool true, .bool bare] 41)) := (Stp.refl _ _ _).alloc hB _
  generalize hw1 : w.alloc (.cells #[.int .u8 op.toNat, .int .u8 cl.toNat, .int .i64 lv, .bool true, .bool bare] 41) = w1 at *
  generalize hQ : w.heap.size = Q at *
  have q0 : w1.cell? ⟨Q, 0, none⟩ = some (.int .u8 op.toNat) := by simp [World.cell?, bQ]
  have c0 := r1.buf.c0
  have lB : Bb < w1.heap.size := lt_of_some r1.buf.blk
  have lQ : Q < w1.heap.size := lt_of_some bQ
  obtain ⟨x2, m2, k2, w2, hr2, c2, f2, r3, S3⟩ := r1.byte op (by omega)
  have S13 := S1.trans S3.up4
  have bQ3 := S3.fr _ _ _ (by decide) bQ
  generalize hw3 : w2.setCell ⟨Bb, 0, none⟩ (.slice x2 m2 k2) = w3 at *
  have d1 := r3.buf.c1
  have hne := nl_ne (16 * wd)
  have q2 : w3.cell? ⟨Q, 2, none⟩ = some (.int .i64 lv) := by simp [World.cell?, bQ3]
  have q3 : w3.cell? ⟨Q, 3, none⟩ = some (.bool true) := by simp [World.cell?, bQ3]
  clear r1 S1 bQ S3 h
  have c3 := r3.buf.c3
  have lB3 : Bb < w3.heap.size := lt_of_some r3.buf.blk
  have lQ3 : Q < w3.heap.size := lt_of_some bQ3
  have hgap := gap_nil' B Bb wd 0 (.slice x2 m2 k2) _ w3.drew (r3.buf.below (Below.refl _ _).drew)
  have B4 : Below w3.heap.size w3 (w3.drew.alloc (.cells #[.int .i64 0, .int .i64 0, .int .i64 0, .int .i64 0] 56)) := ((Below.refl _ _).drew).alloc (Nat.le_refl _) _
  have hlg := lineGap_plain B Bb Lb Pb Ib wd .nilFunc (.slice x2 m2 k2) lg _ 0 X n cap 0 0 (lv + 1) 1 1 lv _ (r3.below B4) (by simp; omega) hwd (by omega) (by omega) (by omega) (.inl ⟨by omega, by omega⟩)
  have S4 : Stp B T4 w (w3.drew.alloc (.cells #[.int .i64 0, .int .i64 0, .int .i64 0, .int .i64 0] 56)) := S13.trans (Stp.ofBelow B4 r3.buf.lt)
  have bQ4 := (B4.block _ lQ3).trans bQ3
  have hgap2 : Calls Yba.prog 21 #[.pointer (some ⟨Bb, 0, none⟩), .int .u8 0] w3.drew fun e w' => ∃ v, e = .returned v ∧ (v = .agg #[.int .i64 0, .int .i64 0, .int .i64 0, .int .i64 0] ∧ w' = w3.drew.alloc (.cells #[.int .i64 0, .int .i64 0, .int .i64 0, .int .i64 0] 56)) := hgap.mono fun e w' h => ⟨_, h.1, rfl, h.2⟩
  have hlg2 := hlg.mono (R' := fun e w' => ∃ u, e = .returned u ∧ (u = .tuple #[] ∧ ∃ v', Run B Bb Lb Pb Ib wd .nilFunc v' lg (l ++ [op] ++ nl (min lv 16 * wd)) 0 X n cap w' ∧ Stp B T4 w w' ∧ w'.heap[Q]? = some (.cells #[.int .u8 op.toNat, .int .u8 cl.toNat, .int .i64 lv, .bool true, .bool bare] 41))) (fun e w' hh => by
    obtain ⟨rfl, v', r, s⟩ := hh
    exact ⟨_, rfl, rfl, v', r, S4.trans s.up4, s.fr _ _ _ (by decide) bQ4⟩)
  have hw1' : IntKind.i64.wrap ((lv : Int) + 1) = (lv : Int) + 1 := wrap_small (by omega) (by omega)
  have HG := hid hgap2
  have HL := hid hlg2
  have hq := eqNil w3
  obtain ⟨T, hT⟩ : ∃ T, T = l ++ [op] ++ nl (min lv 16 * wd) ++ [cl] := ⟨_, rfl⟩
  rw [← hT]
  have hnlen := nlm_len (lv := lv) hwd
  have HT0 := hid (And.intro hT hnlen)
  clear hgap hgap2 hlg hlg2 B4 S4 bQ4 r3 S13 bQ3 hT hnlen
  go_enter Yba.func17, Yba.ntmps17
  go_upto_region 1 with fail
  go_cut [] from 12 to 22 (fun wz => wz = w3)
  case first =>
    go_region_law (refine step_append_run (by rfl) _ _ 22 22 (by rfl) v _ _ w2 (by rfl) (by rfl) hr2 ?_)
    all_goals
      go_wp2_with fail
      go_meet
      case rel => rfl
  case rest =>
    subst hcut
    clear hr2 hw3 c2 f2
    go_upto_region 14 with fail
    go_cut [] from 79 to 88 (fun wz => ∃ v', Run B Bb Lb Pb Ib wd .nilFunc v' lg (l ++ [op] ++ nl (min lv 16 * wd)) 0 X n cap wz ∧ Stp B T4 w wz ∧ wz.heap[Q]? = some (.cells #[.int .u8 op.toNat, .int .u8 cl.toNat, .int .i64 lv, .bool true, .bool bare] 41))
    case first =>
      go_region_law (first | (refine step_call (by rfl) 21 _ (by first | kernel_rfl | simp [go_sem]) HG.out ?_; rintro vg wg ⟨rfl, rfl⟩) | (refine step_call (by rfl) 20 _ (by first | kernel_rfl | simp [go_sem]) HL.out ?_; rintro vg wg ⟨rfl, hfin⟩))
      all_goals
        go_wp2_with fail
        go_meet
        case rel => exact hfin
    case rest =>
      obtain ⟨v5, r5, s5, b5⟩ := hcut
      obtain ⟨x6, m6, k6, w6, hr6, c6, f6, r7, S7⟩ := r5.byte cl (by have := HT0.out.2; simp; omega)
      have g0 := r5.buf.c0
      have q1 : wc.cell? ⟨Q, 1, none⟩ = some (.int .u8 cl.toNat) := by simp [World.cell?, b5]
      have lB5 : Bb < wc.heap.size := lt_of_some r5.buf.blk
      have lQ5 : Q < wc.heap.size := lt_of_some b5
      have H := hid (And.intro r7 (s5.trans S7.up4))
      clear r7 S7 r5 s5 b5 HG HL
      go_wp2
      go_region_law (refine step_append_run (by rfl) _ _ 22 22 (by rfl) v5 _ _ w6 (by rfl) (by rfl) hr6 ?_)
      all_goals
        go_wp2
        refine bodyPost_ret (results_none rfl _ _ _) rfl ⟨rfl, .slice x6 m6 k6, lg, ?_, H.out.2⟩
        rw [HT0.out.1]
        exact H.out.1
end
end Go.Proofs.Ybulkbwqo
