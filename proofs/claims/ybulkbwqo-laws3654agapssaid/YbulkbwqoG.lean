/- DERIVED. (*Buffer).Block on one line. -/
import Derived.Test.YbulkbwqoK
import Derived.Deep.CutRange
namespace Go.Proofs.Ybulkbwqo
open Go.RowKit

section
variable {B Bb Lb Pb Ib wd lv N : Nat} {gf v lg : Value} {l : List UInt8} {op cl : UInt8} {bare : Bool} {X : Option Addr} {n cap : Nat} {S : Nat → ByteArray} {w : World}

set_option maxRecDepth 100000 in
set_option maxHeartbeats 40000000 in
theorem block_compact (h : Run B Bb Lb Pb Ib wd gf v lg l 0 X n cap w) (hl : l.length ≤ 65536) (hn : n ≤ 1024) (hS : ∀ k, k < n → (S k).size ≤ 4096) (hI : ∀ w', Below B w w' → ∀ k, k < n → ∃ b off, X = some ⟨b, off, none⟩ ∧ w'.cell? ⟨b, off + k, none⟩ = some (.string (S k)))
    (hN : N ≤ 600) (hlv : lv ≤ 255) (hx : N = 0 ∨ (0 < N ∧ 16 ≤ lv)) :
    Calls Yba.prog 17 #[.pointer (some ⟨Bb, 0, none⟩), .agg #[.int .u8 op.toNat, .int .u8 cl.toNat, .int .i64 lv, .bool false, .bool bare], .int .i64 N, .func (.func 15) #[] #[.pointer (some ⟨Lb, 0, none⟩), .pointer (some ⟨Pb, 0, none⟩), .pointer (some ⟨Ib, 0, none⟩)]] w
      fun e w' => e = .returned (.tuple #[]) ∧ ∃ v' lg', Run B Bb Lb Pb Ib wd gf v' lg' (l ++ [op] ++ cmpT (itm n S) N ++ [cl]) N X n cap w' ∧ Stp B T4 w w' := by
  have hB := h.buf.lt
  have bQ : (w.alloc (.cells #[.int .u8 op.toNat, .int .u8 cl.toNat, .int .i64 lv, .bool false, .bool bare] 41)).heap[w.heap.size]? = some (.cells #[.int .u8 op.toNat, .int .u8 cl.toNat, .int .i64 lv, .bool false, .bool bare] 41) := heap_alloc_new w _
  have r1 := h.below ((Below.refl _ _).alloc (Nat.le_refl _) (.cells #[.int .u8 op.toNat, .int .u8 cl.toNat, .int .i64 lv, .bool false, .bool bare] 41))
  have S1 : Stp B T4 w (w.alloc (.cells #[.int .u8 op.toNat, .int .u8 cl.toNat, .int .i64 lv, .bool false, .bool bare] 41)) := (Stp.refl _ _ _).alloc hB _
  generalize hw1 : w.alloc (.cells #[.int .u8 op.toNat, .int .u8 cl.toNat, .int .i64 lv, .bool false, .bool bare] 41) = w1 at *
  generalize hQ : w.heap.size = Q at *
  have q0 : w1.cell? ⟨Q, 0, none⟩ = some (.int .u8 op.toNat) := by simp [World.cell?, bQ]
  have c0 := r1.buf.c0
  have lB : Bb < w1.heap.size := lt_of_some r1.buf.blk
  have lQ : Q < w1.heap.size := lt_of_some bQ
  obtain ⟨x2, m2, k2, w2, hr2, c2, f2, r3, S3⟩ := r1.byte op (by omega)
  have S13 := S1.trans S3.up4
  have bQ3 := S3.fr _ _ _ (by decide) bQ
  generalize hw3 : w2.setCell ⟨Bb, 0, none⟩ (.slice x2 m2 k2) = w3 at *
  have d1 := r3.buf.c1
  have hne := nl_ne (16 * wd)
  have q2 : w3.cell? ⟨Q, 2, none⟩ = some (.int .i64 lv) := by simp [World.cell?, bQ3]
  have q3 : w3.cell? ⟨Q, 3, none⟩ = some (.bool false) := by simp [World.cell?, bQ3]
  have hit := itm_size hS
  have H := hid (And.intro r3 (And.intro S13 bQ3))
  have HI := hid (And.intro hI (And.intro hit hS))
  clear r1 S1 bQ r3 S3 S13 bQ3 h hI hit hS
  have hx' : ¬ (0 : Int) < (N : Int) ∨ (0 < (N : Int) ∧ ¬ (lv : Int) < 16) := by omega
  clear hx
  obtain ⟨T, hT⟩ : ∃ T, T = l ++ [op] ++ cmpT (itm n S) N ++ [cl] := ⟨_, rfl⟩
  rw [← hT]
  have HT0 := hid hT
  clear hT
  rcases hx' with h0 | ⟨h0, h16⟩
  ·
    go_enter Yba.func17, Yba.ntmps17
    go_upto_region 1 with fail
    go_cut [] from 12 to 22 (fun wz => wz = w3)
    case first =>
      go_region_law (refine step_append_run (by rfl) _ _ 22 22 (by rfl) v _ _ w2 (by rfl) (by rfl) hr2 ?_)
      all_goals
        go_wp2_with fail
        go_meet
        case rel => rfl
    case rest =>
      subst hcut
      clear hr2 hw3 c2 f2
      go_wp2
      clear d1 q2 q3 c0 q0
      go_loopw [46] (fun iv wz => ∃ (i : Nat) (v' lg' : Value), i ≤ N ∧ iv = .int .i64 i ∧ Run B Bb Lb Pb Ib wd gf v' lg' (l ++ [op] ++ cmpT (itm n S) i) i X n cap wz ∧ Stp B T4 w wz ∧ wz.heap[Q]? = some (.cells #[.int .u8 op.toNat, .int .u8 cl.toNat, .int .i64 lv, .bool false, .bool bare] 41)) (fun iv _ => N - (intOf iv).toNat)
      case atStart => exact ⟨0, _, _, Nat.zero_le _, rfl, by simpa [cmpT] using H.out.1, H.out.2.1, H.out.2.2⟩
      case round =>
        obtain ⟨i, vi, lgi, hi, rfl, ri, si, bi⟩ := hrel
        clear H
        rename World => w5
        have hlen := cmpT_len HI.out.2.1 i
        have i1 : ¬ (i : Int) < (N : Int) := by omega
        as_aux_lemma =>
          obtain ⟨x6, m6, k6, w6, hr6, c6, f6, r7, S7⟩ := ri.byte cl (by simp; omega)
          have g0 := ri.buf.c0
          have q1 : w5.cell? ⟨Q, 1, none⟩ = some (.int .u8 cl.toNat) := by simp [World.cell?, bi]
          have lB5 : Bb < w5.heap.size := lt_of_some ri.buf.blk
          have lQ5 : Q < w5.heap.size := lt_of_some bi
          have hiN : i = N := by omega
          have H := hid (And.intro r7 (And.intro (si.trans S7.up4) hiN))
          clear r7 S7 ri si bi hiN lB lQ
          go_wp2
          go_region_law (refine step_append_run (by rfl) _ _ 22 22 (by rfl) vi _ _ w6 (by rfl) (by rfl) hr6 ?_)
          all_goals
            go_wp2
            refine bodyPost_ret (results_none rfl _ _ _) rfl ⟨rfl, .slice x6 m6 k6, lgi, ?_, H.out.2.1⟩
            have h1 := H.out.1
            rw [H.out.2.2] at h1
            rw [HT0.out]
            exact h1
  ·
    go_enter Yba.func17, Yba.ntmps17
    go_upto_region 1 with fail
    go_cut [] from 12 to 22 (fun wz => wz = w3)
    case first =>
      go_region_law (refine step_append_run (by rfl) _ _ 22 22 (by rfl) v _ _ w2 (by rfl) (by rfl) hr2 ?_)
      all_goals
        go_wp2_with fail
        go_meet
        case rel => rfl
    case rest =>
      subst hcut
      clear hr2 hw3 c2 f2
      go_wp2
      clear d1 q2 q3 c0 q0
      go_loopw [46] (fun iv wz => ∃ (i : Nat) (v' lg' : Value), i ≤ N ∧ iv = .int .i64 i ∧ Run B Bb Lb Pb Ib wd gf v' lg' (l ++ [op] ++ cmpT (itm n S) i) i X n cap wz ∧ Stp B T4 w wz ∧ wz.heap[Q]? = some (.cells #[.int .u8 op.toNat, .int .u8 cl.toNat, .int .i64 lv, .bool false, .bool bare] 41)) (fun iv _ => N - (intOf iv).toNat)
      case atStart => exact ⟨0, _, _, Nat.zero_le _, rfl, by simpa [cmpT] using H.out.1, H.out.2.1, H.out.2.2⟩
      case round =>
        obtain ⟨i, vi, lgi, hi, rfl, ri, si, bi⟩ := hrel
        clear H
        rename World => w5
        have hlen := cmpT_len HI.out.2.1 i
        by_cases hlt : i < N
        · have i1 : (i : Int) < (N : Int) := by omega
          have hli := HI.out.2.1 i
          by_cases hi0 : i = 0
          · have i0 : ¬ (0 : Int) < (i : Int) := by omega
            as_aux_lemma =>
              have hls : (itm n S i).data.size = (itm n S i).size := rfl
              have hrun := runItem_any B Bb Lb Pb Ib wd gf vi lgi _ i X n cap S w5 ri (by omega) (by simp; omega) hn HI.out.2.2 (fun w' hw' => HI.out.1 w' (si.bel.trans hw'))
              have HR := hid (And.intro hrun si)
              clear hrun
              have BB := hid bi
              have h00 := hid hi0
              clear ri si bi hi0
              go_wp2_with fail
              refine HR.out.1.mono ?_
              rintro e w8 ⟨rfl, v8, lg8, r8, S8⟩
              have s8 := HR.out.2.trans S8
              have b8 := S8.fr _ _ _ (by decide) BB.out
              have hsp := spill_any B Bb wd gf v8 _ w8 r8.buf
              have H := hid (And.intro r8 (And.intro s8 b8))
              have HS := hid hsp
              clear r8 s8 S8 b8 hsp HR
              go_wp2_with fail
              refine HS.out.mono ?_
              rintro e w9 ⟨rfl, rfl⟩
              go_wp2
              go_roundw
              case rel => exact ⟨i + 1, v8, lg8, by omega, by go_num, by (have h2 : cmpT (itm n S) (i + 1) = cmpT (itm n S) i ++ (itm n S i).data.toList := by simp [cmpT, h00.out]); rw [h2, ← List.append_assoc]; exact H.out.1, H.out.2.1, H.out.2.2⟩
              case measure => simp [intOf]; omega
          · have i0 : (0 : Int) < (i : Int) := by omega
            as_aux_lemma =>
              obtain ⟨x6, m6, k6, w6, hr6, c6, f6, r7, S7⟩ := ri.text ⟨#[44, 32]⟩ (by simp [ByteArray.size]; omega)
              have g0 := ri.buf.c0
              have s7 := si.trans S7.up4
              have b7 := S7.fr _ _ _ (by decide) bi
              generalize hw7 : w6.setCell ⟨Bb, 0, none⟩ (.slice x6 m6 k6) = w7 at *
              have hls : (itm n S i).data.size = (itm n S i).size := rfl
              have hrun := runItem_any B Bb Lb Pb Ib wd gf (.slice x6 m6 k6) lgi _ i X n cap S w7 r7 (by omega) (by simp; omega) hn HI.out.2.2 (fun w' hw' => HI.out.1 w' (s7.bel.trans hw'))
              have HR := hid (And.intro hrun s7)
              clear hrun
              have BB := hid b7
              have h00 := hid hi0
              clear ri si bi hi0 r7 S7 b7
              go_wp2_with (at_builtin; refine wpList_append_run (by rfl) _ _ 22 9 (by rfl) vi _ _ w6 (by rfl) (by rfl) hr6 ?_)
              refine HR.out.1.mono ?_
              rintro e w8 ⟨rfl, v8, lg8, r8, S8⟩
              have s8 := HR.out.2.trans S8
              have b8 := S8.fr _ _ _ (by decide) BB.out
              have hsp := spill_any B Bb wd gf v8 _ w8 r8.buf
              have H := hid (And.intro r8 (And.intro s8 b8))
              have HS := hid hsp
              clear r8 s8 S8 b8 hsp HR
              go_wp2_with fail
              refine HS.out.mono ?_
              rintro e w9 ⟨rfl, rfl⟩
              go_wp2
              go_roundw
              case rel => exact ⟨i + 1, v8, lg8, by omega, by go_num, by (have h2 : cmpT (itm n S) (i + 1) = cmpT (itm n S) i ++ [44, 32] ++ (itm n S i).data.toList := by simp [cmpT, h00.out]); rw [h2, ← List.append_assoc, ← List.append_assoc]; exact H.out.1, H.out.2.1, H.out.2.2⟩
              case measure => simp [intOf]; omega
        · have i1 : ¬ (i : Int) < (N : Int) := by omega
          as_aux_lemma =>
            obtain ⟨x6, m6, k6, w6, hr6, c6, f6, r7, S7⟩ := ri.byte cl (by simp; omega)
            have g0 := ri.buf.c0
            have q1 : w5.cell? ⟨Q, 1, none⟩ = some (.int .u8 cl.toNat) := by simp [World.cell?, bi]
            have lB5 : Bb < w5.heap.size := lt_of_some ri.buf.blk
            have lQ5 : Q < w5.heap.size := lt_of_some bi
            have hiN : i = N := by omega
            have H := hid (And.intro r7 (And.intro (si.trans S7.up4) hiN))
            clear r7 S7 ri si bi hiN lB lQ
            go_wp2
            go_region_law (refine step_append_run (by rfl) _ _ 22 22 (by rfl) vi _ _ w6 (by rfl) (by rfl) hr6 ?_)
            all_goals
              go_wp2
              refine bodyPost_ret (results_none rfl _ _ _) rfl ⟨rfl, .slice x6 m6 k6, lgi, ?_, H.out.2.1⟩
              have h1 := H.out.1
              rw [H.out.2.2] at h1
              rw [HT0.out]
              exact h1
end
end Go.Proofs.Ybulkbwqo
