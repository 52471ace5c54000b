/- DERIVED. lineGap past an opening bracket. -/
import Derived.Test.YbulkbwqoV
import Derived.RangeFuncNested
import Derived.RangeFuncBound
import Derived.RangeFuncCalls
import Derived.RangeFuncLeaves
import Derived.Shelf.Abstract
import Derived.Shelf.RegionOpen
import Derived.OwnWalkIn
import Derived.TacticsInMore
import Derived.LoopNIn
import Derived.LoopIn
namespace Go.Proofs.Ybulkbwqo
open Go.RowKit Go.Shelf
attribute [local go_sem] Oper.semAt_some

set_option maxRecDepth 100000 in
theorem blankAllowed_from (M : Nat) (p i : Value) (w : World) (bM : w.heap[M]? = some (.cells #[p, i, .int .u8 1, .bool true, .bool true] 73)) :
    Calls Yba.prog 34 #[.pointer (some ⟨M, 0, none⟩)] w fun e w' => e = .returned (.bool false) ∧ w' = w := by
  have m2 : w.cell? ⟨M, 2, none⟩ = some (.int .u8 1) := by simp [World.cell?, bM]
  have m3 : w.cell? ⟨M, 3, none⟩ = some (.bool true) := by simp [World.cell?, bM]
  have m4 : w.cell? ⟨M, 4, none⟩ = some (.bool true) := by simp [World.cell?, bM]
  clear bM
  go_enter Yba.func34, Yba.ntmps34
  go_wp2
  go_ret
  exact ⟨rfl, rfl⟩
set_option maxRecDepth 100000 in
theorem edge_from (M : Nat) (p i : Value) (w : World) (bM : w.heap[M]? = some (.cells #[p, i, .int .u8 1, .bool true, .bool true] 73)) :
    Calls Yba.prog 35 #[.pointer (some ⟨M, 0, none⟩)] w fun e w' => e = .returned (.int .u8 0) ∧ w' = w := by
  have m4 : w.cell? ⟨M, 4, none⟩ = some (.bool true) := by simp [World.cell?, bM]
  clear bM
  go_enter Yba.func35, Yba.ntmps35
  go_wp2
  go_ret
  exact ⟨rfl, rfl⟩
set_option maxRecDepth 100000 in
set_option maxHeartbeats 4000000 in
theorem linesEnd_from (B Bb Lb Pb Ib wd : Nat) (gf v lg : Value) (l : List UInt8) (k : Nat) (X : Option Addr) (n cap : Nat) (M : Nat) (i : Value) (mx next : Nat) (w : World) (h : Run B Bb Lb Pb Ib wd gf v lg l k X n cap w) (hl : l.length ≤ 9000000)
    (hwd : wd ≤ 4) (hnx : next ≤ 1000) (hm : 2 ≤ mx) (bM : w.heap[M]? = some (.cells #[.pointer (some ⟨Bb, 0, none⟩), i, .int .u8 1, .bool true, .bool true] 73)) :
    Calls Yba.prog 30 #[.pointer (some ⟨M, 0, none⟩), .int .i64 mx, .int .u8 0, .int .i64 next] w
      fun e w' => e = .returned (.tuple #[]) ∧ ∃ v', Run B Bb Lb Pb Ib wd gf v' lg (l ++ nl (min next 16 * wd)) k X n cap w' ∧ Stp B [5, 37] w w' ∧ KO w w' := by
  have m0 : w.cell? ⟨M, 0, none⟩ = some (.pointer (some ⟨Bb, 0, none⟩)) := by simp [World.cell?, bM]
  have hm0 : ¬ (mx : Int) = 0 := by omega
  have hm2 : (2 : Int) ≤ (mx : Int) := by omega
  have c0 := h.buf.c0
  have hba := blankAllowed_from M _ _ w bM
  have hed := edge_from M _ _ w.drew bM
  have hnl := newLineK B Bb wd next 0 gf _ _ w.drew hwd hnx (by omega) (h.buf.below (Below.refl _ _).drew) (by omega)
  have hed2 : Calls Yba.prog 35 #[.pointer (some ⟨M, 0, none⟩)] w.drew fun e w' => ∃ u, e = .returned u ∧ (u = .int .u8 0 ∧ w' = w.drew) := hed.mono fun e w' h => ⟨_, h.1, rfl, h.2⟩
  have hnl2 := hnl.mono (R' := fun e w' => ∃ v', e = .returned v' ∧ ∃ x m q, v' = .slice x m q ∧ w'.cell? ⟨Bb, 0, none⟩ = some v ∧ w'.frozen? ⟨Bb, 0, none⟩ = false ∧ Run B Bb Lb Pb Ib wd gf v' lg (l ++ nl (min next 16 * wd)) k X n cap (w'.setCell ⟨Bb, 0, none⟩ v') ∧ Stp B [5, 37] w (w'.setCell ⟨Bb, 0, none⟩ v') ∧ KO w (w'.setCell ⟨Bb, 0, none⟩ v')) (fun e w' hh => by
    obtain ⟨v', rfl, ho, hs, hko⟩ := hh
    obtain ⟨x, m, q, e1, e2, e3, r, s⟩ := h.nl hs.ofDrew ho
    exact ⟨v', rfl, x, m, q, e1, e2, e3, r, s, (hko.ofDrew.trans (KO.setCell w' _ _))⟩)
  have HB := hid hba
  have HE := hid hed2
  have HN := hid hnl2
  clear hba hed hed2 hnl hnl2 bM h
  go_enter Yba.func30, Yba.ntmps30
  go_wp2_with fail
  refine HB.out.mono ?_
  rintro e wx ⟨rfl, rfl⟩
  go_wp2
  go_region_law (first | (refine step_callF (by rfl) 35 (by rfl) _ (by first | kernel_rfl | simp [go_sem]) HE.out ?_; rintro vg wg ⟨rfl, rfl⟩) | (refine step_callF (by rfl) 25 (by rfl) _ (by first | kernel_rfl | simp [go_sem]) HN.out ?_; rintro v9 w9 ⟨x9, m9, q9, rfl, c9, f9, hfin⟩))
  all_goals
    go_wp2
    exact bodyPost_end (results_none rfl _ _ _) rfl ⟨rfl, _, hfin⟩
set_option maxRecDepth 100000 in
set_option maxHeartbeats 4000000 in
theorem lineGap_from (B Bb Lb Pb Ib wd : Nat) (gf v lg : Value) (l : List UInt8) (k : Nat) (X : Option Addr) (n cap : Nat) (b1 b2 inner next : Nat) (w : World) (h : Run B Bb Lb Pb Ib wd gf v lg l k X n cap w) (hl : l.length ≤ 9000000)
    (hwd : wd ≤ 4) (hnx : next ≤ 1000) (hb : 2 ≤ max b1 b2) (hb1 : b1 ≤ 2) (hb2 : b2 ≤ 2) :
    Calls Yba.prog 20 #[.pointer (some ⟨Bb, 0, none⟩), .agg #[.int .i64 0, .int .i64 0, .int .i64 0, .int .i64 b1], .agg #[.int .i64 0, .int .i64 0, .int .i64 0, .int .i64 b2], .int .i64 inner, .int .u8 1, .int .u8 0, .int .i64 next] w
      fun e w' => e = .returned (.tuple #[]) ∧ ∃ v', Run B Bb Lb Pb Ib wd gf v' lg (l ++ nl (min next 16 * wd)) k X n cap w' ∧ Stp B [5, 37] w w' := by
  have hB := h.buf.lt
  have B1 : Below w.heap.size w ((w.alloc (.cells #[.int .i64 0, .int .i64 0, .int .i64 0, .int .i64 b1] 56)).alloc (.cells #[.int .i64 0, .int .i64 0, .int .i64 0, .int .i64 b2] 56)) := ((Below.refl _ _).alloc (Nat.le_refl _) _).alloc (by simp) _
  have e1 : ((w.alloc (.cells #[.int .i64 0, .int .i64 0, .int .i64 0, .int .i64 b1] 56)).alloc (.cells #[.int .i64 0, .int .i64 0, .int .i64 0, .int .i64 b2] 56)).heap[w.heap.size]? = some (.cells #[.int .i64 0, .int .i64 0, .int .i64 0, .int .i64 b1] 56) := by
    rw [hp_alloc_lt (by simp)]; exact heap_alloc_new w _
  have e2 : ((w.alloc (.cells #[.int .i64 0, .int .i64 0, .int .i64 0, .int .i64 b1] 56)).alloc (.cells #[.int .i64 0, .int .i64 0, .int .i64 0, .int .i64 b2] 56)).heap[w.heap.size + 1]? = some (.cells #[.int .i64 0, .int .i64 0, .int .i64 0, .int .i64 b2] 56) := by
    have e : w.heap.size + 1 = (w.alloc (.cells #[.int .i64 0, .int .i64 0, .int .i64 0, .int .i64 b1] 56)).heap.size := by simp
    rw [e]; exact heap_alloc_new _ _
  generalize hw1 : (w.alloc (.cells #[.int .i64 0, .int .i64 0, .int .i64 0, .int .i64 b1] 56)).alloc (.cells #[.int .i64 0, .int .i64 0, .int .i64 0, .int .i64 b2] 56) = w1 at *
  have r1 := h.below B1
  have S1 : Stp B [5, 37] w w1 := Stp.ofBelow B1 hB
  generalize hQ : w.heap.size = Q at *
  have hif : (if b1 < b2 then (b2 : Int) else (b1 : Int)) = ((max b1 b2 : Nat) : Int) := by split <;> omega
  obtain ⟨mx, hmx⟩ : ∃ mx, max b1 b2 = mx := ⟨_, rfl⟩
  rw [hmx] at hif
  have h2 : ¬ (mx : Int) < 2 := by omega
  have x0 : w1.cell? ⟨Q, 0, none⟩ = some (.int .i64 0) := by simp [World.cell?, e1]
  have x1 : w1.cell? ⟨Q, 1, none⟩ = some (.int .i64 0) := by simp [World.cell?, e1]
  have x2 : w1.cell? ⟨Q, 2, none⟩ = some (.int .i64 0) := by simp [World.cell?, e1]
  have x3 : w1.cell? ⟨Q, 3, none⟩ = some (.int .i64 b1) := by simp [World.cell?, e1]
  have y0 : w1.cell? ⟨Q + 1, 0, none⟩ = some (.int .i64 0) := by simp [World.cell?, e2]
  have y1 : w1.cell? ⟨Q + 1, 1, none⟩ = some (.int .i64 0) := by simp [World.cell?, e2]
  have y2 : w1.cell? ⟨Q + 1, 2, none⟩ = some (.int .i64 0) := by simp [World.cell?, e2]
  have y3 : w1.cell? ⟨Q + 1, 3, none⟩ = some (.int .i64 b2) := by simp [World.cell?, e2]
  have l1 : Q < w1.heap.size := lt_of_some e1
  have l2 : Q + 1 < w1.heap.size := lt_of_some e2
  have H := hid (And.intro r1 (And.intro S1 (And.intro e1 e2)))
  clear h B1 e1 e2 r1 S1
  have bM : (w1.alloc (.cells #[.pointer (some ⟨Bb, 0, none⟩), .int .i64 inner, .int .u8 1, .bool true, .bool true] 73)).heap[w1.heap.size]? = some (.cells #[.pointer (some ⟨Bb, 0, none⟩), .int .i64 inner, .int .u8 1, .bool true, .bool true] 73) := heap_alloc_new w1 _
  have B2 : Below w1.heap.size w1 (w1.alloc (.cells #[.pointer (some ⟨Bb, 0, none⟩), .int .i64 inner, .int .u8 1, .bool true, .bool true] 73)) := (Below.refl _ _).alloc (Nat.le_refl _) _
  have hin := inline_any Bb b2 (w1.alloc (.cells #[.pointer (some ⟨Bb, 0, none⟩), .int .i64 inner, .int .u8 1, .bool true, .bool true] 73))
  have HN := hid (And.intro hin (And.intro bM B2))
  clear hin bM B2
  refine (callsIn_wide (n := 6)).1 ?_
  refine callsIn_of_wp_marks Yba.func20 rfl trivial ?_ rfl
  simp only [Yba.ntmps20, List.size_toArray, List.length_cons, List.length_nil, Nat.reduceAdd, Nat.reduceSub, Array.replicate_succ, Array.replicate_zero, List.push_toArray, List.append_toArray, List.nil_append, List.cons_append]
  gi_wp2_with fail
  refine ⟨trivial, (callsIn_wide.2 HN.out.1).mono ?_⟩
  rintro e w3 ⟨rfl, B3⟩
  obtain ⟨-, bM, B2⟩ := HN.out
  obtain ⟨r1, S1, e1, e2⟩ := H.out
  have bM3 := (B3.block _ (lt_of_some bM)).trans bM
  have B13 : Below w1.heap.size w1 w3 := B2.trans (B3.mono B2.size)
  have p1 := (B13.block _ (lt_of_some e1)).trans e1
  have p2 := (B13.block _ (lt_of_some e2)).trans e2
  have r3 := r1.below B13
  generalize hM : w1.heap.size = M at *
  have x0' : w3.cell? ⟨Q, 0, none⟩ = some (.int .i64 0) := by simp [World.cell?, p1]
  have x1' : w3.cell? ⟨Q, 1, none⟩ = some (.int .i64 0) := by simp [World.cell?, p1]
  have x2' : w3.cell? ⟨Q, 2, none⟩ = some (.int .i64 0) := by simp [World.cell?, p1]
  have x3' : w3.cell? ⟨Q, 3, none⟩ = some (.int .i64 b1) := by simp [World.cell?, p1]
  have y0' : w3.cell? ⟨Q + 1, 0, none⟩ = some (.int .i64 0) := by simp [World.cell?, p2]
  have y1' : w3.cell? ⟨Q + 1, 1, none⟩ = some (.int .i64 0) := by simp [World.cell?, p2]
  have y2' : w3.cell? ⟨Q + 1, 2, none⟩ = some (.int .i64 0) := by simp [World.cell?, p2]
  have y3' : w3.cell? ⟨Q + 1, 3, none⟩ = some (.int .i64 b2) := by simp [World.cell?, p2]
  have hc3 := commentsOf_any Bb w3
  have HC := hid hc3
  have H3 := hid (And.intro bM3 (And.intro B13 (And.intro r3 (And.intro S1 (And.intro p1 p2)))))
  clear hc3 bM3 B13 r3 r1 S1 e1 e2 bM B2 B3 HN H p1 p2 x0 x1 x2 x3 y0 y1 y2 y3
  gi_wp2_with fail
  refine ⟨trivial, (callsIn_wide.2 HC.out).mono ?_⟩
  rintro e w4 ⟨rfl, rfl⟩
  gi_wp2_with fail
  have B4 : Below w3.heap.size w3 ((w3.alloc (.cells #[.pointer (some ⟨Bb, 0, none⟩)] 26)).alloc (.cells #[.int .i64 0, .int .i64 0, .int .i64 0] 54)) := ((Below.refl _ _).alloc (Nat.le_refl _) _).alloc (by simp) _
  have b4 : ((w3.alloc (.cells #[.pointer (some ⟨Bb, 0, none⟩)] 26)).alloc (.cells #[.int .i64 0, .int .i64 0, .int .i64 0] 54)).heap[w3.heap.size + 1]? = some (.cells #[.int .i64 0, .int .i64 0, .int .i64 0] 54) := by
    have e : w3.heap.size + 1 = (w3.alloc (.cells #[.pointer (some ⟨Bb, 0, none⟩)] 26)).heap.size := by simp
    rw [e]; exact heap_alloc_new _ _
  generalize hw4 : (w3.alloc (.cells #[.pointer (some ⟨Bb, 0, none⟩)] 26)).alloc (.cells #[.int .i64 0, .int .i64 0, .int .i64 0] 54) = w4 at *
  have c4 : w4.cell? ⟨w3.heap.size + 1, 0, none⟩ = some (.int .i64 0) := by simp [World.cell?, b4]
  refine wpIn_rangeFunc_ownH (α := Empty) rfl (by omega) (gf := 33) (lb := #[.pointer (some ⟨w3.heap.size + 1, 0, none⟩), .pointer (some ⟨w3.heap.size, 0, none⟩)]) rfl trivial (enters_of Yba.func33 (by kernel_rfl) rfl)
    (comments_stops 5 (w3.heap.size + 1) w3.heap.size w4 c4 (lt_of_some b4)) (fun _ _ => trivial) (fun _ _ _ _ _ _ _ _ => trivial) (Below.refl _ _) (fun x => x.elim)
    (fun _ W => Below w4.heap.size w4 W) (fun _ _ _ => False) (ownFrom_below (Nat.le_refl _) (Nat.le_refl _)) (fun c => ownFrom_pure _ _) (Below.refl _ _) (fun x => x.elim) (fun x => x.elim) ?assign ?body ?done ?stop
  case assign => intro l pre x; exact x.elim
  case body => intro l pre x; exact x.elim
  case stop =>
    intro D c pre W hD hSp
    exact hSp.elim
  case done =>
    rintro D xs W hD rfl hI hK
    obtain ⟨bM3, B13, r3, S1, p1, p2⟩ := H3.out
    have B3W : Below w3.heap.size w3 W := B4.trans (hI.mono B4.size)
    have bMW := (B3W.block _ (lt_of_some bM3)).trans bM3
    have pW1 := (B3W.block _ (lt_of_some p1)).trans p1
    have pW2 := (B3W.block _ (lt_of_some p2)).trans p2
    have rW := r3.below B3W
    have v0 : W.cell? ⟨Q + 1, 0, none⟩ = some (.int .i64 0) := by simp [World.cell?, pW2]
    have v1 : W.cell? ⟨Q + 1, 1, none⟩ = some (.int .i64 0) := by simp [World.cell?, pW2]
    have v2 : W.cell? ⟨Q + 1, 2, none⟩ = some (.int .i64 0) := by simp [World.cell?, pW2]
    have hs4 : M ≤ w4.heap.size := by have := B13.size; have := B4.size; omega
    have hcW := commentsOf_any Bb W
    have HCW := hid hcW
    have HW := hid (And.intro bMW (And.intro rW (And.intro pW1 (And.intro pW2 (And.intro hK (B13.trans (B3W.mono (hM ▸ B13.size))))))))
    clear hcW bMW rW pW1 pW2 B3W bM3 B13 r3 p1 p2 H3 HC hI hK B4 b4 c4 hw4 x0' x1' x2' x3' y0' y1' y2' y3'
    gi_wp2_with fail
    refine ⟨trivial, (callsIn_wide.2 HCW.out).mono ?_⟩
    rintro e w5' ⟨rfl, rfl⟩
    gi_wp2_with fail
    have B5 : Below W.heap.size W ((W.alloc (.cells #[.pointer (some ⟨Bb, 0, none⟩)] 26)).alloc (.cells #[.int .i64 0, .int .i64 0, .int .i64 0] 54)) := ((Below.refl _ _).alloc (Nat.le_refl _) _).alloc (by simp) _
    have b5 : ((W.alloc (.cells #[.pointer (some ⟨Bb, 0, none⟩)] 26)).alloc (.cells #[.int .i64 0, .int .i64 0, .int .i64 0] 54)).heap[W.heap.size + 1]? = some (.cells #[.int .i64 0, .int .i64 0, .int .i64 0] 54) := by
      have e : W.heap.size + 1 = (W.alloc (.cells #[.pointer (some ⟨Bb, 0, none⟩)] 26)).heap.size := by simp
      rw [e]; exact heap_alloc_new _ _
    generalize hw5 : (W.alloc (.cells #[.pointer (some ⟨Bb, 0, none⟩)] 26)).alloc (.cells #[.int .i64 0, .int .i64 0, .int .i64 0] 54) = w5 at *
    have c5 : w5.cell? ⟨W.heap.size + 1, 0, none⟩ = some (.int .i64 0) := by simp [World.cell?, b5]
    refine wpIn_rangeFunc_ownH (α := Empty) rfl (by omega) (gf := 33) (lb := #[.pointer (some ⟨W.heap.size + 1, 0, none⟩), .pointer (some ⟨W.heap.size, 0, none⟩)]) rfl trivial (enters_of Yba.func33 (by kernel_rfl) rfl)
      (comments_stops 5 (W.heap.size + 1) W.heap.size w5 c5 (lt_of_some b5)) (fun _ _ => trivial) (fun _ _ _ _ _ _ _ _ => trivial) (Below.refl _ _) (fun x => x.elim)
      (fun _ W' => Below w5.heap.size w5 W') (fun _ _ _ => False) (ownFrom_below (Nat.le_refl _) (Nat.le_refl _)) (fun c => ownFrom_pure _ _) (Below.refl _ _) (fun x => x.elim) (fun x => x.elim) ?assign2 ?body2 ?done2 ?stop2
    case assign2 => intro l pre x; exact x.elim
    case body2 => intro l pre x; exact x.elim
    case stop2 =>
      intro D c pre W hD hSp
      exact hSp.elim
    case done2 =>
      rintro D2 xs2 U hD2 rfl hI2 hK2
      obtain ⟨bMW, rW, pW1, pW2, hK, B1W⟩ := HW.out
      have BWU : Below W.heap.size W U := B5.trans (hI2.mono B5.size)
      have bMU := (BWU.block _ (lt_of_some bMW)).trans bMW
      have pU1 := (BWU.block _ (lt_of_some pW1)).trans pW1
      have pU2 := (BWU.block _ (lt_of_some pW2)).trans pW2
      have hKU := (BWU.block _ (lt_of_some hK)).trans hK
      have rU := rW.below BWU
      have xu0 : U.cell? ⟨Q, 0, none⟩ = some (.int .i64 0) := by simp [World.cell?, pU1]
      have xu3 : U.cell? ⟨Q, 3, none⟩ = some (.int .i64 b1) := by simp [World.cell?, pU1]
      have yu0 : U.cell? ⟨Q + 1, 0, none⟩ = some (.int .i64 0) := by simp [World.cell?, pU2]
      have yu3 : U.cell? ⟨Q + 1, 3, none⟩ = some (.int .i64 b2) := by simp [World.cell?, pU2]
      have hend := linesEnd_from B Bb Lb Pb Ib wd gf v lg l k X n cap M (.int .i64 inner) mx next U rU hl hwd hnx (by omega) bMU
      have SU : Stp B [5, 37] w U := S1.trans (Stp.ofBelow (by rw [hM]; exact B1W.trans (BWU.mono (hM ▸ B1W.size))) (by have := S1.bel.size; omega))
      have hDW := lt_of_some hK
      have hs5 := B5.size
      have HE := hid (And.intro hend (And.intro SU (And.intro hKU hK2)))
      clear hend SU hKU rU pU1 pU2 bMU BWU HW bMW rW pW1 pW2 hK B1W B5 b5 c5 hw5 hI2 hK2 HCW
      gi_wp2_with fail
      refine ⟨trivial, (callsIn_wide.2 HE.out.1).mono ?_⟩
      rintro e w9 ⟨rfl, v9, r9, S9, ko9⟩
      obtain ⟨-, SU, hKU, hK2⟩ := HE.out
      have hk1 : w9.heap[D]? = some (.deferred (some [])) := ko9 D _ (by intro c t f e; cases e) hKU
      have hk2 : w9.heap[D2]? = some (.deferred (some [])) := ko9 D2 _ (by intro c t f e; cases e) hK2
      have hD12 : D ≠ D2 := by omega
      have hBD : B ≤ D := by omega
      have hBD2 : B ≤ D2 := by omega
      have SZ := SU.trans S9
      have HZ := hid (And.intro r9 (And.intro SZ (And.intro hk1 (And.intro hk2 hD12))))
      clear r9 S9 SU SZ hKU hK2 HE ko9 hk1 hk2 hD12
      gi_wp2
      obtain ⟨r9, SZ, hk1, hk2, hD12⟩ := HZ.out
      have q1 := putD (o' := .deferred none) hk2
      have hk1' : (w9.putObj D2 (.deferred none)).heap[D]? = some (.deferred (some [])) := ((grownBy_putObj' w9 D2 (.deferred none)).block D (lt_of_some hk1) (fun e => by injection e with e; exact hD12 e)).trans hk1
      have q2 := putD (o' := .deferred none) hk1'
      refine ⟨by simp, .inl ⟨_, _, rfl, run_takeDeferred hk2, ?_⟩⟩
      refine ⟨by simp, .inl ⟨_, _, rfl, run_takeDeferred hk1', ?_⟩⟩
      refine ⟨_, results_none rfl _ _ _, rfl, v9, (r9.cells q1).cells q2, (SZ.put hk2 hBD2 q1).put hk1' hBD q2⟩
end Go.Proofs.Ybulkbwqo
