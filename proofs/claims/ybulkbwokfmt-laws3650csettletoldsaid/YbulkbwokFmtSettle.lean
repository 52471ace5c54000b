/- DERIVED. The walk of LawS3650CSettle. -/
import Derived.Test.YbulkbwokFmtInv
namespace Go.Proofs.YbulkbwokFmt
open Go.RowKit Go.Extern.Stop Go.Stop Go.Extern

set_option maxRecDepth 100000 in
set_option maxHeartbeats 800000 in
theorem settle_law (F : Interp) (prev count rel : Int) (al : Bool) (w : World) (hF : F.answers w.tape) (p0 : 0 ≤ prev) (p1 : prev ≤ 255) (c0 : 0 ≤ count) (c1 : count ≤ 255) (r0 : 0 ≤ rel) (r1 : rel ≤ 255) :
    Calls Ybaf.prog 4 #[.int .u8 prev, .int .u8 count, .int .u8 rel, .bool al] w fun e w' => e = .returned (.bool true) ∧ Below w.heap.size w w' := by
  obtain ⟨p, hp⟩ : ∃ p : Nat, prev % 4 = p := ⟨(prev % 4).toNat, by omega⟩
  obtain ⟨c, hc⟩ : ∃ c : Nat, count % 4 = c := ⟨(count % 4).toNat, by omega⟩
  have hp3 : p ≤ 3 := by omega
  have hc3 : c ≤ 3 := by omega
  go_enter Ybaf.func4, Ybaf.ntmps4
  go_wp2_with fail
  refine (new_made _).mono ?_
  rintro e w1 ⟨S, m0, m6, m8, rfl, hS, hb1, hS1⟩
  have H := hid (And.intro hS (And.intro hb1 hS1))
  clear hS hb1 hS1
  go_wp2_with fail
  refine (newApp_made _ _ _).mono ?_
  rintro e w2 ⟨A, M, rfl, hA, hM, hb2, hA2, hM2⟩
  obtain ⟨hS, hb1, hS1⟩ := H.out
  clear H
  have I2 := inv_start (base := w.heap.size) hA2 hM2 (below_hp hb2 hS1) (Nat.le_trans hb1.size hb2.size)
  have B2 : Below w.heap.size w w2 := hb1.trans (hb2.mono hb1.size)
  have hA' : w.heap.size ≤ A := Nat.le_trans hb1.size hA
  have hM' : w.heap.size ≤ M := Nat.le_trans hb1.size hM
  have H := hid (And.intro I2 (And.intro B2 (And.intro hS (And.intro hA' hM'))))
  clear hS hb1 hS1 hA hM hb2 hA2 hM2 I2 B2 hA' hM'
  go_wp2_with fail
  refine (newRequest_any F A p _ _ (by have := H.out.2.1.tape; rw [this]; exact hF) (by omega)).mono ?_
  rintro e w3 ⟨rfl, mk3⟩
  obtain ⟨I2, B2, hS, hA, hM⟩ := H.out
  clear H
  have I3 := I2.below mk3.below
  have B3 : Below w.heap.size w w3 := B2.trans (mk3.below.mono B2.size)
  have hadd := add_any w.heap.size S A M w2.heap.size p m0 m6 m8 0 0 0 0 0 _ _ _ 0 _ _ _ _ none 0 0 0 0 0 #[] 0 [] [] [] [] _ w3 I3 mk3.reqAt (by simp [Value.ownBlock]) (by omega) (by omega) (by omega) (by omega) (by omega) (by omega) (by omega) (by omega) (by omega) (by omega) (by simp)
  have hN2 := B2.size
  have H := hid (And.intro I3 (And.intro B3 (And.intro hS (And.intro hA (And.intro hM (And.intro hN2 hadd))))))
  clear I2 B2 hS hA hM I3 B3 mk3 hadd hN2
  go_wp2_with fail
  refine Calls.mono H.out.2.2.2.2.2.2 ?_
  rintro e w4 ⟨rfl, rv, av, pv, nv, I4, R4, f4⟩
  obtain ⟨I3, B3, hS, hA, hM, hN2, -⟩ := H.out
  clear H
  have B4 := step_below I3 hS hA hM hN2 B3 f4
  have a8 : w4.cell? ⟨A, 8, none⟩ = some (.int .i64 0) := by rw [cells_of I4.app]; rfl
  have fa8 : w4.frozen? ⟨A, 8, none⟩ = false := frozen_of I4.app 8
  have I5 := I4.setApp (i := 8) (v := .int .i64 (rel % 3)) (lv' := .slice none 0 0) (rel' := rel % 3) rfl
  have B5 := B4.setCell (p := ⟨A, 8, none⟩) hA (.int .i64 (rel % 3))
  simp only [Nat.zero_add, Int.zero_add, List.nil_append] at I5
  generalize hW5 : w4.setCell ⟨A, 8, none⟩ (.int .i64 (rel % 3)) = W5 at I5 B5
  have a5 : W5.cell? ⟨A, 5, none⟩ = some (.slice none 0 0) := by rw [cells_of I5.app]; rfl
  have fa5 : W5.frozen? ⟨A, 5, none⟩ = false := frozen_of I5.app 5
  have lA5 := lt_of_hp I5.app
  clear I3 B3 hN2 I4 R4 f4 B4
  cases al
  · have I6 := I5
    have B6 := B5
    have hN6 := B6.size
    have H := hid (And.intro I6 (And.intro B6 (And.intro hS (And.intro hA (And.intro hM hN6)))))
    clear I5 B5 I6 B6 hS hA hM hN6
    go_wp2_with fail
    clear hW5 a8 fa8 a5 fa5 lA5
    refine (newRequest_any F A c _ _ (by have := H.out.2.1.tape; rw [this]; exact hF) (by omega)).mono ?_
    rintro e w7 ⟨rfl, mk7⟩
    obtain ⟨I6, B6, hS, hA, hM, hN6⟩ := H.out
    clear H
    have I7 := I6.below mk7.below
    have B7 : Below w.heap.size w w7 := B6.trans (mk7.below.mono B6.size)
    have hadd := add_any w.heap.size S A M W5.heap.size c m0 m6 m8 1 p (one p) 0 0 _ _ _ _ rv av pv nv none (p : Int) (rel % 3) 0 (p : Int) (p : Int) _ 1 _ _ _ _ _ w7 I7 mk7.reqAt I6.av_far (by omega) (by omega) (by omega) (by unfold one; split <;> omega) (by omega) (by omega) (by omega) (by omega) (by omega) (by omega) (r1_free _ _)
    have H := hid (And.intro I7 (And.intro B7 (And.intro hS (And.intro hA (And.intro hM (And.intro hN6 hadd))))))
    clear I6 B6 hS hA hM hN6 I7 B7 mk7 hadd
    go_wp2_with fail
    refine Calls.mono H.out.2.2.2.2.2.2 ?_
    rintro e w8 ⟨rfl, rv8, av8, pv8, nv8, I8, R8, f8⟩
    obtain ⟨I7, B7, hS, hA, hM, hN6, -⟩ := H.out
    clear H
    have B8 := step_below I7 hS hA hM hN6 B7 f8
    obtain ⟨g8, cap8, hrv8, hcap8, hrow8⟩ := owns_cell I8.rvo (by omega)
    subst hrv8
    have a2 := cells_of I8.app 2
    have a3 := cells_of I8.app 3
    have a7 := cells_of I8.app 7
    have s13 := cells_of I8.st 13
    have e1 := hrow8 1 (by omega)
    simp [appCells, stCells, ptr] at a2 a3 a7 s13 e1
    have H := hid B8
    clear I7 B7 hS hA hM hN6 I8 R8 f8 B8 hrow8
    by_cases hpos : (0 : Int) < (p : Int) + (c : Int)
    · by_cases hr : rel % 3 = 0
      · have hst : stOf 0 ((p : Int) + (c : Int)) (rel % 3) = 0 := by simp [stOf, hpos, hr]
        rw [hst] at a2
        have hrb : (rel % 3 == 0) = true := by simp [hr]
        have hq := eql28
        clear hst hr
        go_wp2
        go_ret
        exact ⟨rfl, H.out⟩
      · have hst : stOf 0 ((p : Int) + (c : Int)) (rel % 3) = 1 := by simp [stOf, hpos, hr]
        rw [hst] at a2
        have hrb : (rel % 3 == 0) = false := by simp [hr]
        have hq := eql28
        clear hst hr
        go_wp2
        go_ret
        exact ⟨rfl, H.out⟩
    · by_cases hr : rel % 3 = 0
      · have hst : stOf 0 ((p : Int) + (c : Int)) (rel % 3) = 0 := by simp [stOf, hpos, hr]
        rw [hst] at a2
        have hrb : (rel % 3 == 0) = true := by simp [hr]
        have hq := eql28
        clear hst hr
        go_wp2
        go_ret
        exact ⟨rfl, H.out⟩
      · have hst : stOf 0 ((p : Int) + (c : Int)) (rel % 3) = 3 := by simp [stOf, hpos, hr]
        rw [hst] at a2
        have hrb : (rel % 3 == 0) = false := by simp [hr]
        have hq := eql28
        clear hst hr
        go_wp2
        go_ret
        exact ⟨rfl, H.out⟩
  · have lAx := lA5
    have I6 := ((I5.setApp (i := 5) (v := .slice (some ⟨W5.heap.size + 1, 0, none⟩) 1 1) (lv' := .slice (some ⟨W5.heap.size + 1, 0, none⟩) 1 1) (rel' := rel % 3) rfl).below (((Below.refl _ _).alloc (Nat.le_refl _) (.cells #[.string ⟨#[120]⟩, .pointer none, .pointer none, .int .i64 0, .int .i64 0, .string ⟨#[]⟩, .string ⟨#[]⟩, .string ⟨#[]⟩, .string ⟨#[]⟩, .map none, .int .i64 0, .string ⟨#[]⟩, .int .i64 0, .bool false] 62)).alloc (by simp) (.cells #[.pointer (some ⟨W5.heap.size, 0, none⟩)] 46)))
    have B6 := ((B5.setCell (p := ⟨A, 5, none⟩) hA (.slice (some ⟨W5.heap.size + 1, 0, none⟩) 1 1)).alloc (by have := B5.size; simpa using this) (.cells #[.string ⟨#[120]⟩, .pointer none, .pointer none, .int .i64 0, .int .i64 0, .string ⟨#[]⟩, .string ⟨#[]⟩, .string ⟨#[]⟩, .string ⟨#[]⟩, .map none, .int .i64 0, .string ⟨#[]⟩, .int .i64 0, .bool false] 62)).alloc (by have := B5.size; simp; omega) (.cells #[.pointer (some ⟨W5.heap.size, 0, none⟩)] 46)
    generalize hW6 : ((W5.setCell ⟨A, 5, none⟩ (.slice (some ⟨W5.heap.size + 1, 0, none⟩) 1 1)).alloc (.cells #[.string ⟨#[120]⟩, .pointer none, .pointer none, .int .i64 0, .int .i64 0, .string ⟨#[]⟩, .string ⟨#[]⟩, .string ⟨#[]⟩, .string ⟨#[]⟩, .map none, .int .i64 0, .string ⟨#[]⟩, .int .i64 0, .bool false] 62)).alloc (.cells #[.pointer (some ⟨W5.heap.size, 0, none⟩)] 46) = W6 at I6 B6
    have hN6 := B6.size
    have H := hid (And.intro I6 (And.intro B6 (And.intro hS (And.intro hA (And.intro hM hN6)))))
    clear I5 B5 I6 B6 hS hA hM hN6
    go_wp2_with fail
    clear hW5 hW6 a8 fa8 a5 fa5 lA5 lAx
    refine (newRequest_any F A c _ _ (by have := H.out.2.1.tape; rw [this]; exact hF) (by omega)).mono ?_
    rintro e w7 ⟨rfl, mk7⟩
    obtain ⟨I6, B6, hS, hA, hM, hN6⟩ := H.out
    clear H
    have I7 := I6.below mk7.below
    have B7 : Below w.heap.size w w7 := B6.trans (mk7.below.mono B6.size)
    have hadd := add_any w.heap.size S A M W6.heap.size c m0 m6 m8 1 p (one p) 1 1 _ _ _ _ rv av pv nv (some ⟨W5.heap.size + 1, 0, none⟩) (p : Int) (rel % 3) 0 (p : Int) (p : Int) _ 1 _ _ _ _ _ w7 I7 mk7.reqAt I6.av_far (by omega) (by omega) (by omega) (by unfold one; split <;> omega) (by omega) (by omega) (by omega) (by omega) (by omega) (by omega) (r1_free _ _)
    have H := hid (And.intro I7 (And.intro B7 (And.intro hS (And.intro hA (And.intro hM (And.intro hN6 hadd))))))
    clear I6 B6 hS hA hM hN6 I7 B7 mk7 hadd
    go_wp2_with fail
    refine Calls.mono H.out.2.2.2.2.2.2 ?_
    rintro e w8 ⟨rfl, rv8, av8, pv8, nv8, I8, R8, f8⟩
    obtain ⟨I7, B7, hS, hA, hM, hN6, -⟩ := H.out
    clear H
    have B8 := step_below I7 hS hA hM hN6 B7 f8
    obtain ⟨g8, cap8, hrv8, hcap8, hrow8⟩ := owns_cell I8.rvo (by omega)
    subst hrv8
    have a2 := cells_of I8.app 2
    have a3 := cells_of I8.app 3
    have a7 := cells_of I8.app 7
    have s13 := cells_of I8.st 13
    have e1 := hrow8 1 (by omega)
    simp [appCells, stCells, ptr] at a2 a3 a7 s13 e1
    have H := hid B8
    clear I7 B7 hS hA hM hN6 I8 R8 f8 B8 hrow8
    by_cases hpos : (0 : Int) < (p : Int) + (c : Int)
    · by_cases hr : rel % 3 = 0
      · have hst : stOf 1 ((p : Int) + (c : Int)) (rel % 3) = 1 := by simp [stOf, hpos]
        rw [hst] at a2
        have hrb : (rel % 3 == 0) = true := by simp [hr]
        have hq := eql28
        clear hst hr
        go_wp2
        go_ret
        exact ⟨rfl, H.out⟩
      · have hst : stOf 1 ((p : Int) + (c : Int)) (rel % 3) = 1 := by simp [stOf, hpos]
        rw [hst] at a2
        have hrb : (rel % 3 == 0) = false := by simp [hr]
        have hq := eql28
        clear hst hr
        go_wp2
        go_ret
        exact ⟨rfl, H.out⟩
    · by_cases hr : rel % 3 = 0
      · have hst : stOf 1 ((p : Int) + (c : Int)) (rel % 3) = 2 := by simp [stOf, hpos]
        rw [hst] at a2
        have hrb : (rel % 3 == 0) = true := by simp [hr]
        have hq := eql28
        clear hst hr
        go_wp2
        go_ret
        exact ⟨rfl, H.out⟩
      · have hst : stOf 1 ((p : Int) + (c : Int)) (rel % 3) = 2 := by simp [stOf, hpos]
        rw [hst] at a2
        have hrb : (rel % 3 == 0) = false := by simp [hr]
        have hq := eql28
        clear hst hr
        go_wp2
        go_ret
        exact ⟨rfl, H.out⟩
end Go.Proofs.YbulkbwokFmt
