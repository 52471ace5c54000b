/- DERIVED. gap, lineGap, endItem where the Buffer has no Gaps. -/
import Derived.Test.YbulkbwqoF
import Derived.Laws.StructEq
import Derived.Deep.CutRange
namespace Go.Proofs.Ybulkbwqo
open Go.RowKit

theorem eqNil (w : World) : (binOp BinOp.eql 29 Value.nilFunc Value.nilFunc).run Yba.prog w = .ok (.bool true) w := by kernel_rfl
set_option maxRecDepth 100000 in
theorem gap_nil (B Bb wd at' : Nat) (v : Value) (l : List UInt8) (w : World) (h : Buf B Bb wd .nilFunc v l w) :
    Calls Yba.prog 21 #[.pointer (some ⟨Bb, 0, none⟩), .int .u8 at'] w fun e w' => e = .returned (.agg #[.int .i64 0, .int .i64 0, .int .i64 0, .int .i64 0]) ∧ Below w.heap.size w w' := by
  have b0 : (w.alloc (.cells #[.int .i64 0, .int .i64 0, .int .i64 0, .int .i64 0] 56)).heap[w.heap.size]? = some (.cells #[.int .i64 0, .int .i64 0, .int .i64 0, .int .i64 0] 56) := heap_alloc_new w _
  have h3 := (h.below ((Below.refl _ _).alloc (Nat.le_refl _) (.cells #[.int .i64 0, .int .i64 0, .int .i64 0, .int .i64 0] 56))).c3
  have hB : Below w.heap.size w (w.alloc (.cells #[.int .i64 0, .int .i64 0, .int .i64 0, .int .i64 0] 56)) := (Below.refl _ _).alloc (Nat.le_refl _) _
  generalize hw1 : w.alloc (.cells #[.int .i64 0, .int .i64 0, .int .i64 0, .int .i64 0] 56) = w1 at *
  generalize hQ : w.heap.size = Q at *
  have z0 : w1.cell? ⟨Q, 0, none⟩ = some (.int .i64 0) := by simp [World.cell?, b0]
  have z1 : w1.cell? ⟨Q, 1, none⟩ = some (.int .i64 0) := by simp [World.cell?, b0]
  have z2 : w1.cell? ⟨Q, 2, none⟩ = some (.int .i64 0) := by simp [World.cell?, b0]
  have z3 : w1.cell? ⟨Q, 3, none⟩ = some (.int .i64 0) := by simp [World.cell?, b0]
  have f0 : w1.frozen? ⟨Q, 0, none⟩ = false := by simp [World.frozen?, b0]
  have f1 : w1.frozen? ⟨Q, 1, none⟩ = false := by simp [World.frozen?, b0]
  have f2 : w1.frozen? ⟨Q, 2, none⟩ = false := by simp [World.frozen?, b0]
  have f3 : w1.frozen? ⟨Q, 3, none⟩ = false := by simp [World.frozen?, b0]
  have hq := eqNil w1
  have H := hid (And.intro hB b0)
  clear h hB b0
  go_enter Yba.func21, Yba.ntmps21
  go_wp2
  obtain ⟨hB, b0⟩ := H.out
  have hg : ((((w1.setCell ⟨Q, 0, none⟩ (.int .i64 0)).setCell ⟨Q, 1, none⟩ (.int .i64 0)).setCell ⟨Q, 2, none⟩ (.int .i64 0)).setCell ⟨Q, 3, none⟩ (.int .i64 0)).heap[Q]? = some (.cells #[.int .i64 0, .int .i64 0, .int .i64 0, .int .i64 0] 56) := by
    simp [World.setCell, Array.getElem?_modify, b0]
  refine bodyPost_ret (results_cell_row (by rfl) _ _ Q 56 _ (0, 0) _ (by rfl) hg Yba.underlying56 rfl (by kernel_rfl)) rfl ⟨rfl, ?_⟩
  exact (((hB.setCell (p := ⟨Q, 0, none⟩) (Nat.le_refl _) _).setCell (p := ⟨Q, 1, none⟩) (Nat.le_refl _) _).setCell (p := ⟨Q, 2, none⟩) (Nat.le_refl _) _).setCell (p := ⟨Q, 3, none⟩) (Nat.le_refl _) _

theorem Run.nl {B Bb Lb Pb Ib wd : Nat} {gf v lg : Value} {l : List UInt8} {k : Nat} {X : Option Addr} {n cap : Nat} {w w2 : World} (h : Run B Bb Lb Pb Ib wd gf v lg l k X n cap w) (hs : Stp B [5] w w2) {v' : Value} {l' : List UInt8} (ho : Own B w2 v' l') :
    ∃ x m q, v' = .slice x m q ∧ w2.cell? ⟨Bb, 0, none⟩ = some v ∧ w2.frozen? ⟨Bb, 0, none⟩ = false ∧
      Run B Bb Lb Pb Ib wd gf v' lg l' k X n cap (w2.setCell ⟨Bb, 0, none⟩ v') ∧ Stp B [5, 37] w (w2.setCell ⟨Bb, 0, none⟩ v') := by
  obtain ⟨x, m, q, rfl⟩ := owns_slice ho
  have b1 := hs.fr _ _ _ (by decide) h.buf.blk
  obtain ⟨r2, S2⟩ := h.put hs ho
  exact ⟨x, m, q, rfl, by simp [World.cell?, b1], by simp [World.frozen?, b1], r2, S2⟩

set_option maxRecDepth 100000 in
set_option maxHeartbeats 4000000 in
/-- lineGap of two gaps that hold no comment, where no blank line may stand. -/
theorem lineGap_plain (B Bb Lb Pb Ib wd : Nat) (gf v lg : Value) (l : List UInt8) (k : Nat) (X : Option Addr) (n cap : Nat) (b1 b2 inner fr tt next : Nat) (w : World) (h : Run B Bb Lb Pb Ib wd gf v lg l k X n cap w) (hl : l.length ≤ 9000000)
    (hwd : wd ≤ 4) (hnx : next ≤ 1000) (hfr : fr ≤ 1) (hto : tt ≤ 1) (hb : (b1 < 2 ∧ b2 < 2) ∨ (b1 ≤ 2 ∧ b2 ≤ 2 ∧ tt = 1)) :
    Calls Yba.prog 20 #[.pointer (some ⟨Bb, 0, none⟩), .agg #[.int .i64 0, .int .i64 0, .int .i64 0, .int .i64 b1], .agg #[.int .i64 0, .int .i64 0, .int .i64 0, .int .i64 b2], .int .i64 inner, .int .u8 fr, .int .u8 tt, .int .i64 next] w
      fun e w' => e = .returned (.tuple #[]) ∧ ∃ v', Run B Bb Lb Pb Ib wd gf v' lg (l ++ nl (min next 16 * wd)) k X n cap w' ∧ Stp B [5, 37] w w' := by
  have hB := h.buf.lt
  have B1 : Below w.heap.size w ((w.alloc (.cells #[.int .i64 0, .int .i64 0, .int .i64 0, .int .i64 b1] 56)).alloc (.cells #[.int .i64 0, .int .i64 0, .int .i64 0, .int .i64 b2] 56)) := ((Below.refl _ _).alloc (Nat.le_refl _) _).alloc (by simp) _
  have e1 : ((w.alloc (.cells #[.int .i64 0, .int .i64 0, .int .i64 0, .int .i64 b1] 56)).alloc (.cells #[.int .i64 0, .int .i64 0, .int .i64 0, .int .i64 b2] 56)).heap[w.heap.size]? = some (.cells #[.int .i64 0, .int .i64 0, .int .i64 0, .int .i64 b1] 56) := by
    rw [hp_alloc_lt (by simp)]; exact heap_alloc_new w _
  have e2 : ((w.alloc (.cells #[.int .i64 0, .int .i64 0, .int .i64 0, .int .i64 b1] 56)).alloc (.cells #[.int .i64 0, .int .i64 0, .int .i64 0, .int .i64 b2] 56)).heap[w.heap.size + 1]? = some (.cells #[.int .i64 0, .int .i64 0, .int .i64 0, .int .i64 b2] 56) := by
    have e : w.heap.size + 1 = (w.alloc (.cells #[.int .i64 0, .int .i64 0, .int .i64 0, .int .i64 b1] 56)).heap.size := by simp
    rw [e]; exact heap_alloc_new _ _
  generalize hw1 : (w.alloc (.cells #[.int .i64 0, .int .i64 0, .int .i64 0, .int .i64 b1] 56)).alloc (.cells #[.int .i64 0, .int .i64 0, .int .i64 0, .int .i64 b2] 56) = w1 at *
  have r1 := h.below B1
  have S1 : Stp B [5, 37] w w1 := Stp.ofBelow B1 hB
  generalize hQ : w.heap.size = Q at *
  have x0 : w1.cell? ⟨Q, 0, none⟩ = some (.int .i64 0) := by simp [World.cell?, e1]
  have x3 : w1.cell? ⟨Q, 3, none⟩ = some (.int .i64 b1) := by simp [World.cell?, e1]
  have y0 : w1.cell? ⟨Q + 1, 0, none⟩ = some (.int .i64 0) := by simp [World.cell?, e2]
  have y3 : w1.cell? ⟨Q + 1, 3, none⟩ = some (.int .i64 b2) := by simp [World.cell?, e2]
  have c0 := r1.buf.c0
  have hif : (if b1 < b2 then (b2 : Int) else (b1 : Int)) = ((max b1 b2 : Nat) : Int) := by split <;> omega
  obtain ⟨mx, hmx⟩ : ∃ mx, max b1 b2 = mx := ⟨_, rfl⟩
  rw [hmx] at hif
  have t3 : ¬ (tt : Int) = 3 := by omega
  have hnl := newLine_any B Bb wd next fr gf v l w1 hwd hnx hfr r1.buf (by omega)
  have H := hid (And.intro r1 (And.intro S1 hnl))
  clear h B1 e1 e2 r1 S1 hnl
  have hb' : (mx : Int) < 2 ∨ (¬ (mx : Int) < 2 ∧ tt = 1) := by omega
  clear hb hmx
  rcases hb' with h2 | ⟨h2, rfl⟩
  all_goals
    go_enter Yba.func20, Yba.ntmps20
    go_wp2_with fail
    refine H.out.2.2.mono ?_
    rintro e w2 ⟨v2, rfl, o2, S2⟩
    obtain ⟨x, m, q, rfl, g2, f2, r3, S3⟩ := H.out.1.nl S2 o2
    have H2 := hid (And.intro r3 (H.out.2.1.trans S3))
    clear o2 S2 r3 S3
    go_wp2
    exact bodyPost_ret (results_none rfl _ _ _) rfl ⟨rfl, _, H2.out.1, H2.out.2⟩

theorem two_fields {fs : List Field} {a b : TypeId} {oa ob : Nat} (hm : fs.map (fun f => (f.name == "_", f.type, f.offset)) = [(false, a, oa), (false, b, ob)]) :
    ∃ f g : Field, fs = [f, g] ∧ (f.name ≠ "_") ∧ (g.name ≠ "_") ∧ f.type = a ∧ g.type = b ∧ f.offset = oa ∧ g.offset = ob := by
  rcases fs with _ | ⟨f, _ | ⟨g, _ | ⟨h, fs⟩⟩⟩
  · simp at hm
  · simp at hm
  · simp at hm
    exact ⟨f, g, rfl, hm.1.1, hm.2.1, hm.1.2.1, hm.2.2.1, hm.1.2.2, hm.2.2.2⟩
  · simp at hm
/-- Two gaps that hold no comment: alike where their line breaks are. -/
theorem eq56 (b : Int) (w : World) : (Op.equalIn 10000 56 (.agg #[.int .i64 0, .int .i64 0, .int .i64 0, .int .i64 b]) (.agg #[.int .i64 0, .int .i64 0, .int .i64 0, .int .i64 0])).run Yba.prog w = .ok (b == 0) w := by
  have hf : Yba.prog.underlying 56 = some (.struct (Yba.prog.fieldsOf 56)) := by kernel_rfl
  have hs : Yba.prog.stoodInHeld 56 = false := by kernel_rfl
  rw [run_equalIn_agg _ 9999 56 _ _ hf hs]
  have p0 : ∀ b : Int, (part 54 #[.int .i64 0, .int .i64 0, .int .i64 0, .int .i64 b] 0).run Yba.prog w = .ok (.agg #[.int .i64 0, .int .i64 0, .int .i64 0]) w := fun b => by kernel_rfl
  have p1 : ∀ b : Int, (part 3 #[.int .i64 0, .int .i64 0, .int .i64 0, .int .i64 b] 3).run Yba.prog w = .ok (.int .i64 b) w := fun b => by kernel_rfl
  have e0 : (Op.equalIn 9999 54 (.agg #[.int .i64 0, .int .i64 0, .int .i64 0]) (.agg #[.int .i64 0, .int .i64 0, .int .i64 0])).run Yba.prog w = .ok true w := by kernel_rfl
  have e1 : (Op.equalIn 9999 3 (.int .i64 b) (.int .i64 0)).run Yba.prog w = .ok (b == 0) w := run_equalIn_int w 9998 3 .i64 .i64 b 0 (by kernel_rfl)
  obtain ⟨f, g, hfg, n1, n2, t1, t2, o1, o2⟩ := two_fields (fs := (Yba.prog.fieldsOf 56).toList) (a := 54) (b := 3) (oa := 0) (ob := 3) (by kernel_rfl)
  rw [hfg]
  simp [Op.eqFields, if_pos n1, if_pos n2, t1, t2, o1, o2, Sem.run_bind, p0, p1, Result.andThen_ok, e0, e1]
  split <;> simp_all

set_option maxRecDepth 100000 in
set_option maxHeartbeats 4000000 in
theorem endItem_nil (B Bb Lb Pb Ib wd : Nat) (v lg : Value) (l : List UInt8) (k : Nat) (X : Option Addr) (n cap : Nat) (Q lv next : Nat) (o1 o2 : Value) (lines last : Bool) (w : World) (h : Run B Bb Lb Pb Ib wd .nilFunc v lg l k X n cap w) (hl : l.length ≤ 9000000)
    (hwd : wd ≤ 4) (hlv : lv ≤ 255) (hnx : next ≤ 1000) (bQ : w.heap[Q]? = some (.cells #[o1, o2, .int .i64 lv, .bool lines, .bool true] 41)) :
    Calls Yba.prog 23 #[.pointer (some ⟨Bb, 0, none⟩), .pointer (some ⟨Q, 0, none⟩), .bool last, .int .i64 next] w
      fun e w' => e = .returned (.tuple #[]) ∧ ∃ v', Run B Bb Lb Pb Ib wd .nilFunc v' lg (l ++ nl (min next 16 * wd)) k X n cap w' ∧ Stp B [5, 37] w w' := by
  have q2 : w.cell? ⟨Q, 2, none⟩ = some (.int .i64 lv) := by simp [World.cell?, bQ]
  have hg1 := gap_nil B Bb wd 1 v l w h.buf
  have HG := hid hg1
  clear hg1
  go_enter Yba.func23, Yba.ntmps23
  go_wp2_with fail
  refine HG.out.mono ?_
  rintro e w1 ⟨rfl, B1⟩
  have h1 := h.below B1
  have hg2 := gap_nil B Bb wd 2 v l w1 h1.buf
  have HG2 := hid hg2
  clear hg2
  go_wp2_with fail
  refine HG2.out.mono ?_
  rintro e w2 ⟨rfl, B2⟩
  have B12 : Below w.heap.size w w2 := B1.trans (B2.mono B1.size)
  have h2 := h.below B12
  have bQ2 := (B12.block _ (lt_of_some bQ)).trans bQ
  have B3 : Below w2.heap.size w2 ((w2.alloc (.cells #[.int .i64 0, .int .i64 0, .int .i64 0, .int .i64 0] 56)).alloc (.cells #[.int .i64 0, .int .i64 0, .int .i64 0, .int .i64 0] 56)) := ((Below.refl _ _).alloc (Nat.le_refl _) _).alloc (by simp) _
  have B13 : Below w.heap.size w ((w2.alloc (.cells #[.int .i64 0, .int .i64 0, .int .i64 0, .int .i64 0] 56)).alloc (.cells #[.int .i64 0, .int .i64 0, .int .i64 0, .int .i64 0] 56)) := B12.trans (B3.mono B12.size)
  have h3 := h2.below B3
  have hB := h.buf.lt
  have S3 : Stp B [5, 37] w ((w2.alloc (.cells #[.int .i64 0, .int .i64 0, .int .i64 0, .int .i64 0] 56)).alloc (.cells #[.int .i64 0, .int .i64 0, .int .i64 0, .int .i64 0] 56)) := Stp.ofBelow B13 hB
  have hq := eq56 0
  have lB : Bb < w2.heap.size := lt_of_some h2.buf.blk
  have lQ : Q < w2.heap.size := lt_of_some bQ2
  have q4 : w2.cell? ⟨Q, 4, none⟩ = some (.bool true) := by simp [World.cell?, bQ2]
  have c0 := h2.buf.c0
  have hnl := appendNewline_any B Bb wd next v l ((w2.alloc (.cells #[.int .i64 0, .int .i64 0, .int .i64 0, .int .i64 0] 56)).alloc (.cells #[.int .i64 0, .int .i64 0, .int .i64 0, .int .i64 0] 56)).drew hwd hnx (by have := h3.buf.lt; exact this) h3.buf.c1 h3.buf.c2 h3.buf.own.drew (by omega)
  have hnl2 := hnl.mono (R' := fun e w' => ∃ v', e = .returned v' ∧ ∃ x m q, v' = .slice x m q ∧ w'.cell? ⟨Bb, 0, none⟩ = some v ∧ w'.frozen? ⟨Bb, 0, none⟩ = false ∧ Run B Bb Lb Pb Ib wd .nilFunc v' lg (l ++ nl (min next 16 * wd)) k X n cap (w'.setCell ⟨Bb, 0, none⟩ v') ∧ Stp B [5, 37] w (w'.setCell ⟨Bb, 0, none⟩ v')) (fun e w' hh => by
    obtain ⟨v', rfl, ho, hs⟩ := hh
    obtain ⟨x, m, q, e1, e2, e3, r, s⟩ := h3.nl hs.ofDrew ho
    exact ⟨v', rfl, x, m, q, e1, e2, e3, r, S3.trans s⟩)
  have HN := hid hnl2
  clear hnl hnl2 S3 h3 h2 h1 B1 B2 B3 B12 B13 bQ2 bQ h HG HG2 q2
  go_wp2
  go_region_law (refine step_call (by rfl) 22 _ (by first | kernel_rfl | simp [go_sem]) HN.out ?_; rintro v9 w9 ⟨x9, m9, q9, rfl, c9, f9, r9, S9⟩)
  all_goals
    go_wp2
    exact bodyPost_ret (results_none rfl _ _ _) rfl ⟨rfl, _, r9, S9⟩
end Go.Proofs.Ybulkbwqo
