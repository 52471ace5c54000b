/- DERIVED. endItem where the Buffer has the law's Gaps. -/
import Derived.Test.YbulkbwqoV
namespace Go.Proofs.Ybulkbwqo
open Go.RowKit

/-- What a step of a Block with Gaps keeps. -/
structure StX (g : GB) (ts : List TypeId) (w w' : World) : Prop where
  bel : Below g.W0 w w'
  fr : ∀ (k : Nat) (c : Array Value) (t : TypeId), t ∉ ts → t ≠ 42 → t ≠ 50 → k ≠ g.Kb → w.heap[k]? = some (.cells c t) → w'.heap[k]? = some (.cells c t)
theorem StX.trans {g : GB} {ts : List TypeId} {a b c : World} (h : StX g ts a b) (k : StX g ts b c) : StX g ts a c := ⟨h.bel.trans k.bel, fun i d t h1 h2 h3 h4 hh => k.fr i d t h1 h2 h3 h4 (h.fr i d t h1 h2 h3 h4 hh)⟩
theorem StX.ofStp {g : GB} {B : Nat} {ts us : List TypeId} {a b : World} (h : Stp B us a b) (hB : g.W0 ≤ B) (hs : ∀ t, t ∈ us → t ∈ ts) : StX g ts a b := ⟨h.bel.mono hB, fun i d t h1 _ _ _ hh => h.fr i d t (fun e => h1 (hs t e)) hh⟩
theorem StX.ofG {g : GB} {ts : List TypeId} {a b : World} (h : StG g a b) : StX g ts a b := ⟨h.bel, fun i d t _ h2 h3 h4 hh => h.fr i d t h2 h3 h4 hh⟩

/-- What endItem leaves. -/
def EndPost (g : GB) (B Bb Lb Pb Ib wd : Nat) (lg : Value) (T : List UInt8) (k : Nat) (X : Option Addr) (n cap : Nat) (kk : Nat) (SL : List Value) (w w' : World) : Prop :=
  ∃ v' sv', Run B Bb Lb Pb Ib wd g.fn v' lg T k X n cap w' ∧ GS g B sv' kk SL w' ∧ StX g [5, 37] w w'

set_option maxRecDepth 100000 in
set_option maxHeartbeats 4000000 in
theorem endItem_fn (g : GB) (ok : GOk g) (B Bb Lb Pb Ib wd : Nat) (v lg : Value) (l : List UInt8) (k : Nat) (X : Option Addr) (n cap : Nat) (Q lv next : Nat) (o1 o2 : Value) (lines bare last : Bool) (sv : Value) (kk : Nat) (sl : List Value) (w : World)
    (h : Run B Bb Lb Pb Ib wd g.fn v lg l k X n cap w) (hg : GS g B sv kk sl w) (hl : l.length ≤ 8000000) (hP : Pb ≠ g.Kb) (hIb : Ib ≠ g.Kb) (hQ : Q ≠ g.Kb)
    (hwd : wd ≤ 4) (hlv : lv ≤ 255) (hnx : next ≤ 1000) (hkk : kk ≤ 800) (hsl : sl.length ≤ 4000) (bQ : w.heap[Q]? = some (.cells #[o1, o2, .int .i64 lv, .bool lines, .bool bare] 41)) :
    Calls Yba.prog 23 #[.pointer (some ⟨Bb, 0, none⟩), .pointer (some ⟨Q, 0, none⟩), .bool last, .int .i64 next] w
      fun e w' => e = .returned (.tuple #[]) ∧ EndPost g B Bb Lb Pb Ib wd lg (l ++ (if bare then [] else [44]) ++ blankT (bk g.eb kk) (bk g.sb kk) last ++ nl (min next 16 * wd)) k X n cap (kk + 1) (sl ++ [.int .u8 (1 : Nat)] ++ [.int .u8 (2 : Nat)]) w w' := by
  obtain ⟨T, hT⟩ : ∃ T, T = l ++ (if bare then [] else [44]) ++ blankT (bk g.eb kk) (bk g.sb kk) last ++ nl (min next 16 * wd) := ⟨_, rfl⟩
  obtain ⟨SL, hSL⟩ : ∃ SL : List Value, SL = sl ++ [.int .u8 (1 : Nat)] ++ [.int .u8 (2 : Nat)] := ⟨_, rfl⟩
  rw [← hT, ← hSL]
  have HT0 := hid (And.intro hT hSL)
  clear hT hSL
  have q2 : w.cell? ⟨Q, 2, none⟩ = some (.int .i64 lv) := by simp [World.cell?, bQ]
  have hg1 := gap_fn g ok B Bb wd v l sv kk sl 1 w h.buf hg (by omega) (by omega) (by omega)
  have HG := hid hg1
  clear hg1
  go_enter Yba.func23, Yba.ntmps23
  go_wp2_with fail
  refine HG.out.mono ?_
  rintro e w1 ⟨rfl, sv1, G1, s1⟩
  simp only [show ¬ (1 : Nat) = 2 by omega, if_false] at G1
  have h1 := h.stg s1 hg.lK hP hIb
  have hg2 := gap_fn g ok B Bb wd v l sv1 kk _ 2 w1 h1.buf G1 (by omega) (by simp; omega) (by omega)
  have HG2 := hid hg2
  clear hg2
  go_wp2_with fail
  refine HG2.out.mono ?_
  rintro e w2 ⟨rfl, sv2, G2, s2⟩
  simp only [if_true] at G2
  have h2 := h1.stg s2 hg.lK hP hIb
  have s12 := s1.trans s2
  have bQ2 := s12.fr _ _ _ (by decide) (by decide) hQ bQ
  have eb1 : g.brk 1 kk = bk g.eb kk := rfl
  have eb2 : g.brk 2 kk = bk g.sb kk := rfl
  rw [eb1, eb2]
  have le1 := bk_le g.eb kk
  have le2 := bk_le g.sb kk
  obtain ⟨hT, hSL⟩ := HT0.out
  clear HT0
  rw [← hSL] at G2
  generalize bk g.eb kk = e' at *
  generalize bk g.sb kk = s' at *
  have HT := hid hT
  clear hT hSL
  have B3 : Below w2.heap.size w2 ((w2.alloc (.cells #[.int .i64 0, .int .i64 0, .int .i64 0, .int .i64 e'] 56)).alloc (.cells #[.int .i64 0, .int .i64 0, .int .i64 0, .int .i64 s'] 56)) := ((Below.refl _ _).alloc (Nat.le_refl _) _).alloc (by simp) _
  have x1 : ((w2.alloc (.cells #[.int .i64 0, .int .i64 0, .int .i64 0, .int .i64 e'] 56)).alloc (.cells #[.int .i64 0, .int .i64 0, .int .i64 0, .int .i64 s'] 56)).heap[w2.heap.size]? = some (.cells #[.int .i64 0, .int .i64 0, .int .i64 0, .int .i64 e'] 56) := by
    rw [hp_alloc_lt (by simp)]; exact heap_alloc_new w2 _
  have x2 : ((w2.alloc (.cells #[.int .i64 0, .int .i64 0, .int .i64 0, .int .i64 e'] 56)).alloc (.cells #[.int .i64 0, .int .i64 0, .int .i64 0, .int .i64 s'] 56)).heap[w2.heap.size + 1]? = some (.cells #[.int .i64 0, .int .i64 0, .int .i64 0, .int .i64 s'] 56) := by
    have e : w2.heap.size + 1 = (w2.alloc (.cells #[.int .i64 0, .int .i64 0, .int .i64 0, .int .i64 e'] 56)).heap.size := by simp
    rw [e]; exact heap_alloc_new _ _
  have S3 : Stp B [5, 37] w2 ((w2.alloc (.cells #[.int .i64 0, .int .i64 0, .int .i64 0, .int .i64 e'] 56)).alloc (.cells #[.int .i64 0, .int .i64 0, .int .i64 0, .int .i64 s'] 56)) := Stp.ofBelow B3 h2.buf.lt
  have h3 := h2.below B3
  have G3 := G2.stp S3 (by decide)
  have bQ3 := S3.fr _ _ _ (by decide) bQ2
  have X3 : StX g [5, 37] w ((w2.alloc (.cells #[.int .i64 0, .int .i64 0, .int .i64 0, .int .i64 e'] 56)).alloc (.cells #[.int .i64 0, .int .i64 0, .int .i64 0, .int .i64 s'] 56)) := (StX.ofG s12).trans (StX.ofStp S3 hg.w0 (fun _ h => h))
  have hW0 := hg.w0
  have lB : Bb < w2.heap.size := lt_of_some h2.buf.blk
  have lQ : Q < w2.heap.size := lt_of_some bQ2
  have q4 : w2.cell? ⟨Q, 4, none⟩ = some (.bool bare) := by simp [World.cell?, bQ2]
  have c0 := h2.buf.c0
  have hq1 := eq56 (e' : Int)
  have hq2 := eq56 (s' : Int)
  have H3 := hid (And.intro h3 (And.intro G3 (And.intro bQ3 (And.intro X3 (And.intro x1 x2)))))
  clear h3 G3 bQ3 X3 B3 S3 h2 h1 G1 G2 s1 s2 s12 bQ2 bQ h hg HG HG2 q2 x1 x2 eb1 eb2
  by_cases hz : e' = 0 ∧ s' = 0
  · obtain ⟨rfl, rfl⟩ := hz
    cases bare with
    | true =>
      have hnl := appendNewline_any B Bb wd next v l ((w2.alloc (.cells #[.int .i64 0, .int .i64 0, .int .i64 0, .int .i64 (0 : Nat)] 56)).alloc (.cells #[.int .i64 0, .int .i64 0, .int .i64 0, .int .i64 (0 : Nat)] 56)).drew hwd hnx (by have := H3.out.1.buf.lt; exact this) H3.out.1.buf.c1 H3.out.1.buf.c2 H3.out.1.buf.own.drew (by omega)
      have hnl2 := hnl.mono (R' := fun e w' => ∃ v', e = .returned v' ∧ ∃ x m q, v' = .slice x m q ∧ w'.cell? ⟨Bb, 0, none⟩ = some v ∧ w'.frozen? ⟨Bb, 0, none⟩ = false ∧ Run B Bb Lb Pb Ib wd g.fn v' lg (l ++ nl (min next 16 * wd)) k X n cap (w'.setCell ⟨Bb, 0, none⟩ v') ∧ GS g B sv2 (kk + 1) SL (w'.setCell ⟨Bb, 0, none⟩ v') ∧ StX g [5, 37] w (w'.setCell ⟨Bb, 0, none⟩ v')) (fun e w' hh => by
        obtain ⟨v', rfl, ho, hs⟩ := hh
        obtain ⟨x, m, q, e1, e2, e3, r, s⟩ := H3.out.1.nl hs.ofDrew ho
        exact ⟨v', rfl, x, m, q, e1, e2, e3, r, H3.out.2.1.stp s (by decide), H3.out.2.2.2.1.trans (StX.ofStp s hW0 (fun _ h => h))⟩)
      have HN := hid hnl2
      clear hnl hnl2 H3
      go_wp2
      go_region_law (refine step_call (by rfl) 22 _ (by first | kernel_rfl | simp [go_sem]) HN.out ?_; rintro v9 w9 ⟨x9, m9, q9, rfl, c9, f9, r9, G9, S9⟩)
      all_goals
        go_wp2
        refine bodyPost_ret (results_none rfl _ _ _) rfl ⟨rfl, .slice x9 m9 q9, sv2, ?_, G9, S9⟩
        rw [HT.out]
        simpa [blankT] using r9
    | false =>
      obtain ⟨va, wa, hra, oa, Sa⟩ := app1 B v l 44 44 rfl ((w2.alloc (.cells #[.int .i64 0, .int .i64 0, .int .i64 0, .int .i64 (0 : Nat)] 56)).alloc (.cells #[.int .i64 0, .int .i64 0, .int .i64 0, .int .i64 (0 : Nat)] 56)) H3.out.1.buf.lt H3.out.1.buf.own (by omega)
      have hsz : ((w2.alloc (.cells #[.int .i64 0, .int .i64 0, .int .i64 0, .int .i64 (0 : Nat)] 56)).alloc (.cells #[.int .i64 0, .int .i64 0, .int .i64 0, .int .i64 (0 : Nat)] 56)).heap.size = w2.heap.size + 1 + 1 := by simp
      rw [hsz] at hra
      obtain ⟨xa, ma, qa, rfl, ca, fa, ra, sa⟩ := H3.out.1.nl Sa oa
      have Ga := H3.out.2.1.stp sa (by decide)
      have Xa := H3.out.2.2.2.1.trans (StX.ofStp sa hW0 (fun _ h => h))
      generalize hwb : wa.setCell ⟨Bb, 0, none⟩ (.slice xa ma qa) = wb at *
      have cb := ra.buf.c0
      have hnl := appendNewline_any B Bb wd next _ _ wb.drew hwd hnx (by have := ra.buf.lt; exact this) ra.buf.c1 ra.buf.c2 ra.buf.own.drew (by simp; omega)
      have hnl2 := hnl.mono (R' := fun e w' => ∃ v', e = .returned v' ∧ ∃ x m q, v' = .slice x m q ∧ w'.cell? ⟨Bb, 0, none⟩ = some (.slice xa ma qa) ∧ w'.frozen? ⟨Bb, 0, none⟩ = false ∧ Run B Bb Lb Pb Ib wd g.fn v' lg ((l ++ [44]) ++ nl (min next 16 * wd)) k X n cap (w'.setCell ⟨Bb, 0, none⟩ v') ∧ GS g B sv2 (kk + 1) SL (w'.setCell ⟨Bb, 0, none⟩ v') ∧ StX g [5, 37] w (w'.setCell ⟨Bb, 0, none⟩ v')) (fun e w' hh => by
        obtain ⟨v', rfl, ho, hs⟩ := hh
        obtain ⟨x, m, q, e1, e2, e3, r, s⟩ := ra.nl hs.ofDrew ho
        exact ⟨v', rfl, x, m, q, e1, e2, e3, r, Ga.stp s (by decide), Xa.trans (StX.ofStp s hW0 (fun _ h => h))⟩)
      have HN := hid hnl2
      clear hnl hnl2 H3 ra Ga Xa oa Sa sa
      go_wp2_with (at_builtin; refine wpList_append_run (by rfl) _ _ 22 22 (by rfl) v _ _ wa (by rfl) (by rfl) hra ?_)
      go_region_law (refine step_call (by rfl) 22 _ (by first | kernel_rfl | simp [go_sem]) HN.out ?_; rintro v9 w9 ⟨x9, m9, q9, rfl, c9, f9, r9, G9, S9⟩)
      all_goals
        go_wp2
        refine bodyPost_ret (results_none rfl _ _ _) rfl ⟨rfl, .slice x9 m9 q9, sv2, ?_, G9, S9⟩
        rw [HT.out]
        simpa [blankT] using r9
  · by_cases he0 : e' = 0
    · subst he0
      have hs0 : ¬ (s' : Int) = 0 := by omega
      cases bare with
      | true =>
        cases last with
        | true =>
          as_aux_lemma =>
            have hin := inline_any Bb (0 : Nat) ((w2.alloc (.cells #[.int .i64 0, .int .i64 0, .int .i64 0, .int .i64 (0 : Nat)] 56)).alloc (.cells #[.int .i64 0, .int .i64 0, .int .i64 0, .int .i64 s'] 56))
            have HIN := hid hin
            clear hin
            go_wp2_with fail
            refine HIN.out.mono ?_
            rintro e w4 ⟨rfl, B4⟩
            obtain ⟨h3, G3, bQ3, X3, x1, x2⟩ := H3.out
            have S4 : Stp B [5, 37] ((w2.alloc (.cells #[.int .i64 0, .int .i64 0, .int .i64 0, .int .i64 (0 : Nat)] 56)).alloc (.cells #[.int .i64 0, .int .i64 0, .int .i64 0, .int .i64 s'] 56)) w4 := Stp.ofBelow B4 h3.buf.lt
            have h4 := h3.below B4
            have G4 := G3.stp S4 (by decide)
            have bQ4 := S4.fr _ _ _ (by decide) bQ3
            have X4 := X3.trans (StX.ofStp S4 hW0 (fun _ h => h))
            have x14 := S4.fr _ _ _ (by decide) x1
            have x24 := S4.fr _ _ _ (by decide) x2
            have q44 : w4.cell? ⟨Q, 4, none⟩ = some (.bool true) := by simp [World.cell?, bQ4]
            generalize hR : w2.heap.size = R at *
            clear h3 G3 bQ3 X3 x1 x2 S4 B4 H3 HIN
            have y1 := x14
            have y2 := x24
            have z0 : w4.cell? ⟨R, 0, none⟩ = some (.int .i64 0) := by simp [World.cell?, y1]
            have z1 : w4.cell? ⟨R, 1, none⟩ = some (.int .i64 0) := by simp [World.cell?, y1]
            have z2 : w4.cell? ⟨R, 2, none⟩ = some (.int .i64 0) := by simp [World.cell?, y1]
            have z3 : w4.cell? ⟨R, 3, none⟩ = some (.int .i64 0) := by simp [World.cell?, y1]
            have u0 : w4.cell? ⟨R + 1, 0, none⟩ = some (.int .i64 0) := by simp [World.cell?, y2]
            have u1 : w4.cell? ⟨R + 1, 1, none⟩ = some (.int .i64 0) := by simp [World.cell?, y2]
            have u2 : w4.cell? ⟨R + 1, 2, none⟩ = some (.int .i64 0) := by simp [World.cell?, y2]
            have u3 : w4.cell? ⟨R + 1, 3, none⟩ = some (.int .i64 s') := by simp [World.cell?, y2]
            have hlg := lineGap_any B Bb Lb Pb Ib wd g.fn _ lg _ k X n cap (0 : Nat) s' (lv + 1) next true w4 h4 (by first | omega | (simp; omega)) hwd hnx (by omega) le2
            have HLG := hid (And.intro hlg (And.intro G4 X4))
            clear hlg h4 G4 X4 bQ4 x14 x24 y1 y2
            go_wp2_with fail
            refine HLG.out.1.mono ?_
            rintro e w9 ⟨rfl, v9, r9, S9⟩
            have G9 := HLG.out.2.1.stp S9 (by decide)
            have X9 := HLG.out.2.2.trans (StX.ofStp S9 hW0 (fun _ h => h))
            have HF := hid (And.intro r9 (And.intro G9 X9))
            clear r9 G9 X9 S9 HLG
            go_wp2
            refine bodyPost_end (results_none rfl _ _ _) rfl ⟨rfl, v9, sv2, ?_, HF.out.2.1, HF.out.2.2⟩
            rw [HT.out]
            simpa using HF.out.1
        | false =>
          as_aux_lemma =>
            have hin := inline_any Bb (0 : Nat) ((w2.alloc (.cells #[.int .i64 0, .int .i64 0, .int .i64 0, .int .i64 (0 : Nat)] 56)).alloc (.cells #[.int .i64 0, .int .i64 0, .int .i64 0, .int .i64 s'] 56))
            have HIN := hid hin
            clear hin
            go_wp2_with fail
            refine HIN.out.mono ?_
            rintro e w4 ⟨rfl, B4⟩
            obtain ⟨h3, G3, bQ3, X3, x1, x2⟩ := H3.out
            have S4 : Stp B [5, 37] ((w2.alloc (.cells #[.int .i64 0, .int .i64 0, .int .i64 0, .int .i64 (0 : Nat)] 56)).alloc (.cells #[.int .i64 0, .int .i64 0, .int .i64 0, .int .i64 s'] 56)) w4 := Stp.ofBelow B4 h3.buf.lt
            have h4 := h3.below B4
            have G4 := G3.stp S4 (by decide)
            have bQ4 := S4.fr _ _ _ (by decide) bQ3
            have X4 := X3.trans (StX.ofStp S4 hW0 (fun _ h => h))
            have x14 := S4.fr _ _ _ (by decide) x1
            have x24 := S4.fr _ _ _ (by decide) x2
            have q44 : w4.cell? ⟨Q, 4, none⟩ = some (.bool true) := by simp [World.cell?, bQ4]
            generalize hR : w2.heap.size = R at *
            clear h3 G3 bQ3 X3 x1 x2 S4 B4 H3 HIN
            have y1 := x14
            have y2 := x24
            have z0 : w4.cell? ⟨R, 0, none⟩ = some (.int .i64 0) := by simp [World.cell?, y1]
            have z1 : w4.cell? ⟨R, 1, none⟩ = some (.int .i64 0) := by simp [World.cell?, y1]
            have z2 : w4.cell? ⟨R, 2, none⟩ = some (.int .i64 0) := by simp [World.cell?, y1]
            have z3 : w4.cell? ⟨R, 3, none⟩ = some (.int .i64 0) := by simp [World.cell?, y1]
            have u0 : w4.cell? ⟨R + 1, 0, none⟩ = some (.int .i64 0) := by simp [World.cell?, y2]
            have u1 : w4.cell? ⟨R + 1, 1, none⟩ = some (.int .i64 0) := by simp [World.cell?, y2]
            have u2 : w4.cell? ⟨R + 1, 2, none⟩ = some (.int .i64 0) := by simp [World.cell?, y2]
            have u3 : w4.cell? ⟨R + 1, 3, none⟩ = some (.int .i64 s') := by simp [World.cell?, y2]
            have hlg := lineGap_any B Bb Lb Pb Ib wd g.fn _ lg _ k X n cap (0 : Nat) s' (lv + 1) next false w4 h4 (by first | omega | (simp; omega)) hwd hnx (by omega) le2
            have HLG := hid (And.intro hlg (And.intro G4 X4))
            clear hlg h4 G4 X4 bQ4 x14 x24 y1 y2
            go_wp2_with fail
            refine HLG.out.1.mono ?_
            rintro e w9 ⟨rfl, v9, r9, S9⟩
            have G9 := HLG.out.2.1.stp S9 (by decide)
            have X9 := HLG.out.2.2.trans (StX.ofStp S9 hW0 (fun _ h => h))
            have HF := hid (And.intro r9 (And.intro G9 X9))
            clear r9 G9 X9 S9 HLG
            go_wp2
            refine bodyPost_end (results_none rfl _ _ _) rfl ⟨rfl, v9, sv2, ?_, HF.out.2.1, HF.out.2.2⟩
            rw [HT.out]
            simpa using HF.out.1
      | false =>
        cases last with
        | true =>
          as_aux_lemma =>
            have hin := inline_any Bb (0 : Nat) ((w2.alloc (.cells #[.int .i64 0, .int .i64 0, .int .i64 0, .int .i64 (0 : Nat)] 56)).alloc (.cells #[.int .i64 0, .int .i64 0, .int .i64 0, .int .i64 s'] 56))
            have HIN := hid hin
            clear hin
            go_wp2_with fail
            refine HIN.out.mono ?_
            rintro e w4 ⟨rfl, B4⟩
            obtain ⟨h3, G3, bQ3, X3, x1, x2⟩ := H3.out
            have S4 : Stp B [5, 37] ((w2.alloc (.cells #[.int .i64 0, .int .i64 0, .int .i64 0, .int .i64 (0 : Nat)] 56)).alloc (.cells #[.int .i64 0, .int .i64 0, .int .i64 0, .int .i64 s'] 56)) w4 := Stp.ofBelow B4 h3.buf.lt
            have h4 := h3.below B4
            have G4 := G3.stp S4 (by decide)
            have bQ4 := S4.fr _ _ _ (by decide) bQ3
            have X4 := X3.trans (StX.ofStp S4 hW0 (fun _ h => h))
            have x14 := S4.fr _ _ _ (by decide) x1
            have x24 := S4.fr _ _ _ (by decide) x2
            have q44 : w4.cell? ⟨Q, 4, none⟩ = some (.bool false) := by simp [World.cell?, bQ4]
            generalize hR : w2.heap.size = R at *
            clear h3 G3 bQ3 X3 x1 x2 S4 B4 H3 HIN
            have c4 := h4.buf.c0
            obtain ⟨va, wa, hra, oa, Sa⟩ := app1 B v l 44 44 rfl w4 h4.buf.lt h4.buf.own (by omega)
            obtain ⟨xa, ma, qa, rfl, ca, fa, ra, sa⟩ := h4.nl Sa oa
            have Ga := G4.stp sa (by decide)
            have Xa := X4.trans (StX.ofStp sa hW0 (fun _ h => h))
            have y1 := sa.fr _ _ _ (by decide) x14
            have y2 := sa.fr _ _ _ (by decide) x24
            generalize hwb : wa.setCell ⟨Bb, 0, none⟩ (.slice xa ma qa) = wb at *
            have z0 : wb.cell? ⟨R, 0, none⟩ = some (.int .i64 0) := by simp [World.cell?, y1]
            have z1 : wb.cell? ⟨R, 1, none⟩ = some (.int .i64 0) := by simp [World.cell?, y1]
            have z2 : wb.cell? ⟨R, 2, none⟩ = some (.int .i64 0) := by simp [World.cell?, y1]
            have z3 : wb.cell? ⟨R, 3, none⟩ = some (.int .i64 0) := by simp [World.cell?, y1]
            have u0 : wb.cell? ⟨R + 1, 0, none⟩ = some (.int .i64 0) := by simp [World.cell?, y2]
            have u1 : wb.cell? ⟨R + 1, 1, none⟩ = some (.int .i64 0) := by simp [World.cell?, y2]
            have u2 : wb.cell? ⟨R + 1, 2, none⟩ = some (.int .i64 0) := by simp [World.cell?, y2]
            have u3 : wb.cell? ⟨R + 1, 3, none⟩ = some (.int .i64 s') := by simp [World.cell?, y2]
            have hlg := lineGap_any B Bb Lb Pb Ib wd g.fn _ lg _ k X n cap (0 : Nat) s' (lv + 1) next true wb ra (by first | omega | (simp; omega)) hwd hnx (by omega) le2
            have HLG := hid (And.intro hlg (And.intro Ga Xa))
            clear hlg h4 G4 X4 bQ4 x14 x24 y1 y2 ra Ga Xa oa Sa sa
            go_wp2_with (at_builtin; refine wpList_append_run (by rfl) _ _ 22 22 (by rfl) v _ _ wa (by rfl) (by rfl) hra ?_)
            refine HLG.out.1.mono ?_
            rintro e w9 ⟨rfl, v9, r9, S9⟩
            have G9 := HLG.out.2.1.stp S9 (by decide)
            have X9 := HLG.out.2.2.trans (StX.ofStp S9 hW0 (fun _ h => h))
            have HF := hid (And.intro r9 (And.intro G9 X9))
            clear r9 G9 X9 S9 HLG
            go_wp2
            refine bodyPost_end (results_none rfl _ _ _) rfl ⟨rfl, v9, sv2, ?_, HF.out.2.1, HF.out.2.2⟩
            rw [HT.out]
            simpa using HF.out.1
        | false =>
          as_aux_lemma =>
            have hin := inline_any Bb (0 : Nat) ((w2.alloc (.cells #[.int .i64 0, .int .i64 0, .int .i64 0, .int .i64 (0 : Nat)] 56)).alloc (.cells #[.int .i64 0, .int .i64 0, .int .i64 0, .int .i64 s'] 56))
            have HIN := hid hin
            clear hin
            go_wp2_with fail
            refine HIN.out.mono ?_
            rintro e w4 ⟨rfl, B4⟩
            obtain ⟨h3, G3, bQ3, X3, x1, x2⟩ := H3.out
            have S4 : Stp B [5, 37] ((w2.alloc (.cells #[.int .i64 0, .int .i64 0, .int .i64 0, .int .i64 (0 : Nat)] 56)).alloc (.cells #[.int .i64 0, .int .i64 0, .int .i64 0, .int .i64 s'] 56)) w4 := Stp.ofBelow B4 h3.buf.lt
            have h4 := h3.below B4
            have G4 := G3.stp S4 (by decide)
            have bQ4 := S4.fr _ _ _ (by decide) bQ3
            have X4 := X3.trans (StX.ofStp S4 hW0 (fun _ h => h))
            have x14 := S4.fr _ _ _ (by decide) x1
            have x24 := S4.fr _ _ _ (by decide) x2
            have q44 : w4.cell? ⟨Q, 4, none⟩ = some (.bool false) := by simp [World.cell?, bQ4]
            generalize hR : w2.heap.size = R at *
            clear h3 G3 bQ3 X3 x1 x2 S4 B4 H3 HIN
            have c4 := h4.buf.c0
            obtain ⟨va, wa, hra, oa, Sa⟩ := app1 B v l 44 44 rfl w4 h4.buf.lt h4.buf.own (by omega)
            obtain ⟨xa, ma, qa, rfl, ca, fa, ra, sa⟩ := h4.nl Sa oa
            have Ga := G4.stp sa (by decide)
            have Xa := X4.trans (StX.ofStp sa hW0 (fun _ h => h))
            have y1 := sa.fr _ _ _ (by decide) x14
            have y2 := sa.fr _ _ _ (by decide) x24
            generalize hwb : wa.setCell ⟨Bb, 0, none⟩ (.slice xa ma qa) = wb at *
            have z0 : wb.cell? ⟨R, 0, none⟩ = some (.int .i64 0) := by simp [World.cell?, y1]
            have z1 : wb.cell? ⟨R, 1, none⟩ = some (.int .i64 0) := by simp [World.cell?, y1]
            have z2 : wb.cell? ⟨R, 2, none⟩ = some (.int .i64 0) := by simp [World.cell?, y1]
            have z3 : wb.cell? ⟨R, 3, none⟩ = some (.int .i64 0) := by simp [World.cell?, y1]
            have u0 : wb.cell? ⟨R + 1, 0, none⟩ = some (.int .i64 0) := by simp [World.cell?, y2]
            have u1 : wb.cell? ⟨R + 1, 1, none⟩ = some (.int .i64 0) := by simp [World.cell?, y2]
            have u2 : wb.cell? ⟨R + 1, 2, none⟩ = some (.int .i64 0) := by simp [World.cell?, y2]
            have u3 : wb.cell? ⟨R + 1, 3, none⟩ = some (.int .i64 s') := by simp [World.cell?, y2]
            have hlg := lineGap_any B Bb Lb Pb Ib wd g.fn _ lg _ k X n cap (0 : Nat) s' (lv + 1) next false wb ra (by first | omega | (simp; omega)) hwd hnx (by omega) le2
            have HLG := hid (And.intro hlg (And.intro Ga Xa))
            clear hlg h4 G4 X4 bQ4 x14 x24 y1 y2 ra Ga Xa oa Sa sa
            go_wp2_with (at_builtin; refine wpList_append_run (by rfl) _ _ 22 22 (by rfl) v _ _ wa (by rfl) (by rfl) hra ?_)
            refine HLG.out.1.mono ?_
            rintro e w9 ⟨rfl, v9, r9, S9⟩
            have G9 := HLG.out.2.1.stp S9 (by decide)
            have X9 := HLG.out.2.2.trans (StX.ofStp S9 hW0 (fun _ h => h))
            have HF := hid (And.intro r9 (And.intro G9 X9))
            clear r9 G9 X9 S9 HLG
            go_wp2
            refine bodyPost_end (results_none rfl _ _ _) rfl ⟨rfl, v9, sv2, ?_, HF.out.2.1, HF.out.2.2⟩
            rw [HT.out]
            simpa using HF.out.1
    · have he1 : ¬ (e' : Int) = 0 := by omega
      cases bare with
      | true =>
        cases last with
        | true =>
          as_aux_lemma =>
            have hin := inline_any Bb e' ((w2.alloc (.cells #[.int .i64 0, .int .i64 0, .int .i64 0, .int .i64 e'] 56)).alloc (.cells #[.int .i64 0, .int .i64 0, .int .i64 0, .int .i64 s'] 56))
            have HIN := hid hin
            clear hin
            go_wp2_with fail
            refine HIN.out.mono ?_
            rintro e w4 ⟨rfl, B4⟩
            obtain ⟨h3, G3, bQ3, X3, x1, x2⟩ := H3.out
            have S4 : Stp B [5, 37] ((w2.alloc (.cells #[.int .i64 0, .int .i64 0, .int .i64 0, .int .i64 e'] 56)).alloc (.cells #[.int .i64 0, .int .i64 0, .int .i64 0, .int .i64 s'] 56)) w4 := Stp.ofBelow B4 h3.buf.lt
            have h4 := h3.below B4
            have G4 := G3.stp S4 (by decide)
            have bQ4 := S4.fr _ _ _ (by decide) bQ3
            have X4 := X3.trans (StX.ofStp S4 hW0 (fun _ h => h))
            have x14 := S4.fr _ _ _ (by decide) x1
            have x24 := S4.fr _ _ _ (by decide) x2
            have q44 : w4.cell? ⟨Q, 4, none⟩ = some (.bool true) := by simp [World.cell?, bQ4]
            generalize hR : w2.heap.size = R at *
            clear h3 G3 bQ3 X3 x1 x2 S4 B4 H3 HIN
            have y1 := x14
            have y2 := x24
            have z0 : w4.cell? ⟨R, 0, none⟩ = some (.int .i64 0) := by simp [World.cell?, y1]
            have z1 : w4.cell? ⟨R, 1, none⟩ = some (.int .i64 0) := by simp [World.cell?, y1]
            have z2 : w4.cell? ⟨R, 2, none⟩ = some (.int .i64 0) := by simp [World.cell?, y1]
            have z3 : w4.cell? ⟨R, 3, none⟩ = some (.int .i64 e') := by simp [World.cell?, y1]
            have u0 : w4.cell? ⟨R + 1, 0, none⟩ = some (.int .i64 0) := by simp [World.cell?, y2]
            have u1 : w4.cell? ⟨R + 1, 1, none⟩ = some (.int .i64 0) := by simp [World.cell?, y2]
            have u2 : w4.cell? ⟨R + 1, 2, none⟩ = some (.int .i64 0) := by simp [World.cell?, y2]
            have u3 : w4.cell? ⟨R + 1, 3, none⟩ = some (.int .i64 s') := by simp [World.cell?, y2]
            have hlg := lineGap_any B Bb Lb Pb Ib wd g.fn _ lg _ k X n cap e' s' (lv + 1) next true w4 h4 (by first | omega | (simp; omega)) hwd hnx (by omega) le2
            have HLG := hid (And.intro hlg (And.intro G4 X4))
            clear hlg h4 G4 X4 bQ4 x14 x24 y1 y2
            go_wp2_with fail
            refine HLG.out.1.mono ?_
            rintro e w9 ⟨rfl, v9, r9, S9⟩
            have G9 := HLG.out.2.1.stp S9 (by decide)
            have X9 := HLG.out.2.2.trans (StX.ofStp S9 hW0 (fun _ h => h))
            have HF := hid (And.intro r9 (And.intro G9 X9))
            clear r9 G9 X9 S9 HLG
            go_wp2
            refine bodyPost_end (results_none rfl _ _ _) rfl ⟨rfl, v9, sv2, ?_, HF.out.2.1, HF.out.2.2⟩
            rw [HT.out]
            simpa using HF.out.1
        | false =>
          as_aux_lemma =>
            have hin := inline_any Bb e' ((w2.alloc (.cells #[.int .i64 0, .int .i64 0, .int .i64 0, .int .i64 e'] 56)).alloc (.cells #[.int .i64 0, .int .i64 0, .int .i64 0, .int .i64 s'] 56))
            have HIN := hid hin
            clear hin
            go_wp2_with fail
            refine HIN.out.mono ?_
            rintro e w4 ⟨rfl, B4⟩
            obtain ⟨h3, G3, bQ3, X3, x1, x2⟩ := H3.out
            have S4 : Stp B [5, 37] ((w2.alloc (.cells #[.int .i64 0, .int .i64 0, .int .i64 0, .int .i64 e'] 56)).alloc (.cells #[.int .i64 0, .int .i64 0, .int .i64 0, .int .i64 s'] 56)) w4 := Stp.ofBelow B4 h3.buf.lt
            have h4 := h3.below B4
            have G4 := G3.stp S4 (by decide)
            have bQ4 := S4.fr _ _ _ (by decide) bQ3
            have X4 := X3.trans (StX.ofStp S4 hW0 (fun _ h => h))
            have x14 := S4.fr _ _ _ (by decide) x1
            have x24 := S4.fr _ _ _ (by decide) x2
            have q44 : w4.cell? ⟨Q, 4, none⟩ = some (.bool true) := by simp [World.cell?, bQ4]
            generalize hR : w2.heap.size = R at *
            clear h3 G3 bQ3 X3 x1 x2 S4 B4 H3 HIN
            have y1 := x14
            have y2 := x24
            have z0 : w4.cell? ⟨R, 0, none⟩ = some (.int .i64 0) := by simp [World.cell?, y1]
            have z1 : w4.cell? ⟨R, 1, none⟩ = some (.int .i64 0) := by simp [World.cell?, y1]
            have z2 : w4.cell? ⟨R, 2, none⟩ = some (.int .i64 0) := by simp [World.cell?, y1]
            have z3 : w4.cell? ⟨R, 3, none⟩ = some (.int .i64 e') := by simp [World.cell?, y1]
            have u0 : w4.cell? ⟨R + 1, 0, none⟩ = some (.int .i64 0) := by simp [World.cell?, y2]
            have u1 : w4.cell? ⟨R + 1, 1, none⟩ = some (.int .i64 0) := by simp [World.cell?, y2]
            have u2 : w4.cell? ⟨R + 1, 2, none⟩ = some (.int .i64 0) := by simp [World.cell?, y2]
            have u3 : w4.cell? ⟨R + 1, 3, none⟩ = some (.int .i64 s') := by simp [World.cell?, y2]
            have hlg := lineGap_any B Bb Lb Pb Ib wd g.fn _ lg _ k X n cap e' s' (lv + 1) next false w4 h4 (by first | omega | (simp; omega)) hwd hnx (by omega) le2
            have HLG := hid (And.intro hlg (And.intro G4 X4))
            clear hlg h4 G4 X4 bQ4 x14 x24 y1 y2
            go_wp2_with fail
            refine HLG.out.1.mono ?_
            rintro e w9 ⟨rfl, v9, r9, S9⟩
            have G9 := HLG.out.2.1.stp S9 (by decide)
            have X9 := HLG.out.2.2.trans (StX.ofStp S9 hW0 (fun _ h => h))
            have HF := hid (And.intro r9 (And.intro G9 X9))
            clear r9 G9 X9 S9 HLG
            go_wp2
            refine bodyPost_end (results_none rfl _ _ _) rfl ⟨rfl, v9, sv2, ?_, HF.out.2.1, HF.out.2.2⟩
            rw [HT.out]
            simpa using HF.out.1
      | false =>
        cases last with
        | true =>
          as_aux_lemma =>
            have hin := inline_any Bb e' ((w2.alloc (.cells #[.int .i64 0, .int .i64 0, .int .i64 0, .int .i64 e'] 56)).alloc (.cells #[.int .i64 0, .int .i64 0, .int .i64 0, .int .i64 s'] 56))
            have HIN := hid hin
            clear hin
            go_wp2_with fail
            refine HIN.out.mono ?_
            rintro e w4 ⟨rfl, B4⟩
            obtain ⟨h3, G3, bQ3, X3, x1, x2⟩ := H3.out
            have S4 : Stp B [5, 37] ((w2.alloc (.cells #[.int .i64 0, .int .i64 0, .int .i64 0, .int .i64 e'] 56)).alloc (.cells #[.int .i64 0, .int .i64 0, .int .i64 0, .int .i64 s'] 56)) w4 := Stp.ofBelow B4 h3.buf.lt
            have h4 := h3.below B4
            have G4 := G3.stp S4 (by decide)
            have bQ4 := S4.fr _ _ _ (by decide) bQ3
            have X4 := X3.trans (StX.ofStp S4 hW0 (fun _ h => h))
            have x14 := S4.fr _ _ _ (by decide) x1
            have x24 := S4.fr _ _ _ (by decide) x2
            have q44 : w4.cell? ⟨Q, 4, none⟩ = some (.bool false) := by simp [World.cell?, bQ4]
            generalize hR : w2.heap.size = R at *
            clear h3 G3 bQ3 X3 x1 x2 S4 B4 H3 HIN
            have c4 := h4.buf.c0
            obtain ⟨va, wa, hra, oa, Sa⟩ := app1 B v l 44 44 rfl w4 h4.buf.lt h4.buf.own (by omega)
            obtain ⟨xa, ma, qa, rfl, ca, fa, ra, sa⟩ := h4.nl Sa oa
            have Ga := G4.stp sa (by decide)
            have Xa := X4.trans (StX.ofStp sa hW0 (fun _ h => h))
            have y1 := sa.fr _ _ _ (by decide) x14
            have y2 := sa.fr _ _ _ (by decide) x24
            generalize hwb : wa.setCell ⟨Bb, 0, none⟩ (.slice xa ma qa) = wb at *
            have z0 : wb.cell? ⟨R, 0, none⟩ = some (.int .i64 0) := by simp [World.cell?, y1]
            have z1 : wb.cell? ⟨R, 1, none⟩ = some (.int .i64 0) := by simp [World.cell?, y1]
            have z2 : wb.cell? ⟨R, 2, none⟩ = some (.int .i64 0) := by simp [World.cell?, y1]
            have z3 : wb.cell? ⟨R, 3, none⟩ = some (.int .i64 e') := by simp [World.cell?, y1]
            have u0 : wb.cell? ⟨R + 1, 0, none⟩ = some (.int .i64 0) := by simp [World.cell?, y2]
            have u1 : wb.cell? ⟨R + 1, 1, none⟩ = some (.int .i64 0) := by simp [World.cell?, y2]
            have u2 : wb.cell? ⟨R + 1, 2, none⟩ = some (.int .i64 0) := by simp [World.cell?, y2]
            have u3 : wb.cell? ⟨R + 1, 3, none⟩ = some (.int .i64 s') := by simp [World.cell?, y2]
            have hlg := lineGap_any B Bb Lb Pb Ib wd g.fn _ lg _ k X n cap e' s' (lv + 1) next true wb ra (by first | omega | (simp; omega)) hwd hnx (by omega) le2
            have HLG := hid (And.intro hlg (And.intro Ga Xa))
            clear hlg h4 G4 X4 bQ4 x14 x24 y1 y2 ra Ga Xa oa Sa sa
            go_wp2_with (at_builtin; refine wpList_append_run (by rfl) _ _ 22 22 (by rfl) v _ _ wa (by rfl) (by rfl) hra ?_)
            refine HLG.out.1.mono ?_
            rintro e w9 ⟨rfl, v9, r9, S9⟩
            have G9 := HLG.out.2.1.stp S9 (by decide)
            have X9 := HLG.out.2.2.trans (StX.ofStp S9 hW0 (fun _ h => h))
            have HF := hid (And.intro r9 (And.intro G9 X9))
            clear r9 G9 X9 S9 HLG
            go_wp2
            refine bodyPost_end (results_none rfl _ _ _) rfl ⟨rfl, v9, sv2, ?_, HF.out.2.1, HF.out.2.2⟩
            rw [HT.out]
            simpa using HF.out.1
        | false =>
          as_aux_lemma =>
            have hin := inline_any Bb e' ((w2.alloc (.cells #[.int .i64 0, .int .i64 0, .int .i64 0, .int .i64 e'] 56)).alloc (.cells #[.int .i64 0, .int .i64 0, .int .i64 0, .int .i64 s'] 56))
            have HIN := hid hin
            clear hin
            go_wp2_with fail
            refine HIN.out.mono ?_
            rintro e w4 ⟨rfl, B4⟩
            obtain ⟨h3, G3, bQ3, X3, x1, x2⟩ := H3.out
            have S4 : Stp B [5, 37] ((w2.alloc (.cells #[.int .i64 0, .int .i64 0, .int .i64 0, .int .i64 e'] 56)).alloc (.cells #[.int .i64 0, .int .i64 0, .int .i64 0, .int .i64 s'] 56)) w4 := Stp.ofBelow B4 h3.buf.lt
            have h4 := h3.below B4
            have G4 := G3.stp S4 (by decide)
            have bQ4 := S4.fr _ _ _ (by decide) bQ3
            have X4 := X3.trans (StX.ofStp S4 hW0 (fun _ h => h))
            have x14 := S4.fr _ _ _ (by decide) x1
            have x24 := S4.fr _ _ _ (by decide) x2
            have q44 : w4.cell? ⟨Q, 4, none⟩ = some (.bool false) := by simp [World.cell?, bQ4]
            generalize hR : w2.heap.size = R at *
            clear h3 G3 bQ3 X3 x1 x2 S4 B4 H3 HIN
            have c4 := h4.buf.c0
            obtain ⟨va, wa, hra, oa, Sa⟩ := app1 B v l 44 44 rfl w4 h4.buf.lt h4.buf.own (by omega)
            obtain ⟨xa, ma, qa, rfl, ca, fa, ra, sa⟩ := h4.nl Sa oa
            have Ga := G4.stp sa (by decide)
            have Xa := X4.trans (StX.ofStp sa hW0 (fun _ h => h))
            have y1 := sa.fr _ _ _ (by decide) x14
            have y2 := sa.fr _ _ _ (by decide) x24
            generalize hwb : wa.setCell ⟨Bb, 0, none⟩ (.slice xa ma qa) = wb at *
            have z0 : wb.cell? ⟨R, 0, none⟩ = some (.int .i64 0) := by simp [World.cell?, y1]
            have z1 : wb.cell? ⟨R, 1, none⟩ = some (.int .i64 0) := by simp [World.cell?, y1]
            have z2 : wb.cell? ⟨R, 2, none⟩ = some (.int .i64 0) := by simp [World.cell?, y1]
            have z3 : wb.cell? ⟨R, 3, none⟩ = some (.int .i64 e') := by simp [World.cell?, y1]
            have u0 : wb.cell? ⟨R + 1, 0, none⟩ = some (.int .i64 0) := by simp [World.cell?, y2]
            have u1 : wb.cell? ⟨R + 1, 1, none⟩ = some (.int .i64 0) := by simp [World.cell?, y2]
            have u2 : wb.cell? ⟨R + 1, 2, none⟩ = some (.int .i64 0) := by simp [World.cell?, y2]
            have u3 : wb.cell? ⟨R + 1, 3, none⟩ = some (.int .i64 s') := by simp [World.cell?, y2]
            have hlg := lineGap_any B Bb Lb Pb Ib wd g.fn _ lg _ k X n cap e' s' (lv + 1) next false wb ra (by first | omega | (simp; omega)) hwd hnx (by omega) le2
            have HLG := hid (And.intro hlg (And.intro Ga Xa))
            clear hlg h4 G4 X4 bQ4 x14 x24 y1 y2 ra Ga Xa oa Sa sa
            go_wp2_with (at_builtin; refine wpList_append_run (by rfl) _ _ 22 22 (by rfl) v _ _ wa (by rfl) (by rfl) hra ?_)
            refine HLG.out.1.mono ?_
            rintro e w9 ⟨rfl, v9, r9, S9⟩
            have G9 := HLG.out.2.1.stp S9 (by decide)
            have X9 := HLG.out.2.2.trans (StX.ofStp S9 hW0 (fun _ h => h))
            have HF := hid (And.intro r9 (And.intro G9 X9))
            clear r9 G9 X9 S9 HLG
            go_wp2
            refine bodyPost_end (results_none rfl _ _ _) rfl ⟨rfl, v9, sv2, ?_, HF.out.2.1, HF.out.2.2⟩
            rw [HT.out]
            simpa using HF.out.1
end Go.Proofs.Ybulkbwqo
