/- DERIVED. The walk of LawS3654AGaps. -/
import Derived.Test.YbulkbwqoAa
import Derived.Test.YbulkbwqoSm
import Derived.Laws.EntriesVeiled
namespace Go.Proofs.Ybulkbwqo
open Go.RowKit

theorem seamT_u8 : ∀ (i j : Nat), j < (seamT i).length → ∃ a : Nat, (seamT i)[j]? = some (.int .u8 a)
  | 0, j, h => by
    have : j = 0 := by simp [seamT] at h; exact h
    subst this
    exact ⟨_, rfl⟩
  | i + 1, j, h => by
    by_cases hj : j < (seamT i).length
    · obtain ⟨a, ha⟩ := seamT_u8 i j hj
      exact ⟨a, by rw [seamT, List.getElem?_append_left hj]; exact ha⟩
    · rw [seamT, List.length_append] at h
      simp only [List.length_cons, List.length_nil] at h
      rw [seamT, List.getElem?_append_right (by omega)]
      have : j - (seamT i).length = 0 ∨ j - (seamT i).length = 1 := by omega
      rcases this with e | e <;> rw [e]
      · exact ⟨1, rfl⟩
      · exact ⟨2, rfl⟩
theorem seamsOf_u8 (lv N : Nat) (lines : Bool) (j : Nat) (h : j < (seamsOf lv N lines).length) : ∃ a : Nat, (seamsOf lv N lines)[j]? = some (.int .u8 a) := by
  unfold seamsOf at h ⊢
  split at h
  · rename_i hc; rw [if_pos hc]; exact seamT_u8 N j h
  · simp at h
theorem seamsOf_len (lv N : Nat) (lines : Bool) : (seamsOf lv N lines).length ≤ 1 + 2 * N := by
  unfold seamsOf
  split
  · rw [seamT_len]; exact Nat.le_refl _
  · simp
theorem Bytes.lt0 {X : Option Addr} {l : List UInt8} {w : World} (h : Bytes X l w) : ∀ j, j < l.length → ∀ b off, X = some ⟨b, off, none⟩ → b < w.heap.size := fun j hj b off e => by
  obtain ⟨b', off', e', hl, _⟩ := h j hj
  rw [e] at e'
  injection e' with e'
  injection e' with e'
  omega

set_option maxRecDepth 100000 in
set_option maxHeartbeats 40000000 in
theorem gaps_law (Y : Option Addr) (l0 : List UInt8) (c0 : Nat) (op cl : UInt8) (lv wd0 : Nat) (lines bare : Bool) (X : Option Addr) (n cap : Nat) (S : Nat → ByteArray) (nn ob : Nat) (X1 : Option Addr) (eb : List UInt8) (c1 : Nat) (X2 : Option Addr) (sb : List UInt8) (c2 : Nat) (w : World)
    (hY : Y = none → l0.length = 0 ∧ c0 = 0) (hp : Bytes Y l0 w) (hI : Items X n S w) (hlv : lv ≤ 255) (hwd0 : wd0 ≤ 255) (hnn : nn ≤ 65535) (hob : ob ≤ 255) (he : Bytes X1 eb w) (hs : Bytes X2 sb w) :
    Calls Yba.prog 5 #[.slice Y l0.length c0, .int .u8 op.toNat, .int .u8 cl.toNat, .int .u8 lv, .int .u8 wd0, .bool lines, .bool bare, .slice X n cap, .int .u16 nn, .int .u8 ob, .slice X1 eb.length c1, .slice X2 sb.length c2] w fun e w' => e = .returned (.bool true) ∧ Below w.heap.size w w' := by
  have b1 : (w.alloc (.cells #[.int .u8 ob] 5)).heap[w.heap.size]? = some (.cells #[.int .u8 ob] 5) := heap_alloc_new w _
  have B1 : Below w.heap.size w (w.alloc (.cells #[.int .u8 ob] 5)) := (Below.refl _ _).alloc (Nat.le_refl _) _
  generalize hw1 : w.alloc (.cells #[.int .u8 ob] 5) = w1 at *
  have b2 : (w1.alloc (.cells #[.slice X1 eb.length c1] 22)).heap[w1.heap.size]? = some (.cells #[.slice X1 eb.length c1] 22) := heap_alloc_new w1 _
  have B2 : Below w1.heap.size w1 (w1.alloc (.cells #[.slice X1 eb.length c1] 22)) := (Below.refl _ _).alloc (Nat.le_refl _) _
  generalize hw2 : w1.alloc (.cells #[.slice X1 eb.length c1] 22) = w2 at *
  have b3 : (w2.alloc (.cells #[.slice X2 sb.length c2] 22)).heap[w2.heap.size]? = some (.cells #[.slice X2 sb.length c2] 22) := heap_alloc_new w2 _
  have B3 : Below w2.heap.size w2 (w2.alloc (.cells #[.slice X2 sb.length c2] 22)) := (Below.refl _ _).alloc (Nat.le_refl _) _
  generalize hw3 : w2.alloc (.cells #[.slice X2 sb.length c2] 22) = w3 at *
  have B13 : Below w1.heap.size w1 w3 := B2.trans (B3.mono B2.size)
  have B03 : Below w.heap.size w w3 := B1.trans (B13.mono B1.size)
  have s1 := B1.size
  have s2 := B2.size
  have s3 := B3.size
  have d1 := (B13.block _ (lt_of_some b1)).trans b1
  have d2 := (B3.block _ (lt_of_some b2)).trans b2
  have e1c : w3.cell? ⟨w1.heap.size, 0, none⟩ = some (.slice X1 eb.length c1) := by simp [World.cell?, d2]
  have e2c : w3.cell? ⟨w2.heap.size, 0, none⟩ = some (.slice X2 sb.length c2) := by simp [World.cell?, b3]
  have k4 : (((w3.alloc (.cells #[.int .i64 0] 3)).alloc (.cells #[] 50)).alloc (.cells #[.slice (some ⟨w3.heap.size + 1, 0, none⟩) 0 0] 42)).heap[w3.heap.size]? = some (.cells #[.int .i64 0] 3) := by
    rw [hp_alloc_lt (by simp; omega), hp_alloc_lt (by simp)]; exact heap_alloc_new w3 _
  have k5 : (((w3.alloc (.cells #[.int .i64 0] 3)).alloc (.cells #[] 50)).alloc (.cells #[.slice (some ⟨w3.heap.size + 1, 0, none⟩) 0 0] 42)).heap[w3.heap.size + 1]? = some (.cells #[] 50) := by
    rw [hp_alloc_lt (by simp)]
    have e : w3.heap.size + 1 = (w3.alloc (.cells #[.int .i64 0] 3)).heap.size := by simp
    rw [e]; exact heap_alloc_new _ _
  have k6 : (((w3.alloc (.cells #[.int .i64 0] 3)).alloc (.cells #[] 50)).alloc (.cells #[.slice (some ⟨w3.heap.size + 1, 0, none⟩) 0 0] 42)).heap[w3.heap.size + 1 + 1]? = some (.cells #[.slice (some ⟨w3.heap.size + 1, 0, none⟩) 0 0] 42) := by
    have e : w3.heap.size + 1 + 1 = ((w3.alloc (.cells #[.int .i64 0] 3)).alloc (.cells #[] 50)).heap.size := by simp
    rw [e]; exact heap_alloc_new _ _
  have B36 : Below w3.heap.size w3 (((w3.alloc (.cells #[.int .i64 0] 3)).alloc (.cells #[] 50)).alloc (.cells #[.slice (some ⟨w3.heap.size + 1, 0, none⟩) 0 0] 42)) := (((Below.refl _ _).alloc (Nat.le_refl _) _).alloc (by simp) _).alloc (by simp; omega) _
  generalize hw6 : ((w3.alloc (.cells #[.int .i64 0] 3)).alloc (.cells #[] 50)).alloc (.cells #[.slice (some ⟨w3.heap.size + 1, 0, none⟩) 0 0] 42) = w6 at *
  have s6 := lt_of_some k6
  have B06 : Below w.heap.size w w6 := B03.trans (B36.mono B03.size)
  obtain ⟨g, hg⟩ : ∃ g : GB, g = ⟨w.heap.size, w1.heap.size, w2.heap.size, w3.heap.size, w3.heap.size + 1 + 1, w.heap.size, ob, X1, eb, c1, X2, sb, c2⟩ := ⟨_, rfl⟩
  have ok : GOk g := by
    subst hg
    exact ⟨⟨by simp only []; omega, by simp only []; omega, Nat.le_refl _, s1, by simp only []; omega⟩, he.lt0, hs.lt0⟩
  have G6 : GS g w6.heap.size (.slice (some ⟨w3.heap.size + 1, 0, none⟩) 0 0) 0 [] w6 := by
    subst hg
    refine ⟨(B36.block _ (lt_of_some d1)).trans d1, (B36.block _ (lt_of_some d2)).trans d2, (B36.block _ (lt_of_some b3)).trans b3, k4, k6,
      ⟨rfl, .inr ⟨w3.heap.size + 1, 0, #[], rfl, by simp only []; omega, k5, Nat.le_refl _, by unfold maxLen; omega, rfl, rfl⟩⟩, he.below B06, hs.below B06, ?_, ?_, ?_, ?_, ?_, fun j hj b off e => Nat.lt_of_lt_of_le (he.lt0 j hj b off e) B06.size, fun j hj b off e => Nat.lt_of_lt_of_le (hs.lt0 j hj b off e) B06.size, B06.size, hob⟩ <;> simp only [] <;> omega
  have hW : g.W0 = w.heap.size := by rw [hg]
  have hbig := big_any X n cap S Y l0.length c0 w3 (hI.below B03)
  have HB := hid (And.intro hbig (And.intro hY (And.intro hp (And.intro hI (And.intro B03 (And.intro B06 (And.intro ok (And.intro G6 (And.intro hW hg)))))))))
  clear hbig hY hp hI B1 B2 B3 B13 B03 b1 b2 b3 s1 s2 s3 d1 d2 k4 k5 k6 B36 s6 B06 ok G6 hW hg he hs
  obtain ⟨N, hN⟩ : ∃ N, nn % 512 = N := ⟨_, rfl⟩
  obtain ⟨wd, hwd⟩ : ∃ wd, wd0 % 5 = wd := ⟨_, rfl⟩
  have e1 : (nn : Int) % 512 = (N : Int) := by omega
  have e1' : (nn : Int).tmod 512 = (N : Int) := by rw [Int.tmod_eq_emod_of_nonneg (by omega)]; exact e1
  have e2 : (wd0 : Int) % 5 = (wd : Int) := by omega
  have e2' : (wd0 : Int).tmod 5 = (wd : Int) := by rw [Int.tmod_eq_emod_of_nonneg (by omega)]; exact e2
  have hNb : N ≤ 511 := by omega
  have hwb : wd ≤ 4 := by omega
  clear hN hwd
  obtain ⟨m1, hm1⟩ : ∃ m : Nat, eb.length = m := ⟨_, rfl⟩
  obtain ⟨m2, hm2⟩ : ∃ m : Nat, sb.length = m := ⟨_, rfl⟩
  have HM0 := hid (And.intro hm1 hm2)
  rw [hm1] at hw2 e1c ⊢
  rw [hm2] at hw3 e2c ⊢
  clear hm1 hm2
  go_enter Yba.func5, Yba.ntmps5
  go_wp2_with fail
  refine HB.out.1.mono ?_
  rintro e wb ⟨he, rfl⟩
  rcases he with rfl | ⟨rfl, hl, hn, hS⟩
  · go_wp2
    go_ret
    exact ⟨rfl, HB.out.2.2.2.2.1⟩
  by_cases t1 : (1024 : Int) < (m1 : Int)
  · go_wp2
    go_ret
    exact ⟨rfl, HB.out.2.2.2.2.1⟩
  by_cases t2 : (1024 : Int) < (m2 : Int)
  · go_wp2
    go_ret
    exact ⟨rfl, HB.out.2.2.2.2.1⟩
  have HL := hid (And.intro hl (And.intro hn hS))
  clear hl hn hS
  obtain ⟨-, hY, hp, hI, B03, B06, ok, G6, hW, hg⟩ := HB.out
  obtain ⟨v7, w7, hr7, o7, S7⟩ := app_pre w6.heap.size Y l0 c0 w6 hY HL.out.1 (Nat.le_refl _) (hp.below B06)
  obtain ⟨x7, q7, k7, rfl⟩ := owns_slice o7
  have hlay := layout_any wd w7 hwb
  have H := hid (And.intro o7 (And.intro S7 hlay))
  have HG := hid (And.intro hY (And.intro hp (And.intro hI (And.intro B06 (And.intro ok (And.intro G6 (And.intro hW hg)))))))
  clear hY hp hI B03 B06 ok G6 hW hg o7 S7 hlay HB
  go_wp2_with (at_builtin; refine wpList_append_run (by rfl) _ _ 22 22 (by rfl) (.slice none 0 0) _ _ w7 (by rfl) (by rfl) hr7 ?_)
  clear hr7
  refine H.out.2.2.mono ?_
  rintro e w8 ⟨rfl, B78⟩
  obtain ⟨o7, S7, -⟩ := H.out
  have bb : (w8.alloc (.cells #[.slice x7 q7 k7, .string (nlS (16 * wd)), .int .i64 wd, .nilFunc, .nilIface, .nilIface, .nilIface] 37)).heap[w8.heap.size]? = some (.cells #[.slice x7 q7 k7, .string (nlS (16 * wd)), .int .i64 wd, .nilFunc, .nilIface, .nilIface, .nilIface] 37) := heap_alloc_new w8 _
  have B89 : Below w8.heap.size w8 (w8.alloc (.cells #[.slice x7 q7 k7, .string (nlS (16 * wd)), .int .i64 wd, .nilFunc, .nilIface, .nilIface, .nilIface] 37)) := (Below.refl _ _).alloc (Nat.le_refl _) _
  generalize hw9 : w8.alloc (.cells #[.slice x7 q7 k7, .string (nlS (16 * wd)), .int .i64 wd, .nilFunc, .nilIface, .nilIface, .nilIface] 37) = w9 at *
  have B79 : Below w7.heap.size w7 w9 := B78.trans (B89.mono B78.size)
  have S69 : Stp w6.heap.size [5, 37] w6 w9 := (S7.mono (Nat.le_refl _) (by simp)).trans (Stp.ofBelow B79 S7.bel.size)
  have hB8 : w6.heap.size ≤ w8.heap.size := Nat.le_trans S7.bel.size B78.size
  obtain ⟨-, -, -, B06, -, G6, hW, hg⟩ := HG.out
  have hfn : g.fn = .func (.func 12) #[] #[.pointer (some ⟨wb.heap.size + 1 + 1, 0, none⟩), .pointer (some ⟨w1.heap.size, 0, none⟩), .pointer (some ⟨wb.heap.size, 0, none⟩), .pointer (some ⟨w2.heap.size, 0, none⟩), .pointer (some ⟨w.heap.size, 0, none⟩)] := by rw [hg]; rfl
  have bb' : (w9.setCell ⟨w8.heap.size, 3, none⟩ (.func (.func 12) #[] #[.pointer (some ⟨wb.heap.size + 1 + 1, 0, none⟩), .pointer (some ⟨w1.heap.size, 0, none⟩), .pointer (some ⟨wb.heap.size, 0, none⟩), .pointer (some ⟨w2.heap.size, 0, none⟩), .pointer (some ⟨w.heap.size, 0, none⟩)])).heap[w8.heap.size]? = some (.cells #[.slice x7 q7 k7, .string (nlS (16 * wd)), .int .i64 wd, .func (.func 12) #[] #[.pointer (some ⟨wb.heap.size + 1 + 1, 0, none⟩), .pointer (some ⟨w1.heap.size, 0, none⟩), .pointer (some ⟨wb.heap.size, 0, none⟩), .pointer (some ⟨w2.heap.size, 0, none⟩), .pointer (some ⟨w.heap.size, 0, none⟩)], .nilIface, .nilIface, .nilIface] 37) := by
    simp [World.setCell, Array.getElem?_modify, bb]
  have oA : Own w6.heap.size (w9.setCell ⟨w8.heap.size, 3, none⟩ (.func (.func 12) #[] #[.pointer (some ⟨wb.heap.size + 1 + 1, 0, none⟩), .pointer (some ⟨w1.heap.size, 0, none⟩), .pointer (some ⟨wb.heap.size, 0, none⟩), .pointer (some ⟨w2.heap.size, 0, none⟩), .pointer (some ⟨w.heap.size, 0, none⟩)])) (.slice x7 q7 k7) l0 := (o7.below B79).setCell bb (by decide) _
  have S6A : Stp w6.heap.size [5, 37] w6 (w9.setCell ⟨w8.heap.size, 3, none⟩ (.func (.func 12) #[] #[.pointer (some ⟨wb.heap.size + 1 + 1, 0, none⟩), .pointer (some ⟨w1.heap.size, 0, none⟩), .pointer (some ⟨wb.heap.size, 0, none⟩), .pointer (some ⟨w2.heap.size, 0, none⟩), .pointer (some ⟨w.heap.size, 0, none⟩)])) := S69.setCell bb (by simp) hB8 _
  have c3 : w9.cell? ⟨w8.heap.size, 3, none⟩ = some .nilFunc := by simp [World.cell?, bb]
  have f3 : w9.frozen? ⟨w8.heap.size, 3, none⟩ = false := by simp [World.frozen?, bb]
  generalize hwA : w9.setCell ⟨w8.heap.size, 3, none⟩ (.func (.func 12) #[] #[.pointer (some ⟨wb.heap.size + 1 + 1, 0, none⟩), .pointer (some ⟨w1.heap.size, 0, none⟩), .pointer (some ⟨wb.heap.size, 0, none⟩), .pointer (some ⟨w2.heap.size, 0, none⟩), .pointer (some ⟨w.heap.size, 0, none⟩)]) = wA at *
  rw [← hfn] at bb'
  have GA := G6.stp S6A (by decide)
  have hbuf : Buf w6.heap.size w8.heap.size wd g.fn (.slice x7 q7 k7) l0 wA := ⟨bb', oA, hB8⟩
  have B0A : Below w.heap.size w wA := B06.trans (S6A.bel.mono B06.size)
  have hrun := run_g g HG.out.2.2.2.2.1 w6.heap.size w8.heap.size wd lv N _ _ l0 op cl lines bare X n cap S wA hbuf GA HL.out.1 HL.out.2.1 HL.out.2.2 (fun w' hw' => HG.out.2.2.1.cells (B0A.trans (hW ▸ hw'))) (by omega) hlv hwb
  have HR := hid (And.intro hrun B0A)
  clear hrun B0A hbuf GA bb' oA S6A S69 bb B89 B79 B78 o7 S7 H hB8 B06 G6 hW hg hfn
  go_wp2_with fail
  refine HR.out.1.mono ?_
  rintro e wB ⟨v4, lg4, sv4, kk, rfl, olg, hb4, G4, B4⟩
  obtain ⟨hY, hp, hI, B06, ok, -, hW, hg⟩ := HG.out
  have B0B : Below w.heap.size w wB := HR.out.2.trans (hW ▸ B4)
  have g1 : wB.heap[w1.heap.size]? = some (.cells #[.slice X1 eb.length c1] 22) := by have := G4.eb; rw [hg] at this; exact this
  have g2 : wB.heap[w2.heap.size]? = some (.cells #[.slice X2 sb.length c2] 22) := by have := G4.tb; rw [hg] at this; exact this
  have q1 : wB.cell? ⟨w1.heap.size, 0, none⟩ = some (.slice X1 m1 c1) := by rw [← HM0.out.1]; simp [World.cell?, g1]
  have q2 : wB.cell? ⟨w2.heap.size, 0, none⟩ = some (.slice X2 m2 c2) := by rw [← HM0.out.2]; simp [World.cell?, g2]
  have he4 : Bytes X1 eb wB := by have := G4.e1; rw [hg] at this; exact this
  have hs4 : Bytes X2 sb wB := by have := G4.e2; rw [hg] at this; exact this
  have hm := model_any (lines := lines) (bare := bare) (cap := cap) (op := op) (cl := cl) (lv := lv) (wd := wd) (N := N) (X1 := X1) (c1 := c1) (X2 := X2) (c2 := c2) (eb := eb) (sb := sb) hY HL.out.1 (hp.below B0B) (hI.below B0B) HL.out.2.1 HL.out.2.2 (by omega) hlv hwb he4 hs4
  rw [HM0.out.1, HM0.out.2] at hm
  have hT : gpF g.eb g.sb N = gpF eb sb N := by rw [hg]
  rw [hT] at hb4
  have HM := hid (And.intro hm (And.intro olg (And.intro hb4 (And.intro G4 B0B))))
  clear hm olg hb4 G4 B4 B0B HR g1 g2 he4 hs4 hT hY hp hI B06 ok hW hg
  go_wp2_with fail
  refine HM.out.1.mono ?_
  rintro e wC ⟨v5, sv5, rfl, o5, osv, B5⟩
  obtain ⟨-, olg, hb4, G4, B0B⟩ := HM.out
  have olg5 : wC.ownsRow w6.heap.size 3 1 lg4 N (upto N) := owns_moved olg fun b hb => by
    obtain ⟨_, c, hc⟩ := owns_row olg hb
    exact B5.block b (lt_of_some hc)
  have osv4 : wC.ownsRow g.W0 50 1 sv4 (seamsOf lv N lines).length (seamsOf lv N lines) := owns_moved G4.sown fun b hb => by
    obtain ⟨_, c, hc⟩ := owns_row G4.sown hb
    exact B5.block b (lt_of_some hc)
  have hb5 := hb4.below B5
  have hsz : w6.heap.size ≤ wB.heap.size := hb4.lt
  have h42 : wC.heap[wb.heap.size + 1 + 1]? = some (.cells #[sv4] 42) := by
    have h := (B5.block _ (Nat.lt_of_lt_of_le G4.lS hsz)).trans G4.svb
    rw [HG.out.2.2.2.2.2.2.2] at h
    exact h
  have q3 : wC.cell? ⟨wb.heap.size + 1 + 1, 0, none⟩ = some sv4 := by simp [World.cell?, h42]
  have hseq := seq_any w6.heap.size N lg4 wC (by omega) olg5
  have g0 := hb5.c0
  have heq := equal_same w6.heap.size wB.heap.size v4 v5 _ wC hb5.own o5
  have hsm := seams_same g.W0 wB.heap.size _ sv4 sv5 (seamsOf lv N lines) wC (by have := seamsOf_len lv N lines; omega) osv4 osv (seamsOf_u8 lv N lines)
  have HQ := hid (And.intro hseq (And.intro heq (And.intro hsm (B0B.trans (B5.mono B0B.size)))))
  clear hseq heq hsm olg5 osv4 hb5 olg hb4 B0B B5 osv o5 HM G4 h42 hsz q1 q2
  go_wp2_with fail
  refine HQ.out.1.mono ?_
  rintro e w6 ⟨rfl, rfl⟩
  go_wp2_with fail
  refine HQ.out.2.1.mono ?_
  rintro e w7 ⟨rfl, rfl⟩
  go_wp2_with fail
  refine HQ.out.2.2.1.mono ?_
  rintro e w8 ⟨rfl, q, rfl⟩
  go_wp2
  go_ret
  have hB := HQ.out.2.2.2
  exact ⟨rfl, hB.os, hB.tape, hB.output, hB.size, hB.block⟩
end Go.Proofs.Ybulkbwqo
