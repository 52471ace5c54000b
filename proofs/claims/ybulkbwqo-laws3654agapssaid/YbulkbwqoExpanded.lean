/- DERIVED. The walk of LawS3654AExpanded. -/
import Derived.Test.YbulkbwqoJ
namespace Go.Proofs.Ybulkbwqo
open Go.RowKit

set_option maxRecDepth 100000 in
theorem equal_same (B1 B2 : Nat) (v1 v2 : Value) (l : List UInt8) (w : World) (h1 : Own B1 w v1 l) (h2 : Own B2 w v2 l) :
    Calls Yba.prog 10 #[v1, v2] w fun e w' => e = .returned (.bool true) ∧ w' = w := by
  have c1 := own_string h1
  have c2 := own_string h2
  obtain ⟨x1, m1, q1, rfl⟩ := owns_slice h1
  obtain ⟨x2, m2, q2, rfl⟩ := owns_slice h2
  generalize (⟨l.toArray⟩ : ByteArray) = s at *
  clear h1 h2
  go_enter Yba.func10, Yba.ntmps10
  go_wp2
  go_ret
  exact ⟨by simp, rfl⟩

section
variable {Y : Option Addr} {l0 : List UInt8} {c0 : Nat} {op cl : UInt8} {lv wd N : Nat} {lines bare : Bool} {X : Option Addr} {n cap : Nat} {S : Nat → ByteArray} {X1 X2 : Option Addr} {c1 c2 : Nat} {eb sb : List UInt8} {w : World}
def seamsOf (lv N : Nat) (lines : Bool) : List Value := if lines || (decide (0 < N) && decide (lv < 16)) then seamT N else []
theorem model_any (hY : Y = none → l0.length = 0 ∧ c0 = 0) (hl : l0.length ≤ 65536) (hp : Bytes Y l0 w) (hI : Items X n S w) (hn : n ≤ 1024) (hS : ∀ k, k < n → (S k).size ≤ 4096) (hN : N ≤ 600) (hlv : lv ≤ 255) (hwd : wd ≤ 4)
    (he : Bytes X1 eb w) (hs : Bytes X2 sb w) :
    Calls Yba.prog 8 #[.slice Y l0.length c0, .int .u8 op.toNat, .int .u8 cl.toNat, .int .i64 lv, .int .i64 wd, .bool lines, .bool bare, .slice X n cap, .int .i64 N, .slice X1 eb.length c1, .slice X2 sb.length c2, .bool true] w
      fun e w' => ∃ v sv, e = .returned (.tuple #[v, sv]) ∧ Own w.heap.size w' v (l0 ++ [op] ++ bodyT (itm n S) lv wd N lines bare (gpF eb sb N) ++ [cl]) ∧ w'.ownsRow w.heap.size 50 1 sv (seamsOf lv N lines).length (seamsOf lv N lines) ∧ Below w.heap.size w w' := by
  cases lines with
  | true =>
    rcases Nat.eq_zero_or_pos N with rfl | hN0
    · simpa [bodyT, seamsOf, seamT] using model_empty (bare := bare) (op := op) (cl := cl) (X := X) (n := n) (cap := cap) (X1 := X1) (n1 := eb.length) (c1 := c1) (X2 := X2) (n2 := sb.length) (c2 := c2) hY hl hp hwd hlv
    · have e1 : bodyT (itm n S) lv wd N true bare (gpF eb sb N) = expT (itm n S) lv wd N bare (gpF eb sb N) N := by
        have : N ≠ 0 := by omega
        simp [bodyT, this]
      have e2 : seamsOf lv N true = seamT N := by simp [seamsOf]
      rw [e1, e2, seamT_len]
      exact model_expanded hY hl hp hI hn hS hN hN0 hlv hwd (.inl rfl) he hs
  | false =>
    by_cases hx : 0 < N ∧ lv < 16
    · have e1 : bodyT (itm n S) lv wd N false bare (gpF eb sb N) = expT (itm n S) lv wd N bare (gpF eb sb N) N := by
        have : N ≠ 0 := by omega
        simp [bodyT, hx, this]
      have e2 : seamsOf lv N false = seamT N := by simp [seamsOf, hx]
      rw [e1, e2, seamT_len]
      exact model_expanded hY hl hp hI hn hS hN hx.1 hlv hwd (.inr ⟨rfl, hx.2⟩) he hs
    · have e0 : (decide (0 < N) && decide (lv < 16)) = false := by simp; omega
      have e1 : bodyT (itm n S) lv wd N false bare (gpF eb sb N) = cmpT (itm n S) N := by simp [bodyT, e0]
      have e2 : seamsOf lv N false = [] := by simp [seamsOf, e0]
      rw [e1, e2]
      exact (model_compact (bare := bare) (wd := wd) (cl := cl) (X1 := X1) (n1 := eb.length) (c1 := c1) (X2 := X2) (n2 := sb.length) (c2 := c2) hY hl hp hI hn hS hN hlv (by omega)).mono fun e w' ⟨v, h1, h2, h3⟩ => ⟨v, _, h1, h2, World.ownsRow_nil _ _ _ _, h3⟩
end

set_option maxRecDepth 100000 in
set_option maxHeartbeats 40000000 in
theorem expanded_law (Y : Option Addr) (l0 : List UInt8) (c0 : Nat) (op cl : UInt8) (lv wd0 : Nat) (lines bare : Bool) (X : Option Addr) (n cap : Nat) (S : Nat → ByteArray) (nn : Nat) (w : World)
    (hY : Y = none → l0.length = 0 ∧ c0 = 0) (hp : Bytes Y l0 w) (hI : Items X n S w) (hlv : lv ≤ 255) (hwd0 : wd0 ≤ 255) (hnn : nn ≤ 65535) :
    Calls Yba.prog 4 #[.slice Y l0.length c0, .int .u8 op.toNat, .int .u8 cl.toNat, .int .u8 lv, .int .u8 wd0, .bool lines, .bool bare, .slice X n cap, .int .u16 nn] w fun e w' => e = .returned (.bool true) ∧ Below w.heap.size w w' := by
  have hbig := big_any X n cap S Y l0.length c0 w hI
  have HB := hid (And.intro hbig (And.intro hY (And.intro hp hI)))
  clear hbig hY hp hI
  obtain ⟨N, hN⟩ : ∃ N, nn % 512 = N := ⟨_, rfl⟩
  obtain ⟨wd, hwd⟩ : ∃ wd, wd0 % 5 = wd := ⟨_, rfl⟩
  have e1 : (nn : Int) % 512 = (N : Int) := by omega
  have e1' : (nn : Int).tmod 512 = (N : Int) := by rw [Int.tmod_eq_emod_of_nonneg (by omega)]; exact e1
  have e2 : (wd0 : Int) % 5 = (wd : Int) := by omega
  have e2' : (wd0 : Int).tmod 5 = (wd : Int) := by rw [Int.tmod_eq_emod_of_nonneg (by omega)]; exact e2
  have hNb : N ≤ 511 := by omega
  have hwb : wd ≤ 4 := by omega
  clear hN hwd
  go_enter Yba.func4, Yba.ntmps4
  go_wp2_with fail
  refine HB.out.1.mono ?_
  rintro e wb ⟨he, rfl⟩
  rcases he with rfl | ⟨rfl, hl, hn, hS⟩
  · go_wp2
    go_ret
    exact ⟨rfl, Below.refl _ _⟩
  · obtain ⟨v1, w1, hr1, o1, S1⟩ := app_pre wb.heap.size Y l0 c0 wb HB.out.2.1 hl (Nat.le_refl _) HB.out.2.2.1
    obtain ⟨x1, m1, k1, rfl⟩ := owns_slice o1
    have hlay := layout_any wd w1 hwb
    have H := hid (And.intro o1 (And.intro S1 hlay))
    have HL := hid (And.intro hl (And.intro hn hS))
    clear o1 S1 hlay hl hn hS
    go_wp2_with (at_builtin; refine wpList_append_run (by rfl) _ _ 22 22 (by rfl) (.slice none 0 0) _ _ w1 (by rfl) (by rfl) hr1 ?_)
    clear hr1
    refine H.out.2.2.mono ?_
    rintro e w2 ⟨rfl, B2⟩
    obtain ⟨o1, S1, -⟩ := H.out
    have bb : (w2.alloc (.cells #[.slice x1 m1 k1, .string (nlS (16 * wd)), .int .i64 wd, .nilFunc, .nilIface, .nilIface, .nilIface] 37)).heap[w2.heap.size]? = some (.cells #[.slice x1 m1 k1, .string (nlS (16 * wd)), .int .i64 wd, .nilFunc, .nilIface, .nilIface, .nilIface] 37) := heap_alloc_new w2 _
    have B23 : Below w2.heap.size w2 (w2.alloc (.cells #[.slice x1 m1 k1, .string (nlS (16 * wd)), .int .i64 wd, .nilFunc, .nilIface, .nilIface, .nilIface] 37)) := (Below.refl _ _).alloc (Nat.le_refl _) _
    generalize hw3 : w2.alloc (.cells #[.slice x1 m1 k1, .string (nlS (16 * wd)), .int .i64 wd, .nilFunc, .nilIface, .nilIface, .nilIface] 37) = w3 at *
    have B13 : Below w1.heap.size w1 w3 := B2.trans (B23.mono B2.size)
    have hB3 : Below wb.heap.size wb w3 := S1.bel.trans (B13.mono S1.bel.size)
    have hB2 : wb.heap.size ≤ w2.heap.size := Nat.le_trans S1.bel.size B2.size
    have hbuf : Buf wb.heap.size w2.heap.size wd .nilFunc (.slice x1 m1 k1) l0 w3 := ⟨bb, o1.below B13, hB2⟩
    have hrun := run_nil wb.heap.size w2.heap.size wd lv N _ l0 op cl lines bare X n cap S w3 hbuf HL.out.1 HL.out.2.1 HL.out.2.2 (fun w' hw' => HB.out.2.2.2.cells (hB3.trans hw')) (by omega) hlv hwb
    have HR := hid (And.intro hrun hB3)
    clear hrun hB3 hbuf B13 B23 bb B2 o1 S1 H hB2
    go_wp2_with fail
    refine HR.out.1.mono ?_
    rintro e w4 ⟨v4, lg4, rfl, olg, hb4, B4⟩
    have B04 := HR.out.2.trans B4
    have hm := model_any (lines := lines) (bare := bare) (cap := cap) (op := op) (cl := cl) (lv := lv) (wd := wd) (N := N) (X1 := none) (c1 := 0) (X2 := none) (c2 := 0) (eb := []) (sb := []) HB.out.2.1 HL.out.1 (HB.out.2.2.1.below B04) (HB.out.2.2.2.below B04) HL.out.2.1 HL.out.2.2 (by omega) hlv hwb (fun j hj => by simp at hj) (fun j hj => by simp at hj)
    rw [gpF_nil] at hm
    have HM := hid (And.intro hm (And.intro olg (And.intro hb4 B04)))
    clear hm olg hb4 B4 B04 HR
    go_wp2_with fail
    refine HM.out.1.mono ?_
    rintro e w5 ⟨v5, sv5, rfl, o5, osv, B5⟩
    obtain ⟨-, olg, hb4, B04⟩ := HM.out
    have olg5 : w5.ownsRow wb.heap.size 3 1 lg4 N (upto N) := owns_moved olg fun g hg => by
      obtain ⟨_, c, hc⟩ := owns_row olg hg
      exact B5.block g (lt_of_some hc)
    have hb5 := hb4.below B5
    have hseq := seq_any wb.heap.size N lg4 w5 (by omega) olg5
    have g0 := hb5.c0
    have heq := equal_same wb.heap.size w4.heap.size v4 v5 _ w5 hb5.own o5
    have HQ := hid (And.intro hseq (And.intro heq (B04.trans (B5.mono B04.size))))
    clear hseq heq olg5 hb5 olg hb4 B04 B5 osv o5 HM
    go_wp2_with fail
    refine HQ.out.1.mono ?_
    rintro e w6 ⟨rfl, rfl⟩
    go_wp2_with fail
    refine HQ.out.2.1.mono ?_
    rintro e w7 ⟨rfl, rfl⟩
    go_wp2
    go_ret
    exact ⟨rfl, HQ.out.2.2⟩
end Go.Proofs.Ybulkbwqo
