/- DERIVED. (*Buffer).Block and run, with the law's Gaps. -/
import Derived.Test.YbulkbwqoExpanded
import Derived.Test.YbulkbwqoYb
import Derived.Test.YbulkbwqoYc
import Derived.Test.YbulkbwqoZ
namespace Go.Proofs.Ybulkbwqo
open Go.RowKit

/-- What Block leaves, whichever way it goes. -/
def BlkG (g : GB) (B Bb Lb Pb Ib wd : Nat) (T : List UInt8) (N : Nat) (X : Option Addr) (n cap : Nat) (SL : List Value) (w w' : World) : Prop :=
  ∃ v' lg' sv' kk, Run B Bb Lb Pb Ib wd g.fn v' lg' T N X n cap w' ∧ GS g B sv' kk SL w' ∧ StX g T4 w w'
theorem BlkPost.g {g : GB} {B Bb Lb Pb Ib wd : Nat} {T : List UInt8} {N : Nat} {X : Option Addr} {n cap : Nat} {SL : List Value} {w w' : World} (h : BlkPost g B Bb Lb Pb Ib wd T N X n cap SL w w') : BlkG g B Bb Lb Pb Ib wd T N X n cap SL w w' :=
  let ⟨v', lg', sv', h1, h2, h3⟩ := h
  ⟨v', lg', sv', _, h1, h2, h3⟩

section
variable {g : GB} {B Bb Lb Pb Ib wd lv N : Nat} {v lg sv : Value} {l : List UInt8} {op cl : UInt8} {lines bare : Bool} {X : Option Addr} {n cap : Nat} {S : Nat → ByteArray} {w : World}
theorem block_g (ok : GOk g) (h : Run B Bb Lb Pb Ib wd g.fn v lg l 0 X n cap w) (hg : GS g B sv 0 [] w) (hP : Pb ≠ g.Kb) (hIb : Ib ≠ g.Kb) (hl : l.length ≤ 65536) (hn : n ≤ 1024) (hS : ∀ k, k < n → (S k).size ≤ 4096) (hI : ∀ w', Below g.W0 w w' → ∀ k, k < n → ∃ b off, X = some ⟨b, off, none⟩ ∧ w'.cell? ⟨b, off + k, none⟩ = some (.string (S k)))
    (hN : N ≤ 600) (hlv : lv ≤ 255) (hwd : wd ≤ 4) :
    Calls Yba.prog 17 #[.pointer (some ⟨Bb, 0, none⟩), .agg #[.int .u8 op.toNat, .int .u8 cl.toNat, .int .i64 lv, .bool lines, .bool bare], .int .i64 N, .func (.func 15) #[] #[.pointer (some ⟨Lb, 0, none⟩), .pointer (some ⟨Pb, 0, none⟩), .pointer (some ⟨Ib, 0, none⟩)]] w
      fun e w' => e = .returned (.tuple #[]) ∧ BlkG g B Bb Lb Pb Ib wd (l ++ [op] ++ bodyT (itm n S) lv wd N lines bare (gpF g.eb g.sb N) ++ [cl]) N X n cap (seamsOf lv N lines) w w' := by
  cases lines with
  | true =>
    rcases Nat.eq_zero_or_pos N with rfl | hN0
    · have e1 : bodyT (itm n S) lv wd 0 true bare (gpF g.eb g.sb 0) = nl (min lv 16 * wd) := by simp [bodyT]
      have e2 : seamsOf lv 0 true = seamT 0 := by simp [seamsOf]
      rw [e1, e2]
      exact (block_empty_g (bare := bare) (op := op) (cl := cl) ok h hg hP hIb hl hlv hwd).mono fun e w' hh => ⟨hh.1, hh.2.g⟩
    · have e1 : bodyT (itm n S) lv wd N true bare (gpF g.eb g.sb N) = expT (itm n S) lv wd N bare (gpF g.eb g.sb N) N := by
        have : N ≠ 0 := by omega
        simp [bodyT, this]
      have e2 : seamsOf lv N true = seamT N := by simp [seamsOf]
      rw [e1, e2]
      exact (block_gaps_t ok h hg hP hIb hl hn hS hI hN hN0 hlv hwd rfl).mono fun e w' hh => ⟨hh.1, hh.2.g⟩
  | false =>
    by_cases hx : 0 < N ∧ lv < 16
    · have e1 : bodyT (itm n S) lv wd N false bare (gpF g.eb g.sb N) = expT (itm n S) lv wd N bare (gpF g.eb g.sb N) N := by
        have : N ≠ 0 := by omega
        simp [bodyT, hx, this]
      have e2 : seamsOf lv N false = seamT N := by simp [seamsOf, hx]
      rw [e1, e2]
      exact (block_gaps_f ok h hg hP hIb hl hn hS hI hN hx.1 hlv hwd ⟨rfl, hx.2⟩).mono fun e w' hh => ⟨hh.1, hh.2.g⟩
    · have e0 : (decide (0 < N) && decide (lv < 16)) = false := by simp; omega
      have e1 : bodyT (itm n S) lv wd N false bare (gpF g.eb g.sb N) = cmpT (itm n S) N := by simp [bodyT, e0]
      have e2 : seamsOf lv N false = [] := by simp [seamsOf, e0]
      rw [e1, e2]
      refine (block_compact (bare := bare) (op := op) (cl := cl) h hl hn hS (fun w' hw' => hI w' (hw'.mono hg.w0)) hN hlv (by omega)).mono fun e w' hh => ?_
      obtain ⟨he, v', lg', hr, hs⟩ := hh
      exact ⟨he, v', lg', sv, 0, hr, hg.stp hs (by decide), StX.ofStp hs hg.w0 (fun _ h => h)⟩
end

/-- What run leaves. -/
def RunG (g : GB) (B Bb wd : Nat) (T : List UInt8) (N : Nat) (SL : List Value) (w : World) (e : Ending) (w' : World) : Prop :=
  ∃ v' lg sv' kk, e = .returned lg ∧ w'.ownsRow B 3 1 lg N (upto N) ∧ Buf B Bb wd g.fn v' T w' ∧ GS g B sv' kk SL w' ∧ Below g.W0 w w'

set_option maxRecDepth 100000 in
set_option maxHeartbeats 4000000 in
theorem run_g (g : GB) (ok : GOk g) (B Bb wd lv N : Nat) (v sv : Value) (l : List UInt8) (op cl : UInt8) (lines bare : Bool) (X : Option Addr) (n cap : Nat) (S : Nat → ByteArray) (w : World) (h : Buf B Bb wd g.fn v l w) (hg : GS g B sv 0 [] w) (hl : l.length ≤ 65536) (hn : n ≤ 1024) (hS : ∀ k, k < n → (S k).size ≤ 4096)
    (hI : ∀ w', Below g.W0 w w' → ∀ k, k < n → ∃ b off, X = some ⟨b, off, none⟩ ∧ w'.cell? ⟨b, off + k, none⟩ = some (.string (S k))) (hN : N ≤ 600) (hlv : lv ≤ 255) (hwd : wd ≤ 4) :
    Calls Yba.prog 7 #[.pointer (some ⟨Bb, 0, none⟩), .agg #[.int .u8 op.toNat, .int .u8 cl.toNat, .int .i64 lv, .bool lines, .bool bare], .int .i64 N, .slice X n cap] w
      fun e w' => RunG g B Bb wd (l ++ [op] ++ bodyT (itm n S) lv wd N lines bare (gpF g.eb g.sb N) ++ [cl]) N (seamsOf lv N lines) w e w' := by
  have hB := h.lt
  have b1 : (w.alloc (.cells #[.pointer (some ⟨Bb, 0, none⟩)] 26)).heap[w.heap.size]? = some (.cells #[.pointer (some ⟨Bb, 0, none⟩)] 26) := heap_alloc_new w _
  have B1 : Below w.heap.size w (w.alloc (.cells #[.pointer (some ⟨Bb, 0, none⟩)] 26)) := (Below.refl _ _).alloc (Nat.le_refl _) _
  generalize hw1 : w.alloc (.cells #[.pointer (some ⟨Bb, 0, none⟩)] 26) = w1 at *
  have b2 : (w1.alloc (.cells #[.int .u8 op.toNat, .int .u8 cl.toNat, .int .i64 lv, .bool lines, .bool bare] 41)).heap[w1.heap.size]? = some (.cells #[.int .u8 op.toNat, .int .u8 cl.toNat, .int .i64 lv, .bool lines, .bool bare] 41) := heap_alloc_new w1 _
  have B2 : Below w1.heap.size w1 (w1.alloc (.cells #[.int .u8 op.toNat, .int .u8 cl.toNat, .int .i64 lv, .bool lines, .bool bare] 41)) := (Below.refl _ _).alloc (Nat.le_refl _) _
  generalize hw2 : w1.alloc (.cells #[.int .u8 op.toNat, .int .u8 cl.toNat, .int .i64 lv, .bool lines, .bool bare] 41) = w2 at *
  have b3 : (w2.alloc (.cells #[.slice X n cap] 23)).heap[w2.heap.size]? = some (.cells #[.slice X n cap] 23) := heap_alloc_new w2 _
  have B3 : Below w2.heap.size w2 (w2.alloc (.cells #[.slice X n cap] 23)) := (Below.refl _ _).alloc (Nat.le_refl _) _
  generalize hw3 : w2.alloc (.cells #[.slice X n cap] 23) = w3 at *
  have b4 : ((w3.alloc (.cells #[] 3)).alloc (.cells #[.slice (some ⟨w3.heap.size, 0, none⟩) 0 0] 38)).heap[w3.heap.size]? = some (.cells #[] 3) := by
    rw [hp_alloc_lt (by simp)]; exact heap_alloc_new w3 _
  have b5 : ((w3.alloc (.cells #[] 3)).alloc (.cells #[.slice (some ⟨w3.heap.size, 0, none⟩) 0 0] 38)).heap[w3.heap.size + 1]? = some (.cells #[.slice (some ⟨w3.heap.size, 0, none⟩) 0 0] 38) := by
    have e : w3.heap.size + 1 = (w3.alloc (.cells #[] 3)).heap.size := by simp
    rw [e]; exact heap_alloc_new _ _
  have B5 : Below w3.heap.size w3 ((w3.alloc (.cells #[] 3)).alloc (.cells #[.slice (some ⟨w3.heap.size, 0, none⟩) 0 0] 38)) := ((Below.refl _ _).alloc (Nat.le_refl _) _).alloc (by simp) _
  generalize hw5 : (w3.alloc (.cells #[] 3)).alloc (.cells #[.slice (some ⟨w3.heap.size, 0, none⟩) 0 0] 38) = w5 at *
  have B25 : Below w2.heap.size w2 w5 := B3.trans (B5.mono B3.size)
  have B15 : Below w1.heap.size w1 w5 := B2.trans (B25.mono B2.size)
  have B05 : Below w.heap.size w w5 := B1.trans (B15.mono B1.size)
  have p1 := (B15.block _ (lt_of_some b1)).trans b1
  have p2 := (B25.block _ (lt_of_some b2)).trans b2
  have p3 := (B5.block _ (lt_of_some b3)).trans b3
  have hsz : B ≤ w3.heap.size := by have := B1.size; have := B2.size; have := B3.size; omega
  have hr : Run B Bb (w3.heap.size + 1) w.heap.size w2.heap.size wd g.fn v (.slice (some ⟨w3.heap.size, 0, none⟩) 0 0) l 0 X n cap w5 :=
    ⟨h.below B05, b5, ⟨rfl, .inr ⟨w3.heap.size, 0, #[], rfl, hsz, b4, Nat.le_refl _, by unfold maxLen; omega, rfl, rfl⟩⟩, p1, p3, by omega⟩
  have hW0 := hg.w0
  have hlK := hg.lK
  have hg5 : GS g B sv 0 [] w5 := hg.stp (ts := []) ⟨B05.mono hB, fun i c t _ hh => (B05.block i (lt_of_some hh)).trans hh⟩ (by simp)
  have z1 := B1.size
  have z2 := B2.size
  have hblk := block_g (op := op) (cl := cl) (lines := lines) (bare := bare) ok hr hg5 (by omega) (by omega) hl hn hS (fun w' hw' => hI w' ((B05.mono (Nat.le_trans hW0 hB)).trans hw')) hN hlv hwd
  clear z1 z2
  have c0 : w5.cell? ⟨w.heap.size, 0, none⟩ = some (.pointer (some ⟨Bb, 0, none⟩)) := by simp [World.cell?, p1]
  have d0 : w5.cell? ⟨w1.heap.size, 0, none⟩ = some (.int .u8 op.toNat) := by simp [World.cell?, p2]
  have d1 : w5.cell? ⟨w1.heap.size, 1, none⟩ = some (.int .u8 cl.toNat) := by simp [World.cell?, p2]
  have d2 : w5.cell? ⟨w1.heap.size, 2, none⟩ = some (.int .i64 lv) := by simp [World.cell?, p2]
  have d3 : w5.cell? ⟨w1.heap.size, 3, none⟩ = some (.bool lines) := by simp [World.cell?, p2]
  have d4 : w5.cell? ⟨w1.heap.size, 4, none⟩ = some (.bool bare) := by simp [World.cell?, p2]
  have HB := hid (And.intro hblk (B05.mono (Nat.le_trans hW0 hB)))
  obtain ⟨T, hT⟩ : ∃ T, T = l ++ [op] ++ bodyT (itm n S) lv wd N lines bare (gpF g.eb g.sb N) ++ [cl] := ⟨_, rfl⟩
  rw [← hT] at HB ⊢
  obtain ⟨SL, hSL⟩ : ∃ SL, SL = seamsOf lv N lines := ⟨_, rfl⟩
  rw [← hSL] at HB ⊢
  clear hblk hr hg5 hg hW0 hlK hSL p1 p2 p3 b1 b2 b3 b4 b5 B1 B2 B3 B5 B25 B15 B05 h hI hT
  go_enter Yba.func7, Yba.ntmps7
  go_wp2_with fail
  refine HB.out.1.mono ?_
  rintro e w6 ⟨rfl, v6, lg6, sv6, kk, r6, G6, S6⟩
  have hlc : w6.cell? ⟨w3.heap.size + 1, 0, none⟩ = some lg6 := by simp [World.cell?, r6.log]
  have H := hid (And.intro r6.lown (And.intro r6.buf (And.intro G6 (HB.out.2.trans S6.bel))))
  clear r6 G6 S6 HB
  go_wp2
  go_ret
  exact ⟨v6, lg6, sv6, kk, rfl, H.out.1, H.out.2.1, H.out.2.2.1, H.out.2.2.2⟩
end Go.Proofs.Ybulkbwqo
