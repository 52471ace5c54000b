/- DERIVED. run; the law of expanded layouts. -/
import Derived.Test.YbulkbwqoIb
import Derived.Test.YbulkbwqoIc
import Derived.Test.YbulkbwqoG
namespace Go.Proofs.Ybulkbwqo
open Go.RowKit

theorem gpF_nil (N : Nat) : gpF [] [] N = fun _ => false := by
  funext i
  simp [gpF, bk]
/-- What Block writes between the brackets. -/
def bodyT (it : Nat → ByteArray) (lv wd N : Nat) (lines bare : Bool) (gp : Nat → Bool) : List UInt8 :=
  if lines || (decide (0 < N) && decide (lv < 16)) then (if N = 0 then nl (min lv 16 * wd) else expT it lv wd N bare gp N) else cmpT it N

section
variable {B Bb Lb Pb Ib wd lv N : Nat} {v lg : Value} {l : List UInt8} {op cl : UInt8} {lines bare : Bool} {X : Option Addr} {n cap : Nat} {S : Nat → ByteArray} {w : World}
theorem block_nil (h : Run B Bb Lb Pb Ib wd .nilFunc v lg l 0 X n cap w) (hl : l.length ≤ 65536) (hn : n ≤ 1024) (hS : ∀ k, k < n → (S k).size ≤ 4096) (hI : ∀ w', Below B w w' → ∀ k, k < n → ∃ b off, X = some ⟨b, off, none⟩ ∧ w'.cell? ⟨b, off + k, none⟩ = some (.string (S k)))
    (hN : N ≤ 600) (hlv : lv ≤ 255) (hwd : wd ≤ 4) :
    Calls Yba.prog 17 #[.pointer (some ⟨Bb, 0, none⟩), .agg #[.int .u8 op.toNat, .int .u8 cl.toNat, .int .i64 lv, .bool lines, .bool bare], .int .i64 N, .func (.func 15) #[] #[.pointer (some ⟨Lb, 0, none⟩), .pointer (some ⟨Pb, 0, none⟩), .pointer (some ⟨Ib, 0, none⟩)]] w
      fun e w' => e = .returned (.tuple #[]) ∧ ∃ v' lg', Run B Bb Lb Pb Ib wd .nilFunc v' lg' (l ++ [op] ++ bodyT (itm n S) lv wd N lines bare (fun _ => false) ++ [cl]) N X n cap w' ∧ Stp B T4 w w' := by
  cases lines with
  | true =>
    rcases Nat.eq_zero_or_pos N with rfl | hN0
    · simpa [bodyT] using block_empty (bare := bare) (op := op) (cl := cl) h hl hlv hwd
    · have : bodyT (itm n S) lv wd N true bare (fun _ => false) = expT (itm n S) lv wd N bare (fun _ => false) N := by
        have : N ≠ 0 := by omega
        simp [bodyT, this]
      rw [this]
      exact block_lines_t h hl hn hS hI hN hN0 hlv hwd rfl
  | false =>
    by_cases hx : 0 < N ∧ lv < 16
    · have : bodyT (itm n S) lv wd N false bare (fun _ => false) = expT (itm n S) lv wd N bare (fun _ => false) N := by
        have : N ≠ 0 := by omega
        simp [bodyT, hx, this]
      rw [this]
      exact block_lines_f h hl hn hS hI hN hx.1 hlv hwd ⟨rfl, hx.2⟩
    · have : bodyT (itm n S) lv wd N false bare (fun _ => false) = cmpT (itm n S) N := by
        have : (decide (0 < N) && decide (lv < 16)) = false := by simp; omega
        simp [bodyT, this]
      rw [this]
      exact block_compact h hl hn hS hI hN hlv (by omega)
end

set_option maxRecDepth 100000 in
set_option maxHeartbeats 4000000 in
theorem run_nil (B Bb wd lv N : Nat) (v : Value) (l : List UInt8) (op cl : UInt8) (lines bare : Bool) (X : Option Addr) (n cap : Nat) (S : Nat → ByteArray) (w : World) (h : Buf B Bb wd .nilFunc v l w) (hl : l.length ≤ 65536) (hn : n ≤ 1024) (hS : ∀ k, k < n → (S k).size ≤ 4096)
    (hI : ∀ w', Below B w w' → ∀ k, k < n → ∃ b off, X = some ⟨b, off, none⟩ ∧ w'.cell? ⟨b, off + k, none⟩ = some (.string (S k))) (hN : N ≤ 600) (hlv : lv ≤ 255) (hwd : wd ≤ 4) :
    Calls Yba.prog 7 #[.pointer (some ⟨Bb, 0, none⟩), .agg #[.int .u8 op.toNat, .int .u8 cl.toNat, .int .i64 lv, .bool lines, .bool bare], .int .i64 N, .slice X n cap] w
      fun e w' => ∃ v' lg, e = .returned lg ∧ w'.ownsRow B 3 1 lg N (upto N) ∧ Buf B Bb wd .nilFunc v' (l ++ [op] ++ bodyT (itm n S) lv wd N lines bare (fun _ => false) ++ [cl]) w' ∧ Below B w w' := by
  have hB := h.lt
  have b1 : (w.alloc (.cells #[.pointer (some ⟨Bb, 0, none⟩)] 26)).heap[w.heap.size]? = some (.cells #[.pointer (some ⟨Bb, 0, none⟩)] 26) := heap_alloc_new w _
  have B1 : Below w.heap.size w (w.alloc (.cells #[.pointer (some ⟨Bb, 0, none⟩)] 26)) := (Below.refl _ _).alloc (Nat.le_refl _) _
  generalize hw1 : w.alloc (.cells #[.pointer (some ⟨Bb, 0, none⟩)] 26) = w1 at *
  have b2 : (w1.alloc (.cells #[.int .u8 op.toNat, .int .u8 cl.toNat, .int .i64 lv, .bool lines, .bool bare] 41)).heap[w1.heap.size]? = some (.cells #[.int .u8 op.toNat, .int .u8 cl.toNat, .int .i64 lv, .bool lines, .bool bare] 41) := heap_alloc_new w1 _
  have B2 : Below w1.heap.size w1 (w1.alloc (.cells #[.int .u8 op.toNat, .int .u8 cl.toNat, .int .i64 lv, .bool lines, .bool bare] 41)) := (Below.refl _ _).alloc (Nat.le_refl _) _
  generalize hw2 : w1.alloc (.cells #[.int .u8 op.toNat, .int .u8 cl.toNat, .int .i64 lv, .bool lines, .bool bare] 41) = w2 at *
  have b3 : (w2.alloc (.cells #[.slice X n cap] 23)).heap[w2.heap.size]? = some (.cells #[.slice X n cap] 23) := heap_alloc_new w2 _
  have B3 : Below w2.heap.size w2 (w2.alloc (.cells #[.slice X n cap] 23)) := (Below.refl _ _).alloc (Nat.le_refl _) _
  generalize hw3 : w2.alloc (.cells #[.slice X n cap] 23) = w3 at *
  have b4 : ((w3.alloc (.cells #[] 3)).alloc (.cells #[.slice (some ⟨w3.heap.size, 0, none⟩) 0 0] 38)).heap[w3.heap.size]? = some (.cells #[] 3) := by
    rw [hp_alloc_lt (by simp)]; exact heap_alloc_new w3 _
  have b5 : ((w3.alloc (.cells #[] 3)).alloc (.cells #[.slice (some ⟨w3.heap.size, 0, none⟩) 0 0] 38)).heap[w3.heap.size + 1]? = some (.cells #[.slice (some ⟨w3.heap.size, 0, none⟩) 0 0] 38) := by
    have e : w3.heap.size + 1 = (w3.alloc (.cells #[] 3)).heap.size := by simp
    rw [e]; exact heap_alloc_new _ _
  have B5 : Below w3.heap.size w3 ((w3.alloc (.cells #[] 3)).alloc (.cells #[.slice (some ⟨w3.heap.size, 0, none⟩) 0 0] 38)) := ((Below.refl _ _).alloc (Nat.le_refl _) _).alloc (by simp) _
  generalize hw5 : (w3.alloc (.cells #[] 3)).alloc (.cells #[.slice (some ⟨w3.heap.size, 0, none⟩) 0 0] 38) = w5 at *
  have B25 : Below w2.heap.size w2 w5 := B3.trans (B5.mono B3.size)
  have B15 : Below w1.heap.size w1 w5 := B2.trans (B25.mono B2.size)
  have B05 : Below w.heap.size w w5 := B1.trans (B15.mono B1.size)
  have p1 := (B15.block _ (lt_of_some b1)).trans b1
  have p2 := (B25.block _ (lt_of_some b2)).trans b2
  have p3 := (B5.block _ (lt_of_some b3)).trans b3
  have hsz : B ≤ w3.heap.size := by have := B1.size; have := B2.size; have := B3.size; omega
  have hr : Run B Bb (w3.heap.size + 1) w.heap.size w2.heap.size wd .nilFunc v (.slice (some ⟨w3.heap.size, 0, none⟩) 0 0) l 0 X n cap w5 :=
    ⟨h.below B05, b5, ⟨rfl, .inr ⟨w3.heap.size, 0, #[], rfl, hsz, b4, Nat.le_refl _, by unfold maxLen; omega, rfl, rfl⟩⟩, p1, p3, by omega⟩
  have hblk := block_nil (op := op) (cl := cl) (lines := lines) (bare := bare) hr hl hn hS (fun w' hw' => hI w' ((B05.mono hB).trans hw')) hN hlv hwd
  have c0 : w5.cell? ⟨w.heap.size, 0, none⟩ = some (.pointer (some ⟨Bb, 0, none⟩)) := by simp [World.cell?, p1]
  have d0 : w5.cell? ⟨w1.heap.size, 0, none⟩ = some (.int .u8 op.toNat) := by simp [World.cell?, p2]
  have d1 : w5.cell? ⟨w1.heap.size, 1, none⟩ = some (.int .u8 cl.toNat) := by simp [World.cell?, p2]
  have d2 : w5.cell? ⟨w1.heap.size, 2, none⟩ = some (.int .i64 lv) := by simp [World.cell?, p2]
  have d3 : w5.cell? ⟨w1.heap.size, 3, none⟩ = some (.bool lines) := by simp [World.cell?, p2]
  have d4 : w5.cell? ⟨w1.heap.size, 4, none⟩ = some (.bool bare) := by simp [World.cell?, p2]
  have HB := hid (And.intro hblk (B05.mono hB))
  obtain ⟨T, hT⟩ : ∃ T, T = l ++ [op] ++ bodyT (itm n S) lv wd N lines bare (fun _ => false) ++ [cl] := ⟨_, rfl⟩
  rw [← hT] at HB ⊢
  clear hblk hr p1 p2 p3 b1 b2 b3 b4 b5 B1 B2 B3 B5 B25 B15 B05 h hI hT
  go_enter Yba.func7, Yba.ntmps7
  go_wp2_with fail
  refine HB.out.1.mono ?_
  rintro e w6 ⟨rfl, v6, lg6, r6, S6⟩
  have hlc : w6.cell? ⟨w3.heap.size + 1, 0, none⟩ = some lg6 := by simp [World.cell?, r6.log]
  have H := hid (And.intro r6.lown (And.intro r6.buf (HB.out.2.trans S6.bel)))
  clear r6 S6 HB
  go_wp2
  go_ret
  exact ⟨v6, lg6, rfl, H.out.1, H.out.2.1, H.out.2.2⟩
end Go.Proofs.Ybulkbwqo
