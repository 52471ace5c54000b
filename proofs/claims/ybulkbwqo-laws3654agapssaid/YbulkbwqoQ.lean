/- DERIVED. inline, commentsOf; gap where the Buffer has the law's Gaps. -/
import Derived.Test.YbulkbwqoP
namespace Go.Proofs.Ybulkbwqo
open Go.RowKit

set_option maxRecDepth 100000 in
set_option maxHeartbeats 4000000 in
theorem inline_any (Bb b : Nat) (w : World) :
    Calls Yba.prog 26 #[.pointer (some ⟨Bb, 0, none⟩), .agg #[.int .i64 0, .int .i64 0, .int .i64 0, .int .i64 b]] w fun e w' => e = .returned (.bool false) ∧ Below w.heap.size w w' := by
  have b1 : ((w.alloc (.cells #[.int .i64 0, .int .i64 0, .int .i64 0, .int .i64 b] 56)).alloc (.cells #[.bool false] 4)).heap[w.heap.size]? = some (.cells #[.int .i64 0, .int .i64 0, .int .i64 0, .int .i64 b] 56) := by
    rw [hp_alloc_lt (by simp)]; exact heap_alloc_new w _
  have b2 : ((w.alloc (.cells #[.int .i64 0, .int .i64 0, .int .i64 0, .int .i64 b] 56)).alloc (.cells #[.bool false] 4)).heap[w.heap.size + 1]? = some (.cells #[.bool false] 4) := by
    have e : w.heap.size + 1 = (w.alloc (.cells #[.int .i64 0, .int .i64 0, .int .i64 0, .int .i64 b] 56)).heap.size := by simp
    rw [e]; exact heap_alloc_new _ _
  have hB : Below w.heap.size w ((w.alloc (.cells #[.int .i64 0, .int .i64 0, .int .i64 0, .int .i64 b] 56)).alloc (.cells #[.bool false] 4)) := ((Below.refl _ _).alloc (Nat.le_refl _) _).alloc (by simp) _
  generalize hw1 : (w.alloc (.cells #[.int .i64 0, .int .i64 0, .int .i64 0, .int .i64 b] 56)).alloc (.cells #[.bool false] 4) = w1 at *
  generalize hQ : w.heap.size = Q at *
  have c0 : w1.cell? ⟨Q, 0, none⟩ = some (.int .i64 0) := by simp [World.cell?, b1]
  have d0 : w1.cell? ⟨Q + 1, 0, none⟩ = some (.bool false) := by simp [World.cell?, b2]
  have f0 : w1.frozen? ⟨Q + 1, 0, none⟩ = false := by simp [World.frozen?, b2]
  have H := hid (And.intro hB b2)
  clear hB b1 b2
  go_enter Yba.func26, Yba.ntmps26
  go_wp2
  refine bodyPost_ret (v := .bool false) (by simp [results, Yba.results26, go_sem, d0]) rfl ⟨rfl, ?_⟩
  exact H.out.1.setCell (p := ⟨Q + 1, 0, none⟩) (by show Q ≤ Q + 1; omega) _

set_option maxRecDepth 100000 in
set_option maxHeartbeats 4000000 in
theorem commentsOf_any (Bb : Nat) (w : World) :
    Calls Yba.prog 28 #[.pointer (some ⟨Bb, 0, none⟩), .agg #[.int .i64 0, .int .i64 0, .int .i64 0]] w fun e w' => e = .returned (.func (.func 33) #[] #[.pointer (some ⟨w.heap.size + 1, 0, none⟩), .pointer (some ⟨w.heap.size, 0, none⟩)]) ∧ w' = (w.alloc (.cells #[.pointer (some ⟨Bb, 0, none⟩)] 26)).alloc (.cells #[.int .i64 0, .int .i64 0, .int .i64 0] 54) := by
  go_enter Yba.func28, Yba.ntmps28
  go_wp2
  go_ret
  exact ⟨rfl, rfl⟩


/-- The closure, whatever seam. -/
theorem gaps_any (g : GB) (ok : GOk g) (B : Nat) (sv : Value) (k : Nat) (sl : List Value) (at' : Nat) (w : World) (h : GS g B sv k sl w) (hB : B ≤ w.heap.size) (hk : k ≤ 900) (hsl : sl.length ≤ 5000) (ha : at' ≤ 2) :
    Calls Yba.prog 12 #[.int .u8 at', .pointer (some ⟨g.Sv, 0, none⟩), .pointer (some ⟨g.Eb, 0, none⟩), .pointer (some ⟨g.Kb, 0, none⟩), .pointer (some ⟨g.Tb, 0, none⟩), .pointer (some ⟨g.Ob, 0, none⟩)] w
      fun e w' => e = .returned (.agg #[.int .i64 0, .int .i64 0, .int .i64 0, .int .i64 (g.brk at' k : Nat)]) ∧ ∃ sv', GS g B sv' (if at' = 2 then k + 1 else k) (sl ++ [.int .u8 at']) w' ∧ StG g w w' := by
  have : at' = 0 ∨ at' = 1 ∨ at' = 2 := by omega
  rcases this with rfl | rfl | rfl
  · exact gaps_opened g ok B sv k sl w h hB hsl
  · exact gaps_ended g ok B sv k sl w h hB hk hsl
  · exact gaps_separated g ok B sv k sl w h hB hk hsl

theorem neNil (c : Array Value) (w : World) : (binOp BinOp.eql 29 (.func (.func 12) #[] c) Value.nilFunc).run Yba.prog w = .ok (.bool false) w := by kernel_rfl

set_option maxRecDepth 100000 in
set_option maxHeartbeats 4000000 in
theorem gap_fn (g : GB) (ok : GOk g) (B Bb wd : Nat) (v : Value) (l : List UInt8) (sv : Value) (k : Nat) (sl : List Value) (at' : Nat) (w : World) (hb : Buf B Bb wd g.fn v l w) (h : GS g B sv k sl w) (hk : k ≤ 900) (hsl : sl.length ≤ 5000) (ha : at' ≤ 2) :
    Calls Yba.prog 21 #[.pointer (some ⟨Bb, 0, none⟩), .int .u8 at'] w
      fun e w' => e = .returned (.agg #[.int .i64 0, .int .i64 0, .int .i64 0, .int .i64 (g.brk at' k : Nat)]) ∧ ∃ sv', GS g B sv' (if at' = 2 then k + 1 else k) (sl ++ [.int .u8 at']) w' ∧ StG g w w' := by
  have hB := hb.lt
  have hW : g.W0 ≤ w.heap.size := Nat.le_trans h.w0 hB
  have r1 : (w.alloc (.cells #[.int .i64 0, .int .i64 0, .int .i64 0, .int .i64 0] 56)).heap[w.heap.size]? = some (.cells #[.int .i64 0, .int .i64 0, .int .i64 0, .int .i64 0] 56) := heap_alloc_new w _
  have h1 := h.alloc hW (.cells #[.int .i64 0, .int .i64 0, .int .i64 0, .int .i64 0] 56) ok.h1 ok.h2
  have s1 := (StG.refl g w).alloc hW (.cells #[.int .i64 0, .int .i64 0, .int .i64 0, .int .i64 0] 56)
  have b1 := hb.below ((Below.refl _ _).alloc (Nat.le_refl _) (.cells #[.int .i64 0, .int .i64 0, .int .i64 0, .int .i64 0] 56))
  generalize hw1 : w.alloc (.cells #[.int .i64 0, .int .i64 0, .int .i64 0, .int .i64 0] 56) = w1 at *
  generalize hR : w.heap.size = R at *
  have c3 := b1.c3
  unfold GB.fn at c3
  have hq := neNil #[.pointer (some ⟨g.Sv, 0, none⟩), .pointer (some ⟨g.Eb, 0, none⟩), .pointer (some ⟨g.Kb, 0, none⟩), .pointer (some ⟨g.Tb, 0, none⟩), .pointer (some ⟨g.Ob, 0, none⟩)] w1
  have hcl := gaps_any g ok B sv k sl at' w1 h1 b1.lt hk hsl ha
  generalize (if at' = 2 then k + 1 else k) = k2 at *
  have H := hid (And.intro hcl (And.intro s1 (And.intro r1 (And.intro hW h1.kb))))
  clear hcl s1 r1 h1 b1 h hb
  go_enter Yba.func21, Yba.ntmps21
  go_wp2_with fail
  refine H.out.1.mono ?_
  rintro e w2 ⟨rfl, sv2, h2, s2⟩
  obtain ⟨-, s1, r1, hW, hkb⟩ := H.out
  have r2 := s2.fr _ _ _ (by decide) (by decide) (by
    rintro rfl
    rw [hkb] at r1; injection r1 with r1; injection r1 with _ r1; exact absurd r1 (by decide)) r1
  have z0 : w2.cell? ⟨R, 0, none⟩ = some (.int .i64 0) := by simp [World.cell?, r2]
  have z1 : w2.cell? ⟨R, 1, none⟩ = some (.int .i64 0) := by simp [World.cell?, r2]
  have z2 : w2.cell? ⟨R, 2, none⟩ = some (.int .i64 0) := by simp [World.cell?, r2]
  have z3 : w2.cell? ⟨R, 3, none⟩ = some (.int .i64 0) := by simp [World.cell?, r2]
  have f0 : w2.frozen? ⟨R, 0, none⟩ = false := by simp [World.frozen?, r2]
  have f1 : w2.frozen? ⟨R, 1, none⟩ = false := by simp [World.frozen?, r2]
  have f2 : w2.frozen? ⟨R, 2, none⟩ = false := by simp [World.frozen?, r2]
  have f3 : w2.frozen? ⟨R, 3, none⟩ = false := by simp [World.frozen?, r2]
  have H2 := hid (And.intro h2 (And.intro (s1.trans s2) (And.intro r2 hW)))
  clear h2 s2 r2 s1 r1 hW hkb H
  go_wp2
  obtain ⟨h2, s2, r2, hW⟩ := H2.out
  have hg := set4 (e := .int .i64 0) (f := .int .i64 0) (p := .int .i64 0) (q := .int .i64 (g.brk at' k : Nat)) r2
  refine bodyPost_ret (results_cell_row (by rfl) _ _ R 56 _ (0, 0) _ (by rfl) hg Yba.underlying56 rfl (by kernel_rfl)) rfl ⟨rfl, sv2, ?_, ?_⟩
  · exact h2.set4 r2 hW ok _ _ _ _
  · exact (((s2.setNew (hR ▸ hW) (by omega) 0 _).setNew (hR ▸ hW) (by omega) 1 _).setNew (hR ▸ hW) (by omega) 2 _).setNew (hR ▸ hW) (by omega) 3 _
end Go.Proofs.Ybulkbwqo
