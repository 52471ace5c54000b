/- DERIVED. The closure that gives the law's gaps. -/
import Derived.Test.YbulkbwqoN
namespace Go.Proofs.Ybulkbwqo
open Go.RowKit

section
variable {g : GB} {B : Nat} {sv : Value} {k : Nat} {sl : List Value} {a w w' : World}
theorem StG.setNew (h : StG g a w) (hW : g.W0 ≤ a.heap.size) {R : Nat} (hR : a.heap.size ≤ R) (o : Nat) (v : Value) : StG g a (w.setCell ⟨R, o, none⟩ v) :=
  ⟨h.bel.setCell (p := ⟨R, o, none⟩) (Nat.le_trans hW hR) v, fun i d t t1 t2 t3 hh => (Below.heap_setCell _ _ _ _ (by have := lt_of_some hh; show i ≠ R; omega)).trans (h.fr i d t t1 t2 t3 hh)⟩
theorem StG.alloc (h : StG g a w) (hW : g.W0 ≤ a.heap.size) (o : Obj) : StG g a (w.alloc o) :=
  ⟨h.bel.alloc (Nat.le_trans hW h.bel.size) o, fun i d t t1 t2 t3 hh => (hp_alloc_lt (lt_of_some (h.fr i d t t1 t2 t3 hh))).trans (h.fr i d t t1 t2 t3 hh)⟩
theorem GS.same (h : GS g B sv k sl w) (e : ∀ (b : Nat) (c : Array Value) (t : TypeId), t ≠ 56 → w.heap[b]? = some (.cells c t) → w'.heap[b]? = some (.cells c t)) (hb : Below g.W0 w w')
    (h1 : ∀ j, j < g.eb.length → ∀ b off, g.X1 = some ⟨b, off, none⟩ → b < g.W0) (h2 : ∀ j, j < g.sb.length → ∀ b off, g.X2 = some ⟨b, off, none⟩ → b < g.W0) : GS g B sv k sl w' := by
  refine ⟨e _ _ _ (by decide) h.ob, e _ _ _ (by decide) h.eb, e _ _ _ (by decide) h.tb, e _ _ _ (by decide) h.kb, e _ _ _ (by decide) h.svb, owns_moved h.sown fun b hb => ?_, fun j hj => ?_, fun j hj => ?_, h.lO, h.lE, h.lT, h.lK, h.lS, h.l1, h.l2, h.w0, h.obb⟩
  · obtain ⟨_, c, hc⟩ := owns_row h.sown hb
    rw [e _ _ _ (by decide) hc, hc]
  · obtain ⟨b, off, e1, e2, e3⟩ := h.e1 j hj
    exact ⟨b, off, e1, Nat.lt_of_lt_of_le e2 hb.size, by rw [hb.cell (p := ⟨b, off + j, none⟩) (h1 j hj b off e1)]; exact e3⟩
  · obtain ⟨b, off, e1, e2, e3⟩ := h.e2 j hj
    exact ⟨b, off, e1, Nat.lt_of_lt_of_le e2 hb.size, by rw [hb.cell (p := ⟨b, off + j, none⟩) (h2 j hj b off e1)]; exact e3⟩
theorem GS.set56 (h : GS g B sv k sl w) {R : Nat} {c : Array Value} (hR : w.heap[R]? = some (.cells c 56)) (hW : g.W0 ≤ R)
    (h1 : ∀ j, j < g.eb.length → ∀ b off, g.X1 = some ⟨b, off, none⟩ → b < g.W0) (h2 : ∀ j, j < g.sb.length → ∀ b off, g.X2 = some ⟨b, off, none⟩ → b < g.W0) (o : Nat) (v : Value) : GS g B sv k sl (w.setCell ⟨R, o, none⟩ v) :=
  h.same (fun b d t ht hb => (Below.heap_setCell _ _ _ _ (by
    rintro rfl
    rw [hR] at hb; injection hb with hb; injection hb with _ hb; exact ht hb.symm)).trans hb) ((Below.refl _ _).setCell (p := ⟨R, o, none⟩) hW v) h1 h2
theorem GS.alloc (h : GS g B sv k sl w) (hW : g.W0 ≤ w.heap.size) (o : Obj)
    (h1 : ∀ j, j < g.eb.length → ∀ b off, g.X1 = some ⟨b, off, none⟩ → b < g.W0) (h2 : ∀ j, j < g.sb.length → ∀ b off, g.X2 = some ⟨b, off, none⟩ → b < g.W0) : GS g B sv k sl (w.alloc o) :=
  h.same (fun _ _ _ _ hb => (hp_alloc_lt (lt_of_some hb)).trans hb) ((Below.refl _ _).alloc hW o) h1 h2
end

/-- What never turns of where the Gaps keep their state. -/
structure GOk (g : GB) : Prop where
  d : g.W0 ≤ g.Sv ∧ g.W0 ≤ g.Kb ∧ g.W0 ≤ g.Ob ∧ g.W0 ≤ g.Eb ∧ g.W0 ≤ g.Tb
  h1 : ∀ j, j < g.eb.length → ∀ b off, g.X1 = some ⟨b, off, none⟩ → b < g.W0
  h2 : ∀ j, j < g.sb.length → ∀ b off, g.X2 = some ⟨b, off, none⟩ → b < g.W0

theorem set4 {w : World} {R : Nat} {a b c d : Value} {e f p q : Value} (h : w.heap[R]? = some (.cells #[a, b, c, d] 56)) :
    ((((w.setCell ⟨R, 0, none⟩ e).setCell ⟨R, 1, none⟩ f).setCell ⟨R, 2, none⟩ p).setCell ⟨R, 3, none⟩ q).heap[R]? = some (.cells #[e, f, p, q] 56) := by
  simp [World.setCell, Array.getElem?_modify, h]

theorem GS.set4 {g : GB} {B : Nat} {sv : Value} {k : Nat} {sl : List Value} {w : World} (h : GS g B sv k sl w) {R : Nat} {c : Array Value} (hR : w.heap[R]? = some (.cells c 56)) (hW : g.W0 ≤ R) (ok : GOk g) (e f p q : Value) :
    GS g B sv k sl ((((w.setCell ⟨R, 0, none⟩ e).setCell ⟨R, 1, none⟩ f).setCell ⟨R, 2, none⟩ p).setCell ⟨R, 3, none⟩ q) :=
  h.same (fun b d t ht hb => by
    have hne : b ≠ R := by
      rintro rfl
      rw [hR] at hb; injection hb with hb; injection hb with _ hb; exact ht hb.symm
    rw [Below.heap_setCell _ _ _ _ hne, Below.heap_setCell _ _ _ _ hne, Below.heap_setCell _ _ _ _ hne, Below.heap_setCell _ _ _ _ hne]
    exact hb) (((((Below.refl _ _).setCell (p := ⟨R, 0, none⟩) hW _).setCell (p := ⟨R, 1, none⟩) hW _).setCell (p := ⟨R, 2, none⟩) hW _).setCell (p := ⟨R, 3, none⟩) hW _) ok.h1 ok.h2

set_option maxRecDepth 100000 in
set_option maxHeartbeats 4000000 in
theorem gaps_ended (g : GB) (ok : GOk g) (B : Nat) (sv : Value) (k : Nat) (sl : List Value) (w : World) (h : GS g B sv k sl w) (hB : B ≤ w.heap.size) (hk : k ≤ 900) (hsl : sl.length ≤ 5000) :
    Calls Yba.prog 12 #[.int .u8 1, .pointer (some ⟨g.Sv, 0, none⟩), .pointer (some ⟨g.Eb, 0, none⟩), .pointer (some ⟨g.Kb, 0, none⟩), .pointer (some ⟨g.Tb, 0, none⟩), .pointer (some ⟨g.Ob, 0, none⟩)] w
      fun e w' => e = .returned (.agg #[.int .i64 0, .int .i64 0, .int .i64 0, .int .i64 (bk g.eb k : Nat)]) ∧ ∃ sv', GS g B sv' k (sl ++ [.int .u8 (1 : Nat)]) w' ∧ StG g w w' := by
  have hW : g.W0 ≤ w.heap.size := Nat.le_trans h.w0 hB
  have r1 : (w.alloc (.cells #[.int .i64 0, .int .i64 0, .int .i64 0, .int .i64 0] 56)).heap[w.heap.size]? = some (.cells #[.int .i64 0, .int .i64 0, .int .i64 0, .int .i64 0] 56) := heap_alloc_new w _
  have h1 := h.alloc hW (.cells #[.int .i64 0, .int .i64 0, .int .i64 0, .int .i64 0] 56) ok.h1 ok.h2
  have s1 := (StG.refl g w).alloc hW (.cells #[.int .i64 0, .int .i64 0, .int .i64 0, .int .i64 0] 56)
  generalize hw1 : w.alloc (.cells #[.int .i64 0, .int .i64 0, .int .i64 0, .int .i64 0] 56) = w1 at *
  generalize hR : w.heap.size = R at *
  obtain ⟨sv2, w2, hr2, os2, S2⟩ := app_seam1 g.W0 sv sl 1 w1 (by have := lt_of_some r1; omega) h1.sown (by omega)
  obtain ⟨x2, m2, q2, rfl⟩ := owns_slice os2
  have r2 := S2.fr _ _ _ (by decide) r1
  obtain ⟨h3, s3⟩ := h1.seam S2 os2 ok.d ok.h1 ok.h2
  have v1 := h1.svb
  have v2 := S2.fr _ _ _ (by decide) h1.svb
  have r3 := s3.fr _ _ _ (by decide) (by decide) (by
    rintro rfl
    rw [h1.kb] at r1; injection r1 with r1; injection r1 with _ r1; exact absurd r1 (by decide)) r1
  have c1 : w1.cell? ⟨g.Sv, 0, none⟩ = some sv := by simp [World.cell?, v1]
  have c2 : w2.cell? ⟨g.Sv, 0, none⟩ = some sv := by simp [World.cell?, v2]
  have f2 : w2.frozen? ⟨g.Sv, 0, none⟩ = false := by simp [World.frozen?, v2]
  generalize hw3 : w2.setCell ⟨g.Sv, 0, none⟩ (.slice x2 m2 q2) = w3 at *
  have e3 : w3.cell? ⟨g.Eb, 0, none⟩ = some (.slice g.X1 g.eb.length g.c1) := by simp [World.cell?, h3.eb]
  have k3 : w3.cell? ⟨g.Kb, 0, none⟩ = some (.int .i64 k) := by simp [World.cell?, h3.kb]
  have z0 : w3.cell? ⟨R, 0, none⟩ = some (.int .i64 0) := by simp [World.cell?, r3]
  have z1 : w3.cell? ⟨R, 1, none⟩ = some (.int .i64 0) := by simp [World.cell?, r3]
  have z2 : w3.cell? ⟨R, 2, none⟩ = some (.int .i64 0) := by simp [World.cell?, r3]
  have z3 : w3.cell? ⟨R, 3, none⟩ = some (.int .i64 0) := by simp [World.cell?, r3]
  have f0 : w3.frozen? ⟨R, 0, none⟩ = false := by simp [World.frozen?, r3]
  have f1 : w3.frozen? ⟨R, 1, none⟩ = false := by simp [World.frozen?, r3]
  have f2' : w3.frozen? ⟨R, 2, none⟩ = false := by simp [World.frozen?, r3]
  have f3 : w3.frozen? ⟨R, 3, none⟩ = false := by simp [World.frozen?, r3]
  have hbrk := brk_any g.X1 g.eb g.c1 k w3 (by omega) h3.e1
  have H := hid (And.intro h3 (And.intro (s1.trans s3) (And.intro r3 (And.intro hbrk hW))))
  clear h3 s3 r3 hbrk h1 s1 S2 os2 r2 v1 v2 r1 h
  go_enter Yba.func12, Yba.ntmps12
  go_wp2_with (at_builtin; refine wpList_append_run (by rfl) _ _ 42 42 (by rfl) sv _ _ w2 (by rfl) (by rfl) hr2 ?_)
  refine H.out.2.2.2.1.mono ?_
  rintro e wx ⟨rfl, rfl⟩
  go_wp2
  obtain ⟨h3, s3, r3, -, hW⟩ := H.out
  have hg := set4 (e := .int .i64 0) (f := .int .i64 0) (p := .int .i64 0) (q := .int .i64 (bk g.eb k : Nat)) r3
  refine bodyPost_ret (results_cell_row (by rfl) _ _ R 56 _ (0, 0) _ (by rfl) hg Yba.underlying56 rfl (by kernel_rfl)) rfl ⟨rfl, .slice x2 m2 q2, ?_, ?_⟩
  · exact h3.set4 r3 hW ok _ _ _ _
  · exact (((s3.setNew (hR ▸ hW) (by omega) 0 _).setNew (hR ▸ hW) (by omega) 1 _).setNew (hR ▸ hW) (by omega) 2 _).setNew (hR ▸ hW) (by omega) 3 _
set_option maxRecDepth 100000 in
set_option maxHeartbeats 4000000 in
theorem gaps_opened (g : GB) (ok : GOk g) (B : Nat) (sv : Value) (k : Nat) (sl : List Value) (w : World) (h : GS g B sv k sl w) (hB : B ≤ w.heap.size) (hsl : sl.length ≤ 5000) :
    Calls Yba.prog 12 #[.int .u8 0, .pointer (some ⟨g.Sv, 0, none⟩), .pointer (some ⟨g.Eb, 0, none⟩), .pointer (some ⟨g.Kb, 0, none⟩), .pointer (some ⟨g.Tb, 0, none⟩), .pointer (some ⟨g.Ob, 0, none⟩)] w
      fun e w' => e = .returned (.agg #[.int .i64 0, .int .i64 0, .int .i64 0, .int .i64 (g.ob % 3 : Nat)]) ∧ ∃ sv', GS g B sv' k (sl ++ [.int .u8 (0 : Nat)]) w' ∧ StG g w w' := by
  have hW : g.W0 ≤ w.heap.size := Nat.le_trans h.w0 hB
  have r1 : (w.alloc (.cells #[.int .i64 0, .int .i64 0, .int .i64 0, .int .i64 0] 56)).heap[w.heap.size]? = some (.cells #[.int .i64 0, .int .i64 0, .int .i64 0, .int .i64 0] 56) := heap_alloc_new w _
  have h1 := h.alloc hW (.cells #[.int .i64 0, .int .i64 0, .int .i64 0, .int .i64 0] 56) ok.h1 ok.h2
  have s1 := (StG.refl g w).alloc hW (.cells #[.int .i64 0, .int .i64 0, .int .i64 0, .int .i64 0] 56)
  generalize hw1 : w.alloc (.cells #[.int .i64 0, .int .i64 0, .int .i64 0, .int .i64 0] 56) = w1 at *
  generalize hR : w.heap.size = R at *
  obtain ⟨sv2, w2, hr2, os2, S2⟩ := app_seam1 g.W0 sv sl 0 w1 (by have := lt_of_some r1; omega) h1.sown (by omega)
  obtain ⟨x2, m2, q2, rfl⟩ := owns_slice os2
  have r2 := S2.fr _ _ _ (by decide) r1
  obtain ⟨h3, s3⟩ := h1.seam S2 os2 ok.d ok.h1 ok.h2
  have v1 := h1.svb
  have v2 := S2.fr _ _ _ (by decide) h1.svb
  have r3 := s3.fr _ _ _ (by decide) (by decide) (by
    rintro rfl
    rw [h1.kb] at r1; injection r1 with r1; injection r1 with _ r1; exact absurd r1 (by decide)) r1
  have c1 : w1.cell? ⟨g.Sv, 0, none⟩ = some sv := by simp [World.cell?, v1]
  have c2 : w2.cell? ⟨g.Sv, 0, none⟩ = some sv := by simp [World.cell?, v2]
  have f2 : w2.frozen? ⟨g.Sv, 0, none⟩ = false := by simp [World.frozen?, v2]
  generalize hw3 : w2.setCell ⟨g.Sv, 0, none⟩ (.slice x2 m2 q2) = w3 at *
  have o3 : w3.cell? ⟨g.Ob, 0, none⟩ = some (.int .u8 g.ob) := by simp [World.cell?, h3.ob]
  have hob := h3.obb
  have m1 : (g.ob : Int) % 3 = ((g.ob % 3 : Nat) : Int) := by omega
  have m2' : (g.ob : Int).tmod 3 = ((g.ob % 3 : Nat) : Int) := by rw [Int.tmod_eq_emod_of_nonneg (by omega)]; exact m1
  obtain ⟨y, hy⟩ : ∃ y, g.ob % 3 = y := ⟨_, rfl⟩
  have hy3 : y < 3 := by omega
  rw [hy] at m1 m2' ⊢
  have z0 : w3.cell? ⟨R, 0, none⟩ = some (.int .i64 0) := by simp [World.cell?, r3]
  have z1 : w3.cell? ⟨R, 1, none⟩ = some (.int .i64 0) := by simp [World.cell?, r3]
  have z2 : w3.cell? ⟨R, 2, none⟩ = some (.int .i64 0) := by simp [World.cell?, r3]
  have z3 : w3.cell? ⟨R, 3, none⟩ = some (.int .i64 0) := by simp [World.cell?, r3]
  have f0 : w3.frozen? ⟨R, 0, none⟩ = false := by simp [World.frozen?, r3]
  have f1 : w3.frozen? ⟨R, 1, none⟩ = false := by simp [World.frozen?, r3]
  have f2' : w3.frozen? ⟨R, 2, none⟩ = false := by simp [World.frozen?, r3]
  have f3 : w3.frozen? ⟨R, 3, none⟩ = false := by simp [World.frozen?, r3]
  have H := hid (And.intro h3 (And.intro (s1.trans s3) (And.intro r3 hW)))
  clear h3 s3 r3 h1 s1 S2 os2 r2 v1 v2 r1 h
  go_enter Yba.func12, Yba.ntmps12
  go_wp2_with (at_builtin; refine wpList_append_run (by rfl) _ _ 42 42 (by rfl) sv _ _ w2 (by rfl) (by rfl) hr2 ?_)
  obtain ⟨h3, s3, r3, hW⟩ := H.out
  have hg := set4 (e := .int .i64 0) (f := .int .i64 0) (p := .int .i64 0) (q := .int .i64 (y : Nat)) r3
  refine bodyPost_ret (results_cell_row (by rfl) _ _ R 56 _ (0, 0) _ (by rfl) hg Yba.underlying56 rfl (by kernel_rfl)) rfl ⟨rfl, .slice x2 m2 q2, ?_, ?_⟩
  · exact h3.set4 r3 hW ok _ _ _ _
  · exact (((s3.setNew (hR ▸ hW) (by omega) 0 _).setNew (hR ▸ hW) (by omega) 1 _).setNew (hR ▸ hW) (by omega) 2 _).setNew (hR ▸ hW) (by omega) 3 _
set_option maxRecDepth 100000 in
set_option maxHeartbeats 4000000 in
theorem gaps_separated (g : GB) (ok : GOk g) (B : Nat) (sv : Value) (k : Nat) (sl : List Value) (w : World) (h : GS g B sv k sl w) (hB : B ≤ w.heap.size) (hk : k ≤ 900) (hsl : sl.length ≤ 5000) :
    Calls Yba.prog 12 #[.int .u8 2, .pointer (some ⟨g.Sv, 0, none⟩), .pointer (some ⟨g.Eb, 0, none⟩), .pointer (some ⟨g.Kb, 0, none⟩), .pointer (some ⟨g.Tb, 0, none⟩), .pointer (some ⟨g.Ob, 0, none⟩)] w
      fun e w' => e = .returned (.agg #[.int .i64 0, .int .i64 0, .int .i64 0, .int .i64 (bk g.sb k : Nat)]) ∧ ∃ sv', GS g B sv' (k + 1) (sl ++ [.int .u8 (2 : Nat)]) w' ∧ StG g w w' := by
  have hW : g.W0 ≤ w.heap.size := Nat.le_trans h.w0 hB
  have r1 : (w.alloc (.cells #[.int .i64 0, .int .i64 0, .int .i64 0, .int .i64 0] 56)).heap[w.heap.size]? = some (.cells #[.int .i64 0, .int .i64 0, .int .i64 0, .int .i64 0] 56) := heap_alloc_new w _
  have h1 := h.alloc hW (.cells #[.int .i64 0, .int .i64 0, .int .i64 0, .int .i64 0] 56) ok.h1 ok.h2
  have s1 := (StG.refl g w).alloc hW (.cells #[.int .i64 0, .int .i64 0, .int .i64 0, .int .i64 0] 56)
  generalize hw1 : w.alloc (.cells #[.int .i64 0, .int .i64 0, .int .i64 0, .int .i64 0] 56) = w1 at *
  generalize hR : w.heap.size = R at *
  obtain ⟨sv2, w2, hr2, os2, S2⟩ := app_seam1 g.W0 sv sl 2 w1 (by have := lt_of_some r1; omega) h1.sown (by omega)
  obtain ⟨x2, m2, q2, rfl⟩ := owns_slice os2
  have r2 := S2.fr _ _ _ (by decide) r1
  obtain ⟨h3, s3⟩ := h1.seam S2 os2 ok.d ok.h1 ok.h2
  have v1 := h1.svb
  have v2 := S2.fr _ _ _ (by decide) h1.svb
  have r3 := s3.fr _ _ _ (by decide) (by decide) (by
    rintro rfl
    rw [h1.kb] at r1; injection r1 with r1; injection r1 with _ r1; exact absurd r1 (by decide)) r1
  have c1 : w1.cell? ⟨g.Sv, 0, none⟩ = some sv := by simp [World.cell?, v1]
  have c2 : w2.cell? ⟨g.Sv, 0, none⟩ = some sv := by simp [World.cell?, v2]
  have f2 : w2.frozen? ⟨g.Sv, 0, none⟩ = false := by simp [World.frozen?, v2]
  generalize hw3 : w2.setCell ⟨g.Sv, 0, none⟩ (.slice x2 m2 q2) = w3 at *
  have e3 : w3.cell? ⟨g.Tb, 0, none⟩ = some (.slice g.X2 g.sb.length g.c2) := by simp [World.cell?, h3.tb]
  have k3 : w3.cell? ⟨g.Kb, 0, none⟩ = some (.int .i64 k) := by simp [World.cell?, h3.kb]
  have hbrk := brk_any g.X2 g.sb g.c2 k w3 (by omega) h3.e2
  have hW3 : g.W0 ≤ w3.heap.size := by have := lt_of_some r3; omega
  have y4 : (w3.alloc (.cells #[.int .i64 0, .int .i64 0, .int .i64 0, .int .i64 (bk g.sb k : Nat)] 56)).heap[w3.heap.size]? = some (.cells #[.int .i64 0, .int .i64 0, .int .i64 0, .int .i64 (bk g.sb k : Nat)] 56) := heap_alloc_new w3 _
  have h4 := h3.alloc hW3 (.cells #[.int .i64 0, .int .i64 0, .int .i64 0, .int .i64 (bk g.sb k : Nat)] 56) ok.h1 ok.h2
  have r4 : (w3.alloc (.cells #[.int .i64 0, .int .i64 0, .int .i64 0, .int .i64 (bk g.sb k : Nat)] 56)).heap[R]? = _ := (hp_alloc_lt (lt_of_some r3)).trans r3
  have s4 := (s1.trans s3).alloc (hR ▸ hW) (.cells #[.int .i64 0, .int .i64 0, .int .i64 0, .int .i64 (bk g.sb k : Nat)] 56)
  generalize hw4 : w3.alloc (.cells #[.int .i64 0, .int .i64 0, .int .i64 0, .int .i64 (bk g.sb k : Nat)] 56) = w4 at *
  generalize hY : w3.heap.size = Y at *
  have hKc : ∀ b, (Value.slice x2 m2 q2).ownBlock = some b → b ≠ g.Kb := fun b hb => by
    obtain ⟨_, c, hc⟩ := owns_row h4.sown hb
    rintro rfl
    rw [h4.kb] at hc; injection hc with hc; injection hc with _ hc; exact absurd hc (by decide)
  obtain ⟨h5, s5⟩ := h4.count ok.d.2.1 (k + 1) ok.h1 ok.h2 hKc
  have k4 : w4.cell? ⟨g.Kb, 0, none⟩ = some (.int .i64 k) := by simp [World.cell?, h4.kb]
  have kf4 : w4.frozen? ⟨g.Kb, 0, none⟩ = false := by simp [World.frozen?, h4.kb]
  have nK : ∀ {b : Nat} {c : Array Value}, w4.heap[b]? = some (.cells c 56) → b ≠ g.Kb := fun hb e => by
    rw [e, h4.kb] at hb; injection hb with hb; injection hb with _ hb; exact absurd hb (by decide)
  have y5 := s5.fr _ _ _ (by decide) (by decide) (nK y4) y4
  have r5 := s5.fr _ _ _ (by decide) (by decide) (nK r4) r4
  have s05 := s4.trans s5
  have hk1 : (((k + 1 : Nat) : Int)) = (k : Int) + 1 := by omega
  rw [hk1] at h5 y5 r5 s05
  generalize hw5 : w4.setCell ⟨g.Kb, 0, none⟩ (.int .i64 ((k : Int) + 1)) = w5 at *
  have u0 : w5.cell? ⟨Y, 0, none⟩ = some (.int .i64 0) := by simp [World.cell?, y5]
  have u1 : w5.cell? ⟨Y, 1, none⟩ = some (.int .i64 0) := by simp [World.cell?, y5]
  have u2 : w5.cell? ⟨Y, 2, none⟩ = some (.int .i64 0) := by simp [World.cell?, y5]
  have u3 : w5.cell? ⟨Y, 3, none⟩ = some (.int .i64 (bk g.sb k : Nat)) := by simp [World.cell?, y5]
  have z0 : w5.cell? ⟨R, 0, none⟩ = some (.int .i64 0) := by simp [World.cell?, r5]
  have z1 : w5.cell? ⟨R, 1, none⟩ = some (.int .i64 0) := by simp [World.cell?, r5]
  have z2 : w5.cell? ⟨R, 2, none⟩ = some (.int .i64 0) := by simp [World.cell?, r5]
  have z3 : w5.cell? ⟨R, 3, none⟩ = some (.int .i64 0) := by simp [World.cell?, r5]
  have f0 : w5.frozen? ⟨R, 0, none⟩ = false := by simp [World.frozen?, r5]
  have f1 : w5.frozen? ⟨R, 1, none⟩ = false := by simp [World.frozen?, r5]
  have f2' : w5.frozen? ⟨R, 2, none⟩ = false := by simp [World.frozen?, r5]
  have f3 : w5.frozen? ⟨R, 3, none⟩ = false := by simp [World.frozen?, r5]
  have H := hid (And.intro h5 (And.intro s05 (And.intro r5 (And.intro hbrk hW))))
  clear h3 s3 r3 hbrk h1 s1 S2 os2 r2 v1 v2 r1 h h4 h5 s4 s5 s05 y4 y5 r4 r5 hKc nK hk1
  have hbl := bk_le g.sb k
  go_enter Yba.func12, Yba.ntmps12
  go_wp2_with (at_builtin; refine wpList_append_run (by rfl) _ _ 42 42 (by rfl) sv _ _ w2 (by rfl) (by rfl) hr2 ?_)
  refine H.out.2.2.2.1.mono ?_
  rintro e wx ⟨rfl, rfl⟩
  go_wp2
  obtain ⟨h3, s3, r3, -, hW⟩ := H.out
  have hg := set4 (e := .int .i64 0) (f := .int .i64 0) (p := .int .i64 0) (q := .int .i64 (bk g.sb k : Nat)) r3
  refine bodyPost_ret (results_cell_row (by rfl) _ _ R 56 _ (0, 0) _ (by rfl) hg Yba.underlying56 rfl (by kernel_rfl)) rfl ⟨rfl, .slice x2 m2 q2, ?_, ?_⟩
  · exact h3.set4 r3 hW ok _ _ _ _
  · exact (((s3.setNew (hR ▸ hW) (by omega) 0 _).setNew (hR ▸ hW) (by omega) 1 _).setNew (hR ▸ hW) (by omega) 2 _).setNew (hR ▸ hW) (by omega) 3 _
end Go.Proofs.Ybulkbwqo
