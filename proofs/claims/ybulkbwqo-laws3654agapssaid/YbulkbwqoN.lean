/- DERIVED. The law's own Gaps. -/
import Derived.Test.YbulkbwqoK
import Derived.Test.YbulkbwqoH
namespace Go.Proofs.Ybulkbwqo
open Go.RowKit

/-- Where the law's Gaps keep their state. -/
structure GB where
  Ob : Nat
  Eb : Nat
  Tb : Nat
  Kb : Nat
  Sv : Nat
  W0 : Nat
  ob : Nat
  X1 : Option Addr
  eb : List UInt8
  c1 : Nat
  X2 : Option Addr
  sb : List UInt8
  c2 : Nat
def GB.fn (g : GB) : Value := .func (.func 12) #[] #[.pointer (some ⟨g.Sv, 0, none⟩), .pointer (some ⟨g.Eb, 0, none⟩), .pointer (some ⟨g.Kb, 0, none⟩), .pointer (some ⟨g.Tb, 0, none⟩), .pointer (some ⟨g.Ob, 0, none⟩)]

structure GS (g : GB) (B : Nat) (sv : Value) (k : Nat) (sl : List Value) (w : World) : Prop where
  ob : w.heap[g.Ob]? = some (.cells #[.int .u8 g.ob] 5)
  eb : w.heap[g.Eb]? = some (.cells #[.slice g.X1 g.eb.length g.c1] 22)
  tb : w.heap[g.Tb]? = some (.cells #[.slice g.X2 g.sb.length g.c2] 22)
  kb : w.heap[g.Kb]? = some (.cells #[.int .i64 k] 3)
  svb : w.heap[g.Sv]? = some (.cells #[sv] 42)
  sown : w.ownsRow g.W0 50 1 sv sl.length sl
  e1 : Bytes g.X1 g.eb w
  e2 : Bytes g.X2 g.sb w
  lO : g.Ob < B
  lE : g.Eb < B
  lT : g.Tb < B
  lK : g.Kb < B
  lS : g.Sv < B
  l1 : ∀ j, j < g.eb.length → ∀ b off, g.X1 = some ⟨b, off, none⟩ → b < B
  l2 : ∀ j, j < g.sb.length → ∀ b off, g.X2 = some ⟨b, off, none⟩ → b < B
  w0 : g.W0 ≤ B
  obb : g.ob ≤ 255

theorem GS.stp {g : GB} {B : Nat} {sv : Value} {k : Nat} {sl : List Value} {w w' : World} {ts : List TypeId} (h : GS g B sv k sl w) (hs : Stp B ts w w') (ht : 50 ∉ ts) : GS g B sv k sl w' := by
  refine ⟨(hs.bel.block _ h.lO).trans h.ob, (hs.bel.block _ h.lE).trans h.eb, (hs.bel.block _ h.lT).trans h.tb, (hs.bel.block _ h.lK).trans h.kb, (hs.bel.block _ h.lS).trans h.svb, owns_stp h.sown hs ht, fun j hj => ?_, fun j hj => ?_, h.lO, h.lE, h.lT, h.lK, h.lS, h.l1, h.l2, h.w0, h.obb⟩
  · obtain ⟨b, off, h1, h2, h3⟩ := h.e1 j hj
    exact ⟨b, off, h1, Nat.lt_of_lt_of_le h2 hs.bel.size, by rw [hs.bel.cell (p := ⟨b, off + j, none⟩) (h.l1 j hj b off h1)]; exact h3⟩
  · obtain ⟨b, off, h1, h2, h3⟩ := h.e2 j hj
    exact ⟨b, off, h1, Nat.lt_of_lt_of_le h2 hs.bel.size, by rw [hs.bel.cell (p := ⟨b, off + j, none⟩) (h.l2 j hj b off h1)]; exact h3⟩

/-- What the Gaps turn: the count, the seams; nothing else. -/
structure StG (g : GB) (w w' : World) : Prop where
  bel : Below g.W0 w w'
  fr : ∀ (k : Nat) (c : Array Value) (t : TypeId), t ≠ 42 → t ≠ 50 → k ≠ g.Kb → w.heap[k]? = some (.cells c t) → w'.heap[k]? = some (.cells c t)
theorem StG.refl (g : GB) (w : World) : StG g w w := ⟨Below.refl _ _, fun _ _ _ _ _ _ h => h⟩
theorem StG.trans {g : GB} {a b c : World} (h : StG g a b) (k : StG g b c) : StG g a c := ⟨h.bel.trans k.bel, fun i d t h1 h2 h3 hh => k.fr i d t h1 h2 h3 (h.fr i d t h1 h2 h3 hh)⟩
theorem StG.ofBelow {g : GB} {a b : World} (h : Below a.heap.size a b) (hW : g.W0 ≤ a.heap.size) : StG g a b := ⟨h.mono hW, fun i _ _ _ _ _ hh => (h.block i (lt_of_some hh)).trans hh⟩

theorem Run.stg {g : GB} {B Bb Lb Pb Ib wd : Nat} {gf v lg : Value} {l : List UInt8} {k : Nat} {X : Option Addr} {n cap : Nat} {w w' : World} (h : Run B Bb Lb Pb Ib wd gf v lg l k X n cap w) (hs : StG g w w') (hK : g.Kb < B) (hP : Pb ≠ g.Kb) (hI : Ib ≠ g.Kb) : Run B Bb Lb Pb Ib wd gf v lg l k X n cap w' := by
  have hBb := h.buf.hB
  have hL := h.hL
  refine ⟨⟨hs.fr _ _ _ (by decide) (by decide) (by omega) h.buf.blk, owns_moved h.buf.own fun b hb => ?_, hBb⟩, hs.fr _ _ _ (by decide) (by decide) (by omega) h.log, owns_moved h.lown fun b hb => ?_, hs.fr _ _ _ (by decide) (by decide) hP h.ptr, hs.fr _ _ _ (by decide) (by decide) hI h.its, hL⟩
  · obtain ⟨h1, c, hc⟩ := owns_row h.buf.own hb
    rw [hs.fr _ _ _ (by decide) (by decide) (by omega) hc, hc]
  · obtain ⟨h1, c, hc⟩ := owns_row h.lown hb
    rw [hs.fr _ _ _ (by decide) (by decide) (by omega) hc, hc]

/-- One seam more. -/
theorem app_seam1 (B : Nat) (v : Value) (sl : List Value) (a : Nat) (w : World) (hB : B ≤ w.heap.size) (ho : w.ownsRow B 50 1 v sl.length sl) (hl : sl.length ≤ 10000) :
    ∃ v' w', (Builtin.append_ #[42, 42] 42 #[v, .slice (some ⟨w.heap.size, 0, none⟩) 1 1]).run Yba.prog (w.alloc (.cells #[.int .u8 a] 50)) = .ok v' w' ∧ w'.ownsRow B 50 1 v' (sl ++ [Value.int .u8 a]).length (sl ++ [Value.int .u8 a]) ∧ Stp B [50] w w' := by
  obtain ⟨i5, hi5, hz5, hs5, hb5⟩ := info_parts info50
  have ho1 : (w.alloc (.cells #[.int .u8 a] 50)).ownsRow B 50 1 v sl.length sl := owns_moved ho fun g hg => by
    obtain ⟨_, c, hc⟩ := owns_row ho hg
    exact hp_alloc_lt (lt_of_some hc)
  obtain ⟨v', w', hr, ho', hg, _, _⟩ := run_append_own_at (P := Yba.prog) (w.alloc (.cells #[.int .u8 a] 50)) B 42 42 50 i5 _ 1 1 Yba.underlying42 hi5 hz5 hs5 hb5 rfl (by omega) v sl.length sl ho1 ⟨w.heap.size, 0, none⟩ 1 1 [.int .u8 a] rfl
    (World.news_of_block (cs := #[.int .u8 a]) (t := 50) (fr := (0, 0)) (heap_alloc_new w _)) (by simp [Value.oneCell']) (by unfold maxLen; omega) (by omega) (by simp; omega)
  exact ⟨v', w', hr, by rw [List.length_append]; exact ho', grown_stp ((Stp.refl B [50] w).alloc hB _) hB ho1 (by simp) hg⟩

/-- The line breaks that the Gaps give. -/
def GB.brk (g : GB) (at' k : Nat) : Nat := if at' = 1 then bk g.eb k else if at' = 2 then bk g.sb k else g.ob % 3
theorem GB.brk_le (g : GB) (at' k : Nat) : g.brk at' k ≤ 2 := by
  have := bk_le g.eb k
  have := bk_le g.sb k
  unfold GB.brk
  split
  · assumption
  · split
    · assumption
    · omega

theorem cells1_set {w : World} {b : Nat} {u v : Value} {t : TypeId} (h : w.heap[b]? = some (.cells #[u] t)) : (w.setCell ⟨b, 0, none⟩ v).heap[b]? = some (.cells #[v] t) := by
  simp only [World.setCell, Array.getElem?_modify, if_true, h, Option.map_some, Option.isSome_none, Bool.false_eq_true, if_false]
  rfl

/-- The state after one seam is told. -/
theorem GS.seam {g : GB} {B : Nat} {sv : Value} {k : Nat} {sl : List Value} {w w' : World} (h : GS g B sv k sl w) (hs : Stp g.W0 [50] w w') {sv' : Value} {sl' : List Value} (ho : w'.ownsRow g.W0 50 1 sv' sl'.length sl') (hd : g.W0 ≤ g.Sv ∧ g.W0 ≤ g.Kb ∧ g.W0 ≤ g.Ob ∧ g.W0 ≤ g.Eb ∧ g.W0 ≤ g.Tb)
    (h1 : ∀ j, j < g.eb.length → ∀ b off, g.X1 = some ⟨b, off, none⟩ → b < g.W0) (h2 : ∀ j, j < g.sb.length → ∀ b off, g.X2 = some ⟨b, off, none⟩ → b < g.W0) :
    GS g B sv' k sl' (w'.setCell ⟨g.Sv, 0, none⟩ sv') ∧ StG g w (w'.setCell ⟨g.Sv, 0, none⟩ sv') := by
  have c1 := hs.fr _ _ _ (by decide) h.ob
  have c2 := hs.fr _ _ _ (by decide) h.eb
  have c3 := hs.fr _ _ _ (by decide) h.tb
  have c4 := hs.fr _ _ _ (by decide) h.kb
  have c5 := hs.fr _ _ _ (by decide) h.svb
  have ne : ∀ {b : Nat} {c : Array Value} {t : TypeId}, t ≠ 42 → w'.heap[b]? = some (.cells c t) → b ≠ g.Sv := fun ht hb e => by
    rw [e, c5] at hb; injection hb with hb; injection hb with _ hb; exact ht hb.symm
  have kp : ∀ {b : Nat} {c : Array Value} {t : TypeId}, t ≠ 42 → w'.heap[b]? = some (.cells c t) → (w'.setCell ⟨g.Sv, 0, none⟩ sv').heap[b]? = some (.cells c t) := fun ht hb => (Below.heap_setCell _ _ _ _ (ne ht hb)).trans hb
  have hb' : Below g.W0 w (w'.setCell ⟨g.Sv, 0, none⟩ sv') := hs.bel.setCell (p := ⟨g.Sv, 0, none⟩) hd.1 _
  refine ⟨⟨kp (by decide) c1, kp (by decide) c2, kp (by decide) c3, kp (by decide) c4, cells1_set c5, owns_moved ho fun b hb => ?_, fun j hj => ?_, fun j hj => ?_, h.lO, h.lE, h.lT, h.lK, h.lS, h.l1, h.l2, h.w0, h.obb⟩, ⟨hb', fun i d t t1 t2 _ hh => kp t1 (hs.fr i d t (by simp [t2]) hh)⟩⟩
  · obtain ⟨_, c, hc⟩ := owns_row ho hb
    rw [kp (by decide) hc, hc]
  · obtain ⟨b, off, e1, e2, e3⟩ := h.e1 j hj
    exact ⟨b, off, e1, Nat.lt_of_lt_of_le e2 hb'.size, by rw [hb'.cell (p := ⟨b, off + j, none⟩) (h1 j hj b off e1)]; exact e3⟩
  · obtain ⟨b, off, e1, e2, e3⟩ := h.e2 j hj
    exact ⟨b, off, e1, Nat.lt_of_lt_of_le e2 hb'.size, by rw [hb'.cell (p := ⟨b, off + j, none⟩) (h2 j hj b off e1)]; exact e3⟩
/-- .. and one more item counted. -/
theorem GS.count {g : GB} {B : Nat} {sv : Value} {k : Nat} {sl : List Value} {w : World} (h : GS g B sv k sl w) (hd : g.W0 ≤ g.Kb) (k' : Nat)
    (h1 : ∀ j, j < g.eb.length → ∀ b off, g.X1 = some ⟨b, off, none⟩ → b < g.W0) (h2 : ∀ j, j < g.sb.length → ∀ b off, g.X2 = some ⟨b, off, none⟩ → b < g.W0)
    (hr : ∀ b, sv.ownBlock = some b → b ≠ g.Kb) : GS g B sv k' sl (w.setCell ⟨g.Kb, 0, none⟩ (.int .i64 k')) ∧ StG g w (w.setCell ⟨g.Kb, 0, none⟩ (.int .i64 k')) := by
  have ne : ∀ {b : Nat} {c : Array Value} {t : TypeId}, t ≠ 3 → w.heap[b]? = some (.cells c t) → b ≠ g.Kb := fun ht hb e => by
    rw [e, h.kb] at hb; injection hb with hb; injection hb with _ hb; exact ht hb.symm
  have kp : ∀ {b : Nat} {c : Array Value} {t : TypeId}, t ≠ 3 → w.heap[b]? = some (.cells c t) → (w.setCell ⟨g.Kb, 0, none⟩ (.int .i64 k')).heap[b]? = some (.cells c t) := fun ht hb => (Below.heap_setCell _ _ _ _ (ne ht hb)).trans hb
  have hb' : Below g.W0 w (w.setCell ⟨g.Kb, 0, none⟩ (.int .i64 k')) := (Below.refl _ _).setCell (p := ⟨g.Kb, 0, none⟩) hd _
  refine ⟨⟨kp (by decide) h.ob, kp (by decide) h.eb, kp (by decide) h.tb, cells1_set h.kb, kp (by decide) h.svb, owns_moved h.sown fun b hb => Below.heap_setCell _ _ _ _ (hr b hb), fun j hj => ?_, fun j hj => ?_, h.lO, h.lE, h.lT, h.lK, h.lS, h.l1, h.l2, h.w0, h.obb⟩, ⟨hb', fun i d t _ _ t3 hh => (Below.heap_setCell _ _ _ _ t3).trans hh⟩⟩
  · obtain ⟨b, off, e1, e2, e3⟩ := h.e1 j hj
    exact ⟨b, off, e1, Nat.lt_of_lt_of_le e2 hb'.size, by rw [hb'.cell (p := ⟨b, off + j, none⟩) (h1 j hj b off e1)]; exact e3⟩
  · obtain ⟨b, off, e1, e2, e3⟩ := h.e2 j hj
    exact ⟨b, off, e1, Nat.lt_of_lt_of_le e2 hb'.size, by rw [hb'.cell (p := ⟨b, off + j, none⟩) (h2 j hj b off e1)]; exact e3⟩
end Go.Proofs.Ybulkbwqo
