/- DERIVED. The item's closure. -/
import Derived.Test.YbulkbwqoE
namespace Go.Proofs.Ybulkbwqo
open Go.RowKit

/-- A call by its contract, as one step of a region that draws. -/
theorem step_call {P : Program} {ops : Array Oper} {o : Oper} {a : Act} {w : World} {K : Act → World → Prop} {Q : Exit → Act → World → Prop} {E : Prop} (hg : o.guard = none) (f : FuncId) (args : Array Value) (hrun : (execOp a.eval o).run P w = .ok (.enter f args) w)
    {R : Value → World → Prop} (hc : Calls P f args w fun e w' => ∃ v, e = .returned v ∧ R v w') (h : ∀ v w', R v w' → K (a.put o.dst v) w') : if Region.wanted o (yielded ops a.tmps) = true then Oper.wp P o a w K Q else E := by
  have hw : Region.wanted o (yielded ops a.tmps) = true := by simp [Region.wanted, hg]
  rw [if_pos hw]
  unfold Oper.wp
  rw [hrun, Oper.upon_enter]
  refine hc.mono fun e w' hh => ?_
  obtain ⟨v, rfl, hR⟩ := hh
  exact h v w' hR

theorem owns_slice {w : World} {base : Nat} {e : TypeId} {v : Value} {n : Nat} {xs : List Value} (h : w.ownsRow base e 1 v n xs) : ∃ x m c, v = .slice x m c := by
  rcases h.2 with ⟨rfl, rfl⟩ | ⟨g', cap, cur, rfl, _⟩
  · exact ⟨_, _, _, rfl⟩
  · exact ⟨_, _, _, rfl⟩
/-- What the closure of 'run' holds: the log, the Buffer's variable, the items' variable. -/
structure Run (B Bb Lb Pb Ib wd : Nat) (gf v lg : Value) (l : List UInt8) (k : Nat) (X : Option Addr) (n cap : Nat) (w : World) : Prop where
  buf : Buf B Bb wd gf v l w
  log : w.heap[Lb]? = some (.cells #[lg] 38)
  lown : w.ownsRow B 3 1 lg k (upto k)
  ptr : w.heap[Pb]? = some (.cells #[.pointer (some ⟨Bb, 0, none⟩)] 26)
  its : w.heap[Ib]? = some (.cells #[.slice X n cap] 23)
  hL : B ≤ Lb

/-- Nothing that Run knows has turned but bytes and the Buffer. -/
theorem Run.put {B Bb Lb Pb Ib wd : Nat} {gf v lg : Value} {l : List UInt8} {k : Nat} {X : Option Addr} {n cap : Nat} {w w' : World} (h : Run B Bb Lb Pb Ib wd gf v lg l k X n cap w) (hs : Stp B [5] w w') {v' : Value} {l' : List UInt8} (ho : Own B w' v' l') :
    Run B Bb Lb Pb Ib wd gf v' lg l' k X n cap (w'.setCell ⟨Bb, 0, none⟩ v') ∧ Stp B [5, 37] w (w'.setCell ⟨Bb, 0, none⟩ v') := by
  obtain ⟨h1, h2⟩ := h.buf.put hs ho
  exact ⟨⟨h1, h2.fr _ _ _ (by decide) h.log, owns_stp h.lown h2 (by decide), h2.fr _ _ _ (by decide) h.ptr, h2.fr _ _ _ (by decide) h.its, h.hL⟩, h2⟩
theorem Run.below {B Bb Lb Pb Ib wd : Nat} {gf v lg : Value} {l : List UInt8} {k : Nat} {X : Option Addr} {n cap : Nat} {w w' : World} (h : Run B Bb Lb Pb Ib wd gf v lg l k X n cap w) (hb : Below w.heap.size w w') : Run B Bb Lb Pb Ib wd gf v lg l k X n cap w' :=
  ⟨h.buf.below hb, (hb.block _ (lt_of_some h.log)).trans h.log, owns_moved h.lown fun g hg => by
    obtain ⟨_, c, hc⟩ := owns_row h.lown hg
    exact hb.block g (lt_of_some hc), (hb.block _ (lt_of_some h.ptr)).trans h.ptr, (hb.block _ (lt_of_some h.its)).trans h.its, h.hL⟩

/-- One number logged. -/
theorem app_log (B : Nat) (v : Value) (k : Nat) (w : World) (hB : B ≤ w.heap.size) (ho : w.ownsRow B 3 1 v k (upto k)) (hk : k ≤ 1000) :
    ∃ v' w', (Builtin.append_ #[38, 38] 38 #[v, .slice (some ⟨w.heap.size, 0, none⟩) 1 1]).run Yba.prog (w.alloc (.cells #[.int .i64 k] 3)) = .ok v' w' ∧ w'.ownsRow B 3 1 v' (k + 1) (upto (k + 1)) ∧ Stp B [3] w w' := by
  obtain ⟨i5, hi5, hz5, hs5, hb5⟩ := info_parts info3
  have ho1 : (w.alloc (.cells #[.int .i64 k] 3)).ownsRow B 3 1 v k (upto k) := owns_moved ho fun g hg => by
    obtain ⟨_, c, hc⟩ := owns_row ho hg
    exact hp_alloc_lt (lt_of_some hc)
  obtain ⟨v', w', hr, ho', hg, _, _⟩ := run_append_own_at (P := Yba.prog) (w.alloc (.cells #[.int .i64 k] 3)) B 38 38 3 i5 _ 1 8 Yba.underlying38 hi5 hz5 hs5 hb5 rfl (by omega) v k (upto k) ho1 ⟨w.heap.size, 0, none⟩ 1 1 [.int .i64 k] rfl
    (World.news_of_block (cs := #[.int .i64 k]) (t := 3) (fr := (0, 0)) (heap_alloc_new w _)) (by simp [Value.oneCell']) (by unfold maxLen; omega) (by omega) (by simp; omega)
  exact ⟨v', w', hr, by rw [upto_succ]; exact ho', grown_stp ((Stp.refl B [3] w).alloc hB _) hB ho1 (by simp) hg⟩

set_option maxRecDepth 100000 in
set_option maxHeartbeats 4000000 in
theorem runItem_any (B Bb Lb Pb Ib wd : Nat) (gf v lg : Value) (l : List UInt8) (k : Nat) (X : Option Addr) (n cap : Nat) (S : Nat → ByteArray) (w : World) (h : Run B Bb Lb Pb Ib wd gf v lg l k X n cap w) (hk : k ≤ 600) (hl : l.length ≤ 10000000)
    (hn : n ≤ 1024) (hS : ∀ k, k < n → (S k).size ≤ 4096) (hI : ∀ w', Below B w w' → ∀ k, k < n → ∃ b off, X = some ⟨b, off, none⟩ ∧ w'.cell? ⟨b, off + k, none⟩ = some (.string (S k))) :
    Calls Yba.prog 15 #[.int .i64 k, .pointer (some ⟨Lb, 0, none⟩), .pointer (some ⟨Pb, 0, none⟩), .pointer (some ⟨Ib, 0, none⟩)] w fun e w' => e = .returned (.tuple #[]) ∧
      ∃ v' lg', Run B Bb Lb Pb Ib wd gf v' lg' (l ++ (itm n S k).data.toList) (k + 1) X n cap w' ∧ Stp B [5, 37, 3, 38] w w' := by
  have hB := h.buf.lt
  have hL := h.hL
  have hsz := itm_size hS k
  obtain ⟨lg1, w1, hr1, ol1, S1⟩ := app_log B lg k w hB h.lown (by omega)
  obtain ⟨lx, lm, lc, rfl⟩ := owns_slice ol1
  have l1 : w1.heap[Lb]? = some (.cells #[lg] 38) := S1.fr _ _ _ (by decide) h.log
  have S2 : Stp B [3, 38] w (w1.setCell ⟨Lb, 0, none⟩ (.slice lx lm lc)) := (S1.mono (Nat.le_refl _) (by simp)).setCell l1 (by decide) hL _
  have l2 : (w1.setCell ⟨Lb, 0, none⟩ (.slice lx lm lc)).heap[Lb]? = some (.cells #[.slice lx lm lc] 38) := by
    simp only [World.setCell, Array.getElem?_modify, if_true, l1, Option.map_some, Option.isSome_none, Bool.false_eq_true, if_false]
    rfl
  have ol2 : (w1.setCell ⟨Lb, 0, none⟩ (.slice lx lm lc)).ownsRow B 3 1 (.slice lx lm lc) (k + 1) (upto (k + 1)) := owns_moved ol1 fun g hg => by
    obtain ⟨_, c, hc⟩ := owns_row ol1 hg
    refine Below.heap_setCell _ _ _ _ ?_
    rintro rfl
    rw [l1] at hc; injection hc with hc; injection hc with _ hc; exact absurd hc (by decide)
  have b2 : Buf B Bb wd gf v l (w1.setCell ⟨Lb, 0, none⟩ (.slice lx lm lc)) := ⟨S2.fr _ _ _ (by decide) h.buf.blk, owns_stp h.buf.own S2 (by decide), h.buf.hB⟩
  have r2 : Run B Bb Lb Pb Ib wd gf v (.slice lx lm lc) l (k + 1) X n cap (w1.setCell ⟨Lb, 0, none⟩ (.slice lx lm lc)) := ⟨b2, l2, ol2, S2.fr _ _ _ (by decide) h.ptr, S2.fr _ _ _ (by decide) h.its, hL⟩
  have lw : w.cell? ⟨Lb, 0, none⟩ = some lg := by simp [World.cell?, h.log]
  have lw1 : w1.cell? ⟨Lb, 0, none⟩ = some lg := by simp [World.cell?, l1]
  have lf1 : w1.frozen? ⟨Lb, 0, none⟩ = false := by simp [World.frozen?, l1]
  generalize hw2 : w1.setCell ⟨Lb, 0, none⟩ (.slice lx lm lc) = w2 at *
  obtain ⟨v3, w3, hr3, o3, S3⟩ := app_str B v l (itm n S k) w2.drew r2.buf.lt r2.buf.own.drew (by omega)
  obtain ⟨vx, vm, vc, rfl⟩ := owns_slice o3
  obtain ⟨r4, S4⟩ := r2.put S3.ofDrew o3
  have hitem := item_itm X n cap S k w2.drew hn (by omega) (hI _ S2.bel.drew)
  have p2 : w2.cell? ⟨Pb, 0, none⟩ = some (.pointer (some ⟨Bb, 0, none⟩)) := by simp [World.cell?, r2.ptr]
  have q2 : w2.cell? ⟨Ib, 0, none⟩ = some (.slice X n cap) := by simp [World.cell?, r2.its]
  have c2 := r2.buf.c0
  have b3 := S3.ofDrew.fr _ _ _ (by decide) r2.buf.blk
  have c3 : w3.cell? ⟨Bb, 0, none⟩ = some v := by simp [World.cell?, b3]
  have p3 : w3.cell? ⟨Pb, 0, none⟩ = some (.pointer (some ⟨Bb, 0, none⟩)) := by simp [World.cell?, S3.ofDrew.fr _ _ _ (by decide) r2.ptr]
  have f3 : w3.frozen? ⟨Bb, 0, none⟩ = false := by simp [World.frozen?, b3]
  have H := hid (And.intro r4 (S2.mono (ts' := [5, 37, 3, 38]) (Nat.le_refl _) (by simp) |>.trans (S4.mono (Nat.le_refl _) (by simp))))
  have hitem2 : Calls Yba.prog 16 #[.slice X n cap, .int .i64 k] w2.drew fun e w' => ∃ v, e = .returned v ∧ (v = .string (itm n S k) ∧ w' = w2.drew) := hitem.mono fun e w' h => ⟨_, h.1, rfl, h.2⟩
  have HT := hid hitem2
  clear hitem2 r4 S4 S3 o3 r2 b2 ol2 l2 S2 l1 S1 ol1 h hI hitem b3
  go_enter Yba.func15, Yba.ntmps15
  go_wp2_with (at_builtin; refine wpList_append_run (by rfl) _ _ 38 38 (by rfl) lg _ _ w1 (by rfl) (by rfl) hr1 ?_)
  go_region_law (first | (refine step_append_run (by rfl) _ _ 22 9 (by rfl) v _ _ w3 (by rfl) (by rfl) hr3 ?_) | (refine step_call (by rfl) 16 _ (by first | kernel_rfl | simp [go_sem]) HT.out ?_; rintro v9 w9 ⟨rfl, rfl⟩))
  all_goals
    go_wp2
    exact bodyPost_end (results_none rfl _ _ _) rfl ⟨rfl, _, _, H.out.1, H.out.2⟩
end Go.Proofs.Ybulkbwqo
