/- DERIVED. The watch in memory; (*Watch).wake. -/
import Derived.Test.YbulkbwokM
import Derived.Deep.RegionHeld3
import Derived.WalkSpells
import Derived.WalkLawsBesides
import Derived.Deep.QuietTactic
import Derived.BigQuiet
import Derived.Deep.AppendLies
import Derived.Deep.RegionLaw
import Derived.Conc.EventLaws
import Derived.BigRegion
namespace Go.Proofs.Ybulkbwok
open Go.RowKit
attribute [local go_sem ↓] Go.wp_at_zero Go.wp_at_succ

def watF (lk atv fl : Int) (M : Nat → Nat) (G : Nat → Int) (wt : Nat) (sp : Value) (i : Nat) : Value :=
  if i = 0 then .slice none 0 0 else if i < 6 then .bool false else if i = 6 then .int .i32 lk else if i = 7 then .int .u32 0 else if i = 8 then .string ⟨#[105]⟩ else if i = 9 then .int .i64 atv else if i = 10 then .int .i64 fl
  else if i < 16 then .map (some (M (i - 11))) else if i < 21 then .int .i64 (G (i - 16)) else if i = 21 then .map (some wt) else if i = 22 then .int .i64 0 else sp

def wT (Bl : Nat → Nat → Nat) (wk : Nat → Nat → Bool) (t : Nat × Nat) : Option Value := if wk t.1 t.2 then none else some (.slice (some ⟨Bl t.1 t.2, 0, none⟩) 1 1)

structure WI (N B W wt : Nat) (M : Nat → Nat) (Bl Ch : Nat → Nat → Nat) (lk atv fl : Int) (G : Nat → Int) (sp : Value) (F : Nat → Nat → Option Int) (wk : Nat → Nat → Bool) (w : World) : Prop where
  row : w.rowIs W 49 24 (watF lk atv fl M G wt sp)
  maps : ∀ c, c < 5 → MapIs kS okS w (M c) (fun j => (F c j).map (Value.int .i64))
  wait : MapIs kT okT w wt (wT Bl wk)
  rows : ∀ c j, c < 5 → j < 4 → w.heap[Bl c j]? = some (.cells #[.chan (some (Ch c j))] 32)
  opn : ∀ c j, c < 5 → j < 4 → wk c j = false → w.heap[Ch c j]? = some (.chan 0 #[] false 0 0 false)
  chn : ∀ c j, c < 5 → j < 4 → ∃ n b cl s r t, w.heap[Ch c j]? = some (.chan n b cl s r t)
  inj : ∀ c j c' j', c < 5 → j < 4 → c' < 5 → j' < 4 → Ch c j = Ch c' j' → c = c' ∧ j = j'
  mInj : ∀ c c', c < 5 → c' < 5 → M c = M c' → c = c'
  mW : ∀ c, c < 5 → M c ≠ wt
  inW : N ≤ W ∧ W < B ∧ W ≠ N + 8
  inWt : N ≤ wt ∧ wt < B ∧ wt ≠ N + 8
  inM : ∀ c, c < 5 → N ≤ M c ∧ M c < B ∧ M c ≠ N + 8
  inBl : ∀ c j, c < 5 → j < 4 → N ≤ Bl c j ∧ Bl c j < B ∧ Bl c j ≠ N + 8
  inCh : ∀ c j, c < 5 → j < 4 → N ≤ Ch c j ∧ Ch c j < B ∧ Ch c j ≠ N + 8

structure Kept (N B : Nat) (w w' : World) : Prop where
  os : w'.os = w.os
  tape : w'.tape = w.tape
  output : w'.output = w.output
  size : w.heap.size ≤ w'.heap.size
  block : ∀ k, k < w.heap.size → ((k < N ∨ k = N + 8) ∨ B ≤ k) → w'.heap[k]? = w.heap[k]?

theorem Kept.refl (N B : Nat) (w : World) : Kept N B w w := ⟨rfl, rfl, rfl, Nat.le_refl _, fun _ _ _ => rfl⟩
theorem Kept.trans {N B : Nat} {a b c : World} (h : Kept N B a b) (k : Kept N B b c) : Kept N B a c :=
  ⟨k.os.trans h.os, k.tape.trans h.tape, k.output.trans h.output, Nat.le_trans h.size k.size, fun i hi hn => (k.block i (Nat.lt_of_lt_of_le hi h.size) hn).trans (h.block i hi hn)⟩

theorem WI.cell {N B W wt M Bl Ch lk atv fl G sp F wk} {w : World} (h : WI N B W wt M Bl Ch lk atv fl G sp F wk w) {i : Nat} (hi : i < 24) : w.cell? ⟨W, i, none⟩ = some (watF lk atv fl M G wt sp i) := h.row.cell hi


theorem hp_alloc_lt {w : World} {o : Obj} {k : Nat} (h : k < w.heap.size) : (w.alloc o).heap[k]? = w.heap[k]? := Below.heap_alloc w o k h
theorem Kept.alloc {N B : Nat} {a w : World} (h : Kept N B a w) (o : Obj) : Kept N B a (w.alloc o) :=
  h.trans ⟨rfl, rfl, rfl, by simp, fun k hk _ => hp_alloc_lt hk⟩
theorem Kept.setB {N B : Nat} {a w : World} (h : Kept N B a w) {r : Nat} (h1 : N ≤ r) (h2 : r < B ∧ r ≠ N + 8) (o : Obj) : Kept N B a (setB w r o) :=
  h.trans ⟨rfl, rfl, rfl, by rw [setB_size]; exact Nat.le_refl _, fun k _ hn => hp_setB_ne (by omega)⟩
theorem Kept.setCell {N B : Nat} {a w : World} (h : Kept N B a w) {p : Addr} (h1 : N ≤ p.block) (h2 : p.block < B ∧ p.block ≠ N + 8) (v : Value) : Kept N B a (w.setCell p v) :=
  h.trans ⟨rfl, rfl, rfl, by simp [World.setCell], fun k _ hn => Below.heap_setCell _ _ _ _ (by omega)⟩
theorem Kept.setNew {N B : Nat} {a w : World} (h : Kept N B a w) {p : Addr} (h1 : a.heap.size ≤ p.block) (v : Value) : Kept N B a (w.setCell p v) :=
  ⟨h.os, h.tape, h.output, by simp [World.setCell]; exact h.size, fun k hk hn => (Below.heap_setCell _ _ _ _ (by omega)).trans (h.block k hk hn)⟩
theorem Kept.drewN {N B : Nat} {a w : World} (h : Kept N B a w) (q : Nat) : Kept N B a (w.drewN q) := ⟨h.os, h.tape, h.output, h.size, h.block⟩
theorem Kept.below {N B : Nat} {a w : World} (h : Kept N B a w) (hN : N ≤ a.heap.size) : Below N a w := ⟨h.os, h.tape, h.output, h.size, fun k hk => h.block k (by omega) (Or.inl (Or.inl hk))⟩

theorem MapIs.drewN {κ : Type} [DecidableEq κ] {K : κ → Value} {ok : κ → Prop} {w : World} {b : Nat} {f : κ → Option Value} (h : MapIs K ok w b f) (q : Nat) : MapIs K ok (w.drewN q) b f := h.of_block rfl

variable {N B W wt : Nat} {M : Nat → Nat} {Bl Ch : Nat → Nat → Nat} {lk atv fl : Int} {G : Nat → Int} {sp : Value} {F : Nat → Nat → Option Int} {wk : Nat → Nat → Bool} {w w' : World}

/-- What touches none of the watch's blocks. -/
theorem WI.same (h : WI N B W wt M Bl Ch lk atv fl G sp F wk w) (e : ∀ k, N ≤ k → k < B ∧ k ≠ N + 8 → k < w.heap.size → w'.heap[k]? = w.heap[k]?) : WI N B W wt M Bl Ch lk atv fl G sp F wk w' :=
  ⟨h.row.of_block (e _ h.inW.1 h.inW.2 h.row.lt), fun c hc => (h.maps c hc).of_block (e _ (h.inM c hc).1 (h.inM c hc).2 (h.maps c hc).lt), h.wait.of_block (e _ h.inWt.1 h.inWt.2 h.wait.lt),
    fun c j hc hj => (e _ (h.inBl c j hc hj).1 (h.inBl c j hc hj).2 (lt_of_some (h.rows c j hc hj))).trans (h.rows c j hc hj),
    fun c j hc hj hk => (e _ (h.inCh c j hc hj).1 (h.inCh c j hc hj).2 (lt_of_some (h.opn c j hc hj hk))).trans (h.opn c j hc hj hk),
    fun c j hc hj => by
      obtain ⟨n, b, cl, s, r, t, hh⟩ := h.chn c j hc hj
      exact ⟨n, b, cl, s, r, t, (e _ (h.inCh c j hc hj).1 (h.inCh c j hc hj).2 (lt_of_some hh)).trans hh⟩,
    h.inj, h.mInj, h.mW, h.inW, h.inWt, h.inM, h.inBl, h.inCh⟩
theorem WI.alloc (h : WI N B W wt M Bl Ch lk atv fl G sp F wk w) (o : Obj) : WI N B W wt M Bl Ch lk atv fl G sp F wk (w.alloc o) := h.same fun _ _ _ hk => hp_alloc_lt hk
theorem WI.drewN (h : WI N B W wt M Bl Ch lk atv fl G sp F wk w) (q : Nat) : WI N B W wt M Bl Ch lk atv fl G sp F wk (w.drewN q) := h.same fun _ _ _ _ => rfl
theorem WI.setFar (h : WI N B W wt M Bl Ch lk atv fl G sp F wk w) {p : Addr} (hp : p.block < N ∨ B ≤ p.block) (v : Value) : WI N B W wt M Bl Ch lk atv fl G sp F wk (w.setCell p v) := h.same fun _ _ _ _ => Below.heap_setCell _ _ _ _ (by omega)
theorem WI.congrK (h : WI N B W wt M Bl Ch lk atv fl G sp F wk w) {wk' : Nat → Nat → Bool} (e : ∀ c j, c < 5 → j < 4 → wk c j = wk' c j) : WI N B W wt M Bl Ch lk atv fl G sp F wk' w :=
  ⟨h.row, h.maps, h.wait.congr fun t ht => by simp only [wT, e t.1 t.2 ht.1 ht.2], h.rows, fun c j hc hj hk => h.opn c j hc hj (by rw [e c j hc hj]; exact hk), h.chn, h.inj, h.mInj, h.mW, h.inW, h.inWt, h.inM, h.inBl, h.inCh⟩

theorem ne_cm {a b : Nat} {cs : Array Value} {t : TypeId} {es : Array MapEntry} {n : Nat} (h : w.heap[a]? = some (.cells cs t)) (k : w.heap[b]? = some (.map es n)) : a ≠ b := by
  rintro rfl; rw [h] at k; cases k
theorem MapIs.map {κ : Type} [DecidableEq κ] {K : κ → Value} {ok : κ → Prop} {b : Nat} {f : κ → Option Value} (h : MapIs K ok w b f) : ∃ es n, w.heap[b]? = some (.map es n) := by
  obtain ⟨l, c, hb, _⟩ := h
  exact ⟨_, _, hb⟩
theorem rowIs_cells {b : Nat} {t : TypeId} {n : Nat} {f : Nat → Value} (h : w.rowIs b t n f) : ∃ cs, w.heap[b]? = some (.cells cs t) := by
  obtain ⟨c, hb, _⟩ := h
  exact ⟨c, hb⟩

/-- A channel of topic (c, j) is closed. -/
theorem WI.close (h : WI N B W wt M Bl Ch lk atv fl G sp F wk w) {c j : Nat} (hc : c < 5) (hj : j < 4) (hk : wk c j = false) (ty : TypeId) :
    (Builtin.close_ #[32] ty #[.chan (some (Ch c j))]).run Yba.prog w = .ok (.tuple #[]) (setB w (Ch c j) (.chan 0 #[] true 0 0 false)) :=
  Go.run_close_open #[32] ty (h.opn c j hc hj hk)

theorem MapIs.len {κ : Type} [DecidableEq κ] {K : κ → Value} {ok : κ → Prop} {P : Program} {mt kt et : TypeId} {b : Nat} {f : κ → Option Value} (h : MapIs K ok w b f) (ht : P.underlying mt = some (.map kt et)) (ty : TypeId) :
    ∃ n : Nat, (Builtin.len_ #[mt] ty #[.map (some b)]).run P w = .ok (.int .i64 n) w ∧ (n = 0 → ∀ k, ok k → f k = none) := by
  obtain ⟨l, c, hb, _, _, hf⟩ := h
  refine ⟨l.length, by simp [Builtin.len_, run_underlying ht, run_getObj_map hb, goInt, Result.andThen], fun h0 k hk => ?_⟩
  rw [← hf k hk, List.eq_nil_of_length_eq_zero h0]
  rfl

theorem setB_drewN (w : World) (r : Nat) (o : Obj) (q : Nat) : setB (w.drewN q) r o = (setB w r o).drewN q := rfl

/-- The watch with its entry for (c, j) still there, its channel closed. -/
structure WC (N B W wt : Nat) (M : Nat → Nat) (Bl Ch : Nat → Nat → Nat) (lk atv fl : Int) (G : Nat → Int) (sp : Value) (F : Nat → Nat → Option Int) (wk : Nat → Nat → Bool) (c j : Nat) (w : World) : Prop where
  row : w.rowIs W 49 24 (watF lk atv fl M G wt sp)
  wait : MapIs kT okT w wt (wT Bl wk)
  end_ : ∀ w' f, (∀ k, k ≠ wt → w'.heap[k]? = w.heap[k]?) → MapIs kT okT w' wt f → (∀ t, okT t → f t = wT Bl (fun c' j' => if c' = c ∧ j' = j then true else wk c' j') t) → WI N B W wt M Bl Ch lk atv fl G sp F (fun c' j' => if c' = c ∧ j' = j then true else wk c' j') w'

theorem WI.closed (h : WI N B W wt M Bl Ch lk atv fl G sp F wk w) {c j : Nat} (hc : c < 5) (hj : j < 4) : WC N B W wt M Bl Ch lk atv fl G sp F wk c j (setB w (Ch c j) (.chan 0 #[] true 0 0 false)) := by
  obtain ⟨n, b, cl, s, r, t, hch⟩ := h.chn c j hc hj
  obtain ⟨es, m, hwt⟩ := h.wait.map
  obtain ⟨cs, hrow⟩ := rowIs_cells h.row
  have hlt := lt_of_some hch
  have n1 : wt ≠ Ch c j := by intro e; rw [e, hch] at hwt; cases hwt
  have n2 : W ≠ Ch c j := by intro e; rw [e, hch] at hrow; cases hrow
  have n3 : ∀ c', c' < 5 → M c' ≠ Ch c j := fun c' hc' e => by
    obtain ⟨es', m', hm⟩ := (h.maps c' hc').map
    rw [e, hch] at hm; cases hm
  have n4 : ∀ c' j', c' < 5 → j' < 4 → Bl c' j' ≠ Ch c j := fun c' j' hc' hj' e => by
    have hm := h.rows c' j' hc' hj'
    rw [e, hch] at hm; cases hm
  have n5 : W ≠ wt := ne_cm hrow hwt
  refine ⟨h.row.of_block (hp_setB_ne n2), h.wait.of_block (hp_setB_ne n1), fun w' f hk hm hf => ?_⟩
  have hk' : ∀ k, k ≠ wt → k ≠ Ch c j → w'.heap[k]? = w.heap[k]? := fun k h1 h2 => (hk k h1).trans (hp_setB_ne h2)
  have hme : w'.heap[Ch c j]? = some (.chan 0 #[] true 0 0 false) := (hk _ (Ne.symm n1)).trans (hp_setB_at hlt)
  have n6 : ∀ c' j', c' < 5 → j' < 4 → Bl c' j' ≠ wt := fun c' j' hc' hj' => ne_cm (h.rows c' j' hc' hj') hwt
  have n7 : ∀ c' j', c' < 5 → j' < 4 → Ch c' j' ≠ wt := fun c' j' hc' hj' e => by
    obtain ⟨_, _, _, _, _, _, hm⟩ := h.chn c' j' hc' hj'
    rw [e, hwt] at hm; cases hm
  refine ⟨h.row.of_block (hk' _ n5 n2), fun c' hc' => (h.maps c' hc').of_block (hk' _ (h.mW c' hc') (n3 c' hc')), hm.congr hf, fun c' j' hc' hj' => (hk' _ (n6 c' j' hc' hj') (n4 c' j' hc' hj')).trans (h.rows c' j' hc' hj'), ?_, ?_, h.inj, h.mInj, h.mW, h.inW, h.inWt, h.inM, h.inBl, h.inCh⟩
  · intro c' j' hc' hj' hk2
    by_cases e : c' = c ∧ j' = j
    · simp [e] at hk2
    · rw [if_neg e] at hk2
      have hne : Ch c' j' ≠ Ch c j := fun e2 => e (h.inj c' j' c j hc' hj' hc hj e2)
      exact (hk' _ (n7 c' j' hc' hj') hne).trans (h.opn c' j' hc' hj' hk2)
  · intro c' j' hc' hj'
    by_cases e : Ch c' j' = Ch c j
    · rw [e]; exact ⟨_, _, _, _, _, _, hme⟩
    · obtain ⟨n, b, cl, s, r, t, hh⟩ := h.chn c' j' hc' hj'
      exact ⟨n, b, cl, s, r, t, (hk' _ (n7 c' j' hc' hj') e).trans hh⟩

theorem WI.already (h : WI N B W wt M Bl Ch lk atv fl G sp F wk w) (c j : Nat) : WC N B W wt M Bl Ch lk atv fl G sp F wk c j w := by
  obtain ⟨es, m, hwt⟩ := h.wait.map
  obtain ⟨cs, hrow⟩ := rowIs_cells h.row
  refine ⟨h.row, h.wait, fun w' f hk' hm hf => ?_⟩
  have n7 : ∀ c' j', c' < 5 → j' < 4 → Ch c' j' ≠ wt := fun c' j' hc' hj' e => by
    obtain ⟨_, _, _, _, _, _, hm⟩ := h.chn c' j' hc' hj'
    rw [e, hwt] at hm; cases hm
  refine ⟨h.row.of_block (hk' _ (ne_cm hrow hwt)), fun c' hc' => (h.maps c' hc').of_block (hk' _ (h.mW c' hc')), hm.congr hf, fun c' j' hc' hj' => (hk' _ (ne_cm (h.rows c' j' hc' hj') hwt)).trans (h.rows c' j' hc' hj'), ?_, ?_, h.inj, h.mInj, h.mW, h.inW, h.inWt, h.inM, h.inBl, h.inCh⟩
  · intro c' j' hc' hj' hk2
    by_cases e : c' = c ∧ j' = j
    · simp [e] at hk2
    · rw [if_neg e] at hk2
      exact (hk' _ (n7 c' j' hc' hj')).trans (h.opn c' j' hc' hj' hk2)
  · intro c' j' hc' hj'
    obtain ⟨n, b, cl, s, r, t, hh⟩ := h.chn c' j' hc' hj'
    exact ⟨n, b, cl, s, r, t, (hk' _ (n7 c' j' hc' hj')).trans hh⟩

theorem WC.del {c j : Nat} (h : WC N B W wt M Bl Ch lk atv fl G sp F wk c j w) (hc : c < 5) (hj : j < 4) (ty : TypeId) :
    ∃ o, (∀ w', w'.heap = w.heap → (Builtin.delete_ #[46, 31] ty #[.map (some wt), .agg #[.int .u8 c, .string (ids j)]]).run Yba.prog w' = .ok (.tuple #[]) (setB w' wt o)) ∧ WI N B W wt M Bl Ch lk atv fl G sp F (fun c' j' => if c' = c ∧ j' = j then true else wk c' j') (setB w wt o) := by
  obtain ⟨o, h1, h2⟩ := delete_is keyT Yba.underlying46 h.wait (c, j) ⟨hc, hj⟩ 31 ty
  refine ⟨o, h1, h.end_ _ _ (fun k hk => hp_setB_ne hk) h2 fun t ht => ?_⟩
  by_cases e : t = (c, j)
  · simp [e, wT]
  · have : ¬ (t.1 = c ∧ t.2 = j) := fun h => e (Prod.ext h.1 h.2)
    simp only [if_neg e, wT, if_neg this]
theorem WC.drewN {c j : Nat} (h : WC N B W wt M Bl Ch lk atv fl G sp F wk c j w) (q : Nat) : WC N B W wt M Bl Ch lk atv fl G sp F wk c j (w.drewN q) := ⟨h.row, h.wait.of_block rfl, fun w' f h1 h2 h3 => h.end_ w' f h1 h2 h3⟩

set_option maxRecDepth 100000 in
set_option maxHeartbeats 800000 in
theorem wake_any (I : WI N B W wt M Bl Ch lk atv fl G sp F wk w) (c j : Nat) (hc : c < 5) (hj : j < 4) :
    Calls Yba.prog 16 #[.pointer (some ⟨W, 0, none⟩), .agg #[.int .u8 c, .string (ids j)]] w fun e w' => e = .returned (.tuple #[]) ∧ WI N B W wt M Bl Ch lk atv fl G sp F (fun c' j' => if c' = c ∧ j' = j then true else wk c' j') w' ∧ Kept N B w w' := by
  have K1 : Kept N B w (w.alloc (.cells #[.int .u8 c, .string (ids j)] 31)) := (Kept.refl N B w).alloc _
  have I1 := I.alloc (.cells #[.int .u8 c, .string (ids j)] 31)
  have b0 : (w.alloc (.cells #[.int .u8 c, .string (ids j)] 31)).heap[w.heap.size]? = some (.cells #[.int .u8 c, .string (ids j)] 31) := Go.Deep.blk_alloc_new _ _
  generalize hW1 : w.alloc (.cells #[.int .u8 c, .string (ids j)] 31) = w1 at *
  generalize hX : w.heap.size = X at *
  have h21 : w1.cell? ⟨W, 21, none⟩ = some (.map (some wt)) := I1.cell (by omega)
  have c0 : w1.cell? ⟨X, 0, none⟩ = some (.int .u8 c) := by simp [World.cell?, b0]
  have c1 : w1.cell? ⟨X, 1, none⟩ = some (.string (ids j)) := by simp [World.cell?, b0]
  obtain ⟨n, hlen, hn⟩ := I1.wait.len Yba.underlying46 3
  have HI := hid (And.intro I1 (And.intro K1 hn))
  clear I I1 K1 hn
  by_cases h0 : n = 0
  · subst h0
    go_enter Yba.func16, Yba.ntmps16
    go_wp2
    (try simp only [Exit.inBlock, Exit.then])
    refine bodyPost_ret (results_none rfl _ _ _) rfl ?_
    refine ⟨rfl, HI.out.1.congrK fun c' j' hc' hj' => ?_, HI.out.2.1⟩
    by_cases e : c' = c ∧ j' = j
    · have := HI.out.2.2 (by trivial) (c, j) ⟨hc, hj⟩
      simp only [wT] at this
      obtain ⟨rfl, rfl⟩ := e
      simp
      cases hw : wk c' j' with
      | true => rfl
      | false => rw [hw] at this; simp at this
    · simp [e]
  · have hn0 : ((n : Int) == 0) = false := by simp; omega
    have hz : ∀ w : World, (zeroValue 33).run Yba.prog w = .ok (.slice none 0 0) w := fun w => by kernel_rfl
    have hlk : ∀ q, (Instr.lookup 46 (.map (some wt)) (.agg #[.int .u8 c, .string (ids j)]) false).run Yba.prog (w1.drewN q) = .ok ((wT Bl wk (c, j)).getD (.slice none 0 0)) (w1.drewN q) := fun q => lookup_is keyT Yba.underlying46 (hz _) (HI.out.1.wait.drewN q) (c, j) ⟨hc, hj⟩ false
    clear hz
    cases hwk : wk c j with
    | true =>
      simp only [wT, hwk, if_true, Option.getD_none] at hlk
      have hC := HI.out.1.already c j
      obtain ⟨o, hdel0, hI2⟩ := hC.del hc hj 0
      have hdel : ∀ q, (Builtin.delete_ #[46, 31] 0 #[.map (some wt), .agg #[.int .u8 c, .string (ids j)]]).run Yba.prog (w1.drewN q) = .ok (.tuple #[]) (setB (w1.drewN q) wt o) := fun q => hdel0 _ rfl
      have HK := hid (And.intro HI.out.2.1 (And.intro hI2 HI.out.1.inWt))
      clear HI hwk hC hdel0 hI2
      go_enter Yba.func16, Yba.ntmps16
      go_wp2
      go_quiet (fail)
      go_wp2
      clear hlk hlen
      go_loop [19] (fun i => i = .int .i64 0) (fun _ => 0)
      case atStart => rfl
      case round =>
        subst hrel
        go_wp2
        go_region
        refine bodyPost_end (results_none rfl _ _ _) rfl ?_
        obtain ⟨k1, k2, k3⟩ := HK.out
        refine ⟨rfl, ?_, ?_⟩
        · rw [setB_drewN]; exact k2.drewN _
        · rw [setB_drewN]; exact (k1.setB k3.1 k3.2 o).drewN _
    | false =>
      simp only [wT, hwk, Bool.false_eq_true, if_false, Option.getD_some] at hlk
      have I1 := HI.out.1
      have hC := I1.closed hc hj
      have hcl0 := fun q => (I1.drewN q).close hc hj hwk 0
      have hXw : X ≠ Ch c j := by
        obtain ⟨_, _, _, _, _, _, hm⟩ := I1.chn c j hc hj
        rintro rfl
        rw [b0] at hm; cases hm
      have cb : w1.cell? ⟨Bl c j, 0, none⟩ = some (.chan (some (Ch c j))) := by simp [World.cell?, I1.rows c j hc hj]
      have hin := I1.inCh c j hc hj
      generalize hw2 : setB w1 (Ch c j) (.chan 0 #[] true 0 0 false) = w2 at hC
      have hcl : ∀ q, (Builtin.close_ #[32] 0 #[.chan (some (Ch c j))]).run Yba.prog (w1.drewN q) = .ok (.tuple #[]) (w2.drewN q) := fun q => by rw [hcl0 q, setB_drewN, hw2]
      have d21 : w2.cell? ⟨W, 21, none⟩ = some (.map (some wt)) := hC.row.cell (by omega)
      have d0 : w2.heap[X]? = w1.heap[X]? := by rw [← hw2]; exact hp_setB_ne hXw
      have e0 : w2.cell? ⟨X, 0, none⟩ = some (.int .u8 c) := by simp [World.cell?, d0, b0]
      have e1 : w2.cell? ⟨X, 1, none⟩ = some (.string (ids j)) := by simp [World.cell?, d0, b0]
      obtain ⟨o, hdel0, hI2⟩ := hC.del hc hj 0
      have hdel : ∀ q, (Builtin.delete_ #[46, 31] 0 #[.map (some wt), .agg #[.int .u8 c, .string (ids j)]]).run Yba.prog (w2.drewN q) = .ok (.tuple #[]) (setB (w2.drewN q) wt o) := fun q => hdel0 _ rfl
      have hK2 : Kept N B w w2 := by rw [← hw2]; exact HI.out.2.1.setB hin.1 hin.2 _
      have HK := hid (And.intro hK2 (And.intro hI2 HI.out.1.inWt))
      clear HI hwk hC hdel0 hI2 I1 hcl0 hw2 d0 hK2 hin b0 hXw
      go_enter Yba.func16, Yba.ntmps16
      go_wp2
      go_quiet (fail)
      go_wp2
      clear hlk hlen
      go_loopw [19] (fun i wr => (i = .int .i64 0 ∧ ∃ q, wr = w1.drewN q) ∨ (i = .int .i64 1 ∧ ∃ q, wr = w2.drewN q)) (fun i _ => 1 - (intOf i).toNat)
      case atStart => exact Or.inl ⟨rfl, _, rfl⟩
      case round =>
        rcases hrel with ⟨rfl, q, rfl⟩ | ⟨rfl, q, rfl⟩
        · go_wp2
          go_roundw
          case rel => exact Or.inr ⟨rfl, _, rfl⟩
          case measure => simp [intOf]
        · go_wp2
          go_region
          refine bodyPost_end (results_none rfl _ _ _) rfl ?_
          obtain ⟨k1, k2, k3⟩ := HK.out
          refine ⟨rfl, ?_, ?_⟩
          · rw [setB_drewN]; exact k2.drewN _
          · rw [setB_drewN]; exact (k1.setB k3.1 k3.2 o).drewN _
end Go.Proofs.Ybulkbwok
