/- DERIVED. (*Watch).Show. -/
import Derived.Test.YbulkbwokD
namespace Go.Proofs.Ybulkbwok
open Go.RowKit Go.MuLone
attribute [local go_sem ↓] Go.wp_at_zero Go.wp_at_succ
variable {N B W wt : Nat} {M : Nat → Nat} {Bl Ch : Nat → Nat → Nat} {lk atv fl : Int} {sp : Value} {w w' : World}


theorem owns_moved {w w' : World} {base : Nat} {e : TypeId} {size : Nat} {v : Value} {n : Nat} {xs : List Value} (h : w.ownsRow base e size v n xs) (hk : ∀ g, v.ownBlock = some g → w'.heap[g]? = w.heap[g]?) : w'.ownsRow base e size v n xs := by
  refine ⟨h.1, ?_⟩
  rcases h.2 with h2 | ⟨g', cap, cur, rfl, hb, hh, r⟩
  · exact Or.inl h2
  · exact Or.inr ⟨g', cap, cur, rfl, hb, by rw [hk g' rfl]; exact hh, r⟩
theorem owns_lt {w : World} {base : Nat} {e : TypeId} {size : Nat} {v : Value} {n : Nat} {xs : List Value} (h : w.ownsRow base e size v n xs) {g : Nat} (hg : v.ownBlock = some g) : base ≤ g ∧ g < w.heap.size := by
  rcases h.2 with ⟨rfl, _⟩ | ⟨g', cap, cur, rfl, hb, hh, r⟩
  · cases hg
  · injection hg with hg; subst hg; exact ⟨hb, lt_of_some hh⟩
theorem owns_form {w : World} {base : Nat} {e : TypeId} {size : Nat} {v : Value} {n : Nat} {xs : List Value} (h : w.ownsRow base e size v n xs) : ∃ x c, v = .slice x n c := by
  rcases h.2 with ⟨rfl, rfl⟩ | ⟨g', cap, cur, rfl, _⟩
  · exact ⟨_, _, rfl⟩
  · exact ⟨_, _, rfl⟩
theorem ne_row {b a n : Nat} {t u : TypeId} {f : Nat → Value} {cs : Array Value} (h : w.rowIs b t n f) (k : w.heap[a]? = some (.cells cs u)) (hne : t ≠ u) : b ≠ a := by
  obtain ⟨c, hb, _⟩ := h
  rintro rfl; rw [hb] at k; injection k with k; injection k with _ k; exact hne k

variable {at0 : Int} {CB m base : Nat} {idf : Nat → Int} {T n : Nat → Nat} {ls : Nat → Nat → Bool} {ts : Nat → Nat → Nat × Nat × Bool} {s : St} {spv : Value} {i : Nat}
/-- What turns neither the watch, nor the touches, nor the spares. -/
theorem SI.moved (h : SI N B W wt M Bl Ch at0 CB m idf T n ls ts s lk base spv i w) (e : ∀ k, k < w.heap.size → w'.heap[k]? = w.heap[k]?) : SI N B W wt M Bl Ch at0 CB m idf T n ls ts s lk base spv i w' :=
  ⟨h.wi.same fun k _ _ hk => e k hk, owns_moved h.own fun g hg => e g (owns_lt h.own hg).2, fun k hk => (h.tch k hk).of_block (e _ (h.tch k hk).row.lt), h.ch.of_block (e _ h.ch.lt)⟩
theorem SI.setLk (h : SI N B W wt M Bl Ch at0 CB m idf T n ls ts s lk base spv i w) (hB : B ≤ base) (hT : ∀ k, k < m → B ≤ T k) (hCB : B ≤ CB) (v : Int) : SI N B W wt M Bl Ch at0 CB m idf T n ls ts s v base spv i (w.setCell ⟨W, 6, none⟩ (.int .i32 v)) := by
  have hW := h.wi.inW
  refine ⟨h.wi.setLk v, owns_moved h.own fun g hg => Below.heap_setCell _ _ _ _ ?_, fun k hk => (h.tch k hk).of_block (Below.heap_setCell _ _ _ _ ?_), h.ch.of_block (Below.heap_setCell _ _ _ _ ?_)⟩
  · have := (owns_lt h.own hg).1; show g ≠ W; omega
  · have := hT k hk; show T k ≠ W; omega
  · show CB ≠ W; omega
theorem SI.setCell (h : SI N B W wt M Bl Ch at0 CB m idf T n ls ts s lk base spv i w) {b : Nat} {cs : Array Value} {t : TypeId} (hb : w.heap[b]? = some (.cells cs t)) (h1 : B ≤ b) (h2 : t ≠ 54) (h3 : t ≠ 57) (h4 : t ≠ 34) (o : Nat) (v : Value) : SI N B W wt M Bl Ch at0 CB m idf T n ls ts s lk base spv i (w.setCell ⟨b, o, none⟩ v) := by
  refine ⟨h.wi.setFar (Or.inr h1) v, owns_moved h.own fun g hg => Below.heap_setCell _ _ _ _ ?_, fun k hk => (h.tch k hk).of_block (Below.heap_setCell _ _ _ _ ?_), h.ch.of_block (Below.heap_setCell _ _ _ _ ?_)⟩
  · rcases h.own.2 with ⟨rfl, _⟩ | ⟨g', cap, cur, rfl, hb', hh, r⟩
    · cases hg
    · injection hg with hg
      subst hg
      rintro rfl
      rw [hh] at hb; injection hb with hb; injection hb with _ hb; exact h4 hb.symm
  · exact ne_row (h.tch k hk).row hb (Ne.symm h2)
  · exact ne_row h.ch hb (Ne.symm h3)

section
variable {P : Program} {w : World}
/-- An append whose run is known. -/
theorem wp_append_run {o : Oper} {a : Act} {K : Act → World → Prop} {Q : Exit → Act → World → Prop} (s x : Operand) (t : TypeId)
    (ho : o.op = .call { callee := .builtin .append, args := #[s, x], argTypes := #[t, t] }) (vs vx v' : Value) (w' : World) (hs : a.eval s = vs) (hx : a.eval x = vx)
    (hr : (Builtin.append_ #[t, t] o.type #[vs, vx]).run P w = .ok v' w') (h : K (a.put o.dst v') w') : o.wp P a w K Q := by
  unfold Oper.wp execOp
  simp only [ho, resolve, invoke, builtin, Sem.run_bind, Sem.run_pure, Result.andThen_ok, List.map_toArray, List.map_cons, List.map_nil, hs, hx, hr]
  exact h
theorem wpList_append_run {ops : Array Oper} {rest : List Oper} {o : Oper} {a : Act} {Q : Exit → Act → World → Prop} (hgd : o.guard = none) (s x : Operand) (t : TypeId)
    (ho : o.op = .call { callee := .builtin .append, args := #[s, x], argTypes := #[t, t] }) (vs vx v' : Value) (w' : World) (hs : a.eval s = vs) (hx : a.eval x = vx)
    (hr : (Builtin.append_ #[t, t] o.type #[vs, vx]).run P w = .ok v' w') (h : wpList P ops Q rest (a.put o.dst v') w') : wpList P ops Q (o :: rest) a w :=
  wpList_plain hgd fun _ hK => wp_append_run s x t ho vs vx v' w' hs hx hr (hK _ _ h)
theorem step_append_run {ops : Array Oper} {o : Oper} {a : Act} {K : Act → World → Prop} {Q : Exit → Act → World → Prop} {E : Prop} (hgd : o.guard = none) (s x : Operand) (t : TypeId)
    (ho : o.op = .call { callee := .builtin .append, args := #[s, x], argTypes := #[t, t] }) (vs vx v' : Value) (w' : World) (hs : a.eval s = vs) (hx : a.eval x = vx)
    (hr : (Builtin.append_ #[t, t] o.type #[vs, vx]).run P w = .ok v' w') (h : K (a.put o.dst v') w') : if Region.wanted o (yielded ops a.tmps) = true then Oper.wp P o a w K Q else E := by
  have hw : Region.wanted o (yielded ops a.tmps) = true := by simp [Region.wanted, hgd]
  rw [if_pos hw]
  exact wp_append_run s x t ho vs vx v' w' hs hx hr h
end

theorem info_parts {P : Program} {e : TypeId} {z : Value} {sz by_ : Nat} (h : (P.info? e).map (fun i => (i.zero, i.size, i.bytes)) = some (some z, sz, by_)) : ∃ i, P.info? e = some i ∧ i.zero = some z ∧ i.size = sz ∧ i.bytes = by_ := by
  obtain ⟨i, hi, hzz⟩ := Option.map_eq_some_iff.1 h
  simp only [Prod.mk.injEq] at hzz
  exact ⟨i, hi, hzz.1, hzz.2.1, hzz.2.2⟩


theorem spared {w2 w4 w5 w6 : World} {k : Nat} {sx sx' : Option Addr} {sc sc' : Nat} {o : Obj}
    (I4 : WI N B W wt M Bl Ch 1 (idf k) at0 (St.run idf ts n ls s (k + 1)).G (.slice sx k sc) (St.run idf ts n ls s (k + 1)).F (St.run idf ts n ls s (k + 1)).wk w4)
    (own4 : w4.ownsRow base 34 1 (.slice sx k sc) k (spL T n k)) (tch4 : ∀ k', k' < m → Tch (T k') (n k') (if k' < k ∧ k' < 64 then zeroT else ts k') w4) (ch4 : w4.rowIs CB 57 (m * 7) (chF idf T n ls)) (F4 : Far N B m T w2 w4)
    (ht5 : Tch (T k) (n k) zeroT w5) (oth5 : ∀ b, b ≠ T k → w5.heap[b]? = w4.heap[b]?) (os5 : w5.os = w4.os) (tape5 : w5.tape = w4.tape) (out5 : w5.output = w4.output) (sz5 : w5.heap.size = w4.heap.size)
    (ho6 : w6.ownsRow base 34 1 (.slice sx' (k + 1) sc') (k + 1) (spL T n k ++ [.slice (some ⟨T k, 0, none⟩) 0 (n k)])) (hg6 : ((w5.alloc o).drew).grownBy w6 (Value.slice sx k sc).ownBlock)
    (_hB : B ≤ base) (hT : ∀ k, k < m → B ≤ T k) (hTi : ∀ k k', k < m → k' < m → T k = T k' → k = k') (hTb : ∀ k, k < m → T k < base) (hCB : B ≤ CB) (hCBb : CB < base) (hb2 : base = w2.heap.size) (hlt : k < m) (h64 : k < 64) :
    SI N B W wt M Bl Ch at0 CB m idf T n ls ts s 1 base (.slice sx' (k + 1) sc') (k + 1) (w6.setCell ⟨W, 23, none⟩ (.slice sx' (k + 1) sc')) ∧ Far N B m T w2 (w6.setCell ⟨W, 23, none⟩ (.slice sx' (k + 1) sc')) := by
  have hrow : ∀ b, b < base → some b ≠ (Value.slice sx k sc).ownBlock := fun b hb e => by
    have := (owns_lt own4 e.symm).1
    omega
  have hW := I4.inW
  have s6 : ∀ b, b < w4.heap.size → b < base → w6.heap[b]? = w5.heap[b]? := fun b hb hb2 => by
    have h1 := hg6.block b (by simp; omega) (hrow b hb2)
    have h2 : ((w5.alloc o).drew).heap[b]? = w5.heap[b]? := hp_alloc_lt (by omega)
    exact h1.trans h2
  have wi6 : WI N B W wt M Bl Ch 1 (idf k) at0 (St.run idf ts n ls s (k + 1)).G (.slice sx k sc) (St.run idf ts n ls s (k + 1)).F (St.run idf ts n ls s (k + 1)).wk w6 := I4.same fun b h1 h2 h3 => by
    have := hT k hlt
    exact (s6 b h3 (by omega)).trans (oth5 b (by omega))
  have far : ∀ b, b ≠ W → (w6.setCell ⟨W, 23, none⟩ (.slice sx' (k + 1) sc')).heap[b]? = w6.heap[b]? := fun b hb => Below.heap_setCell _ _ _ _ hb
  have m65 : min (k + 1) 64 = k + 1 := by omega
  have hsz : w4.heap.size ≤ w6.heap.size := by have := hg6.size; simp at this; omega
  refine ⟨⟨wi6.setSp _, ?_, fun k' hk' => ?_, ?_⟩, ?_⟩
  · rw [m65, spL_succ]
    exact owns_moved ho6 fun g hg => far g (by have := (owns_lt ho6 hg).1; omega)
  · have h1 := hT k' hk'
    have h2 := hTb k' hk'
    by_cases e : k' = k
    · subst e
      have : k' < k' + 1 ∧ k' < 64 := by omega
      rw [if_pos this]
      exact ht5.of_block ((far _ (by omega)).trans (s6 _ (by have := ht5.row.lt; omega) h2))
    · have : (k' < k + 1 ∧ k' < 64) = (k' < k ∧ k' < 64) := by simp; omega
      simp only [this]
      have ht := tch4 k' hk'
      exact ht.of_block ((far _ (by omega)).trans ((s6 _ ht.row.lt h2).trans (oth5 _ fun e2 => e (hTi k' k hk' hlt e2))))
  · have := hT k hlt
    have hne : CB ≠ T k := by
      obtain ⟨c1, hc1, _⟩ := ch4
      obtain ⟨c2, hc2, _⟩ := (tch4 k hlt).row
      intro e
      rw [e, hc2] at hc1; injection hc1 with hc1; injection hc1 with _ hc1; cases hc1
    exact ch4.of_block ((far _ (by omega)).trans ((s6 _ ch4.lt hCBb).trans (oth5 _ hne)))
  · refine ⟨(hg6.os.trans os5).trans F4.os, (hg6.tape.trans tape5).trans F4.tape, (hg6.output.trans out5).trans F4.output, by simp [World.setCell]; exact Nat.le_trans F4.size hsz, fun b hb h1 h2 => ?_⟩
    have := F4.size
    exact ((far b (by omega)).trans ((s6 b (by omega) (by omega)).trans (oth5 b (h2 k hlt)))).trans (F4.block b hb h1 h2)

set_option maxRecDepth 100000 in
set_option maxHeartbeats 1600000 in
theorem show_any (at0 : Int) (CB m : Nat) (cm : Nat) (idf : Nat → Int) (T n : Nat → Nat) (ls : Nat → Nat → Bool) (ts : Nat → Nat → Nat × Nat × Bool) (s : St) (Cb Wv Ab Sb : Nat) (x y : Value) (w : World)
    (I : SI N B W wt M Bl Ch at0 CB m idf T n ls ts s 0 w.heap.size (.slice none 0 0) 0 w) (hm : m ≤ 300) (hn : ∀ k, k < m → n k ≤ 1024) (hB : B ≤ w.heap.size) (hT : ∀ k, k < m → B ≤ T k) (hTi : ∀ k k', k < m → k' < m → T k = T k' → k = k') (hCB : B ≤ CB)
    (n1 : Cb ≠ Wv) (n2 : Cb ≠ Ab) (n3 : Cb ≠ Sb) (n5 : Ab ≠ Wv) (n6 : Ab ≠ Sb) (hCb : B ≤ Cb) (hAb : B ≤ Ab) (hSb : B ≤ Sb)
    (hC : w.heap[Cb]? = some (.cells #[.int .i64 0] 3)) (hV : w.heap[Wv]? = some (.cells #[.pointer (some ⟨W, 0, none⟩)] 27)) (hA : w.heap[Ab]? = some (.cells #[x] 2)) (hS : w.heap[Sb]? = some (.cells #[y] 3)) :
    Calls Yba.prog 5 #[.pointer (some ⟨W, 0, none⟩), .slice (some ⟨CB, 0, none⟩) m cm, .func (.func 6) #[] #[.pointer (some ⟨Cb, 0, none⟩), .pointer (some ⟨Wv, 0, none⟩), .pointer (some ⟨Ab, 0, none⟩), .pointer (some ⟨Sb, 0, none⟩)]] w fun e w' => e = .returned (.tuple #[]) ∧
      ∃ spv, SI N B W wt M Bl Ch at0 CB m idf T n ls ts s 0 w.heap.size spv m w' ∧ Far N B m T ((((w.setCell ⟨W, 6, none⟩ (.int .i32 1)).setCell ⟨Cb, 0, none⟩ (.int .i64 1)).setCell ⟨Ab, 0, none⟩ (.int .i64 at0)).setCell ⟨Sb, 0, none⟩ (.int .i64 0)) w' := by
  have h6 : w.cell? ⟨W, 6, none⟩ = some (.int .i32 0) := I.wi.cell (by omega)
  have hTb : ∀ k, k < m → T k < w.heap.size := fun k hk => (I.tch k hk).row.lt
  have hCBb : CB < w.heap.size := I.ch.lt
  have f6 : w.frozen? ⟨W, 6, none⟩ = false := I.wi.row.frozen 6
  have HI := hid (And.intro I (And.intro hC (And.intro hV (And.intro hA hS))))
  clear I hC hV hA hS
  go_enter_defers Yba.func5, Yba.ntmps5
  go_wp2_with (go_at_call 9; refine (lock_free Yba.muLib ⟨W, 6, none⟩ _ h6 f6).mono ?_; rintro e w' ⟨rfl, rfl⟩)
  obtain ⟨I, hC, hV, hA, hS⟩ := HI.out
  clear HI
  have hW := I.wi.inW
  have hne : ∀ b, B ≤ b → (w.setCell ⟨W, 6, none⟩ (.int .i32 1)).heap[b]? = w.heap[b]? := fun b hb => Below.heap_setCell _ _ _ _ (by show b ≠ W; omega)
  have nV : Wv ≠ W := by
    obtain ⟨cs, hrow⟩ := rowIs_cells I.wi.row
    rintro rfl
    rw [hrow] at hV; cases hV
  have I1 := I.setLk hB hT hCB 1
  have hC1 := (hne Cb hCb).trans hC
  have hA1 := (hne Ab hAb).trans hA
  have hS1 := (hne Sb hSb).trans hS
  have hV1 : (w.setCell ⟨W, 6, none⟩ (.int .i32 1)).heap[Wv]? = some (.cells #[.pointer (some ⟨W, 0, none⟩)] 27) := (Below.heap_setCell _ _ _ _ nV).trans hV
  generalize hw1 : w.setCell ⟨W, 6, none⟩ (.int .i32 1) = w1 at *
  have hsz1 : w1.heap.size = w.heap.size := by rw [← hw1]; simp [World.setCell]
  have h9 : w1.cell? ⟨W, 9, none⟩ = some (.int .i64 at0) := I1.wi.cell (by omega)
  have h23 : w1.cell? ⟨W, 23, none⟩ = some (.slice none 0 0) := I1.wi.cell (by omega)
  refine (shown_any Cb Wv Ab Sb at0 x y w1 n1 n2 n3 (by omega) n5 n6 (by omega) hC1 hV1 hA1 hS1 h9 h23).mono ?_
  rintro e w' ⟨rfl, hw'⟩
  have I2 : SI N B W wt M Bl Ch at0 CB m idf T n ls ts s 1 w.heap.size (.slice none 0 0) 0 w' := by
    rw [hw']
    have hA2 : (w1.setCell ⟨Cb, 0, none⟩ (.int .i64 1)).heap[Ab]? = some (.cells #[x] 2) := (Below.heap_setCell _ _ _ _ (Ne.symm n2)).trans hA1
    have hS2 : ((w1.setCell ⟨Cb, 0, none⟩ (.int .i64 1)).setCell ⟨Ab, 0, none⟩ (.int .i64 at0)).heap[Sb]? = some (.cells #[y] 3) := (Below.heap_setCell _ _ _ _ (Ne.symm n6)).trans ((Below.heap_setCell _ _ _ _ (Ne.symm n3)).trans hS1)
    exact ((I1.setCell hC1 hCb (by decide) (by decide) (by decide) 0 _).setCell hA2 hAb (by decide) (by decide) (by decide) 0 _).setCell hS2 hSb (by decide) (by decide) (by decide) 0 _
  have hsz : w'.heap.size = w.heap.size := by rw [hw', ← hsz1]; simp [World.setCell]
  rw [← hw1] at hw'
  have HW := hid hw'
  clear hw' h9 h23 I I1 hC hV hA hS hC1 hV1 hA1 hS1 hne nV h6 f6 hw1 hsz1 w1
  rename World => w2
  have HI := hid I2
  clear I2
  go_wp2
  go_loopw [19] (fun iv wr => ∃ (k : Nat) (spv : Value), k ≤ m ∧ iv = .int .i64 k ∧ SI N B W wt M Bl Ch at0 CB m idf T n ls ts s 1 w.heap.size spv k wr ∧ Far N B m T w2 wr) (fun iv _ => m - (intOf iv).toNat)
  case atStart => exact ⟨0, _, Nat.zero_le _, rfl, HI.out, Far.refl _ _ _ _ _⟩
  case round =>
    obtain ⟨k, spv, hk, rfl, I, F⟩ := hrel
    clear HI
    by_cases hlt : k < m
    · have k1 : (k : Int) < (m : Int) := by omega
      have k0 : (0 : Int) ≤ (k : Int) := by omega
      have hF := F.size
      obtain ⟨e0, e1, e2, e3, e4, e5, e6⟩ := ch_cell I.ch hlt
      have hTk := (I.tch k hlt).row.lt
      have htk : Tch (T k) (n k) (ts k) wr := by have := I.tch k hlt; simpa using this
      have bZ : (wr.alloc (.cells #[.int .i64 (idf k), .slice (some ⟨T k, 0, none⟩) (n k) (n k), .bool (ls k 0), .bool (ls k 1), .bool (ls k 2), .bool (ls k 3), .bool (ls k 4)] 57)).heap[wr.heap.size]? = some (.cells #[.int .i64 (idf k), .slice (some ⟨T k, 0, none⟩) (n k) (n k), .bool (ls k 0), .bool (ls k 1), .bool (ls k 2), .bool (ls k 3), .bool (ls k 4)] 57) := Go.Deep.blk_alloc_new _ _
      have I3 := I.moved (w' := wr.alloc (.cells #[.int .i64 (idf k), .slice (some ⟨T k, 0, none⟩) (n k) (n k), .bool (ls k 0), .bool (ls k 1), .bool (ls k 2), .bool (ls k 3), .bool (ls k 4)] 57)) fun _ hk => hp_alloc_lt hk
      have ht3 := htk.of_block (w' := wr.alloc (.cells #[.int .i64 (idf k), .slice (some ⟨T k, 0, none⟩) (n k) (n k), .bool (ls k 0), .bool (ls k 1), .bool (ls k 2), .bool (ls k 3), .bool (ls k 4)] 57)) (hp_alloc_lt hTk)
      have K3 : Kept N B wr (wr.alloc (.cells #[.int .i64 (idf k), .slice (some ⟨T k, 0, none⟩) (n k) (n k), .bool (ls k 0), .bool (ls k 1), .bool (ls k 2), .bool (ls k 3), .bool (ls k 4)] 57)) := (Kept.refl _ _ _).alloc _
      generalize hW3 : wr.alloc (.cells #[.int .i64 (idf k), .slice (some ⟨T k, 0, none⟩) (n k) (n k), .bool (ls k 0), .bool (ls k 1), .bool (ls k 2), .bool (ls k 3), .bool (ls k 4)] 57) = w3 at *
      generalize hZ : wr.heap.size = Z at *
      have hZ3 := lt_of_some bZ
      have z0 : w3.cell? ⟨Z, 0, none⟩ = some (.int .i64 (idf k)) := by simp [World.cell?, bZ]
      have z1 : w3.cell? ⟨Z, 1, none⟩ = some (.slice (some ⟨T k, 0, none⟩) (n k) (n k)) := by simp [World.cell?, bZ]
      have z2 : w3.cell? ⟨Z, 2, none⟩ = some (.bool (ls k 0)) := by simp [World.cell?, bZ]
      have z3 : w3.cell? ⟨Z, 3, none⟩ = some (.bool (ls k 1)) := by simp [World.cell?, bZ]
      have z4 : w3.cell? ⟨Z, 4, none⟩ = some (.bool (ls k 2)) := by simp [World.cell?, bZ]
      have z5 : w3.cell? ⟨Z, 5, none⟩ = some (.bool (ls k 3)) := by simp [World.cell?, bZ]
      have z6 : w3.cell? ⟨Z, 6, none⟩ = some (.bool (ls k 4)) := by simp [World.cell?, bZ]
      have H := hid (And.intro I (And.intro F (And.intro bZ (And.intro I3 (And.intro ht3 K3)))))
      clear I F bZ I3 ht3 K3 htk
      go_wp2_with fail
      have hB3 : B ≤ w3.heap.size := by have := H.out.2.2.2.2.2.size; omega
      refine (commit_any (St.run idf ts n ls s k) H.out.2.2.2.1.wi hB3 (idf k) (T k) (n k) (ts k) (ls k) (hn k hlt) (hT k hlt) H.out.2.2.2.2.1).mono ?_
      rintro e w4 ⟨rfl, I4, K4⟩
      obtain ⟨-, F, bZ, I3, -, K3⟩ := H.out
      clear H z0 z1 z2 z3 z4 z5 z6 e0 e1 e2 e3 e4 e5 e6
      have own4 : w4.ownsRow w.heap.size 34 1 spv (min k 64) (spL T n (min k 64)) := owns_moved I3.own fun g hg => K4.block g (owns_lt I3.own hg).2 (Or.inr (by have := (owns_lt I3.own hg).1; omega))
      have tch4 : ∀ k', k' < m → Tch (T k') (n k') (if k' < k ∧ k' < 64 then zeroT else ts k') w4 := fun k' hk' => (I3.tch k' hk').of_block (K4.block _ (I3.tch k' hk').row.lt (Or.inr (hT k' hk')))
      have ch4 : w4.rowIs CB 57 (m * 7) (chF idf T n ls) := I3.ch.of_block (K4.block _ I3.ch.lt (Or.inr hCB))
      have F4 : Far N B m T w2 w4 := F.trans (K3.far.trans K4.far)
      have bZ4 : w4.heap[Z]? = w3.heap[Z]? := K4.block Z hZ3 (Or.inr (by omega))
      rw [bZ] at bZ4
      obtain ⟨sx, sc, hsp⟩ := owns_form own4
      have p23 : w4.cell? ⟨W, 23, none⟩ = some spv := I4.cell (by omega)
      have z1 : w4.cell? ⟨Z, 1, none⟩ = some (.slice (some ⟨T k, 0, none⟩) (n k) (n k)) := by simp [World.cell?, bZ4]
      clear I3 K3 K4 F bZ hW3
      by_cases h64 : k < 64
      · have m64 : min k 64 = k := by omega
        rw [m64] at own4 hsp
        subst hsp
        have kl : (k : Int) < 64 := by omega
        obtain ⟨w5, hcl, ht5, oth5, os5, tape5, out5, sz5⟩ := clear_tch (tch4 k hlt) 0
        have hZT : Z ≠ T k := by omega
        have hWT : W ≠ T k := by have := I4.inW; have := hT k hlt; omega
        have q23 : w5.cell? ⟨W, 23, none⟩ = some (.slice sx k sc) := by rw [World.cell?_of_block (oth5 W hWT)]; exact p23
        have y1 : w5.cell? ⟨Z, 1, none⟩ = some (.slice (some ⟨T k, 0, none⟩) (n k) (n k)) := by rw [World.cell?_of_block (oth5 Z hZT)]; exact z1
        have H := hid (And.intro I4 (And.intro own4 (And.intro tch4 (And.intro ch4 (And.intro F4 (And.intro ht5 (And.intro oth5 (And.intro os5 (And.intro tape5 (And.intro out5 sz5))))))))))
        have own5 : w5.ownsRow w.heap.size 34 1 (.slice sx k sc) k (spL T n k) := owns_moved own4 fun g hg => oth5 g (by have := (owns_lt own4 hg).1; have := hTb k hlt; omega)
        have hW5 : W < w5.heap.size := by have := I4.row.lt; omega
        have hZ5 : Z < w5.heap.size := by have := lt_of_some bZ4; omega
        have hbs : w.heap.size ≤ w5.heap.size := by have := F4.size; omega
        obtain ⟨i34, hi34, hz34, hs34, hb34⟩ := info_parts info34
        obtain ⟨spv', w6, hr6, ho6, hg6, _, hat6⟩ := run_append_own_at (P := Yba.prog) ((w5.alloc (.cells #[.slice (some ⟨T k, 0, none⟩) 0 (n k)] 34)).drew) w.heap.size 47 47 34 i34 _ 1 24 Yba.underlying47 hi34 hz34 hs34 hb34 rfl (by omega) (.slice sx k sc) k (spL T n k) (owns_moved (own5.alloc (.cells #[.slice (some ⟨T k, 0, none⟩) 0 (n k)] 34)) fun _ _ => rfl) ⟨w5.heap.size, 0, none⟩ 1 1 [.slice (some ⟨T k, 0, none⟩) 0 (n k)] rfl
          (World.news_of_block (cs := #[.slice (some ⟨T k, 0, none⟩) 0 (n k)]) (t := 34) (fr := (0, 0)) (w := (w5.alloc (.cells #[.slice (some ⟨T k, 0, none⟩) 0 (n k)] 34)).drew) (Go.Deep.blk_alloc_new w5 _)) (by simp [Value.oneCell']) (by unfold maxLen; omega) (by omega) (by simp; omega)
        clear hi34 hz34 hs34 hb34 i34
        obtain ⟨sx', sc', rfl⟩ := owns_form ho6
        have hrow : ∀ b, b < w.heap.size → some b ≠ (Value.slice sx k sc).ownBlock := fun b hb e => by
          have := (owns_lt own4 e.symm).1
          omega
        have hIW := I4.inW
        have b6W : w6.heap[W]? = w5.heap[W]? := by
          have h1 := hg6.block W (by simp; omega) (hrow W (by omega))
          exact h1.trans (hp_alloc_lt hW5)
        have c6 : w6.cell? ⟨W, 23, none⟩ = some (.slice sx k sc) := by rw [World.cell?_of_block b6W]; exact q23
        have f6 : w6.frozen? ⟨W, 23, none⟩ = false := by rw [World.frozen?_of_block b6W, World.frozen?_of_block (oth5 W hWT)]; exact I4.row.frozen 23
        have hfin := spared I4 own4 tch4 ch4 F4 H.out.2.2.2.2.2.1 H.out.2.2.2.2.2.2.1 H.out.2.2.2.2.2.2.2.1 H.out.2.2.2.2.2.2.2.2.1 H.out.2.2.2.2.2.2.2.2.2.1 H.out.2.2.2.2.2.2.2.2.2.2 ho6 hg6 hB hT hTi hTb hCB hCBb hsz.symm hlt h64
        have HO := hid hfin
        clear I4 own4 tch4 ch4 F4 ht5 oth5 os5 tape5 out5 sz5 bZ4 ho6 hg6 hat6 own5 hfin H hrow b6W
        go_wp2
        refine wp_region_noPanic ?_
        go_region_law ((refine step_append_run (by rfl) _ _ 47 (by rfl) (.slice sx k sc) _ _ w6 (by rfl) (by rfl) hr6 ?_))
        all_goals
          refine NoPanic.normal ?_
          go_wp2
          go_roundw
          case rel => exact ⟨k + 1, _, by omega, by go_num, HO.out.1, HO.out.2⟩
          case measure => simp [intOf]; omega
      · have m64 : min k 64 = 64 := by omega
        rw [m64] at hsp
        subst hsp
        have H := hid (And.intro I4 (And.intro own4 (And.intro tch4 (And.intro ch4 F4))))
        clear I4 own4 tch4 ch4 F4 bZ4
        go_wp2
        go_roundw
        case rel =>
          obtain ⟨I4, own4, tch4, ch4, F4⟩ := H.out
          have m65 : min (k + 1) 64 = min k 64 := by omega
          refine ⟨k + 1, _, by omega, by go_num, ⟨I4, by rw [m65]; exact own4, fun k' hk' => ?_, ch4⟩, F4⟩
          have : (k' < k + 1 ∧ k' < 64) = (k' < k ∧ k' < 64) := by simp; omega
          simp only [this]
          exact tch4 k' hk'
        case measure => simp [intOf]; omega
    · have k1 : ¬ (k : Int) < (m : Int) := by omega
      have hkm : k = m := by omega
      subst hkm
      have H := hid (And.intro I F)
      clear I F
      go_wp2
      refine leaves_cons (f := 10) (args := #[.pointer (some ⟨W, 6, none⟩)]) (by simp) (by simp [go_sem]) ?_
      obtain ⟨I, F⟩ := H.out
      refine (unlock_deferred Yba.muLib ⟨W, 6, none⟩ .returning _ (I.wi.cell (i := 6) (by omega)) (I.wi.row.frozen 6)).mono ?_
      rintro e u' w'' ⟨rfl, rfl, rfl⟩
      refine ⟨_, results_none rfl _ _ _, rfl, ⟨spv, I.setLk hB hT hCB 0⟩, ?_⟩
      rw [← HW.out]
      exact F.trans ⟨rfl, rfl, rfl, by simp [World.setCell], fun b hb h1 h2 => Below.heap_setCell _ _ _ _ (by have := I.wi.inW; show b ≠ W; omega)⟩
end Go.Proofs.Ybulkbwok
