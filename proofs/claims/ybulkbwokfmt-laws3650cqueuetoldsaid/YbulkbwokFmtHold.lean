/- DERIVED. The walk of (*Application).hold. -/
import Derived.Test.YbulkbwokFmtM
import Derived.Deep.RegionLaw
import Derived.Deep.DrawnRows
import Derived.BigRegion
namespace Go.Proofs.YbulkbwokFmt
attribute [local go_sem ↓] Go.wp_at_zero Go.wp_at_succ
open Go.RowKit Go.Extern.Stop Go.Stop Go.Extern

/-- Every old block but those of S is as it was. -/
structure Fr (S : Nat → Prop) (w w' : World) : Prop where
  os : w'.os = w.os
  tape : w'.tape = w.tape
  output : w'.output = w.output
  size : w.heap.size ≤ w'.heap.size
  block : ∀ k, k < w.heap.size → ¬ S k → w'.heap[k]? = w.heap[k]?

theorem Fr.trans {S T U : Nat → Prop} {a b c : World} (h : Fr S a b) (k : Fr T b c) (hS : ∀ i, i < a.heap.size → S i → U i) (hT : ∀ i, i < a.heap.size → T i → U i) : Fr U a c :=
  ⟨k.os.trans h.os, k.tape.trans h.tape, k.output.trans h.output, Nat.le_trans h.size k.size, fun i hi hn =>
    (k.block i (Nat.lt_of_lt_of_le hi h.size) fun ht => hn (hT i hi ht)).trans (h.block i hi fun hs => hn (hS i hi hs))⟩
theorem Fr.mono {S U : Nat → Prop} {a b : World} (h : Fr S a b) (hS : ∀ i, i < a.heap.size → S i → U i) : Fr U a b :=
  ⟨h.os, h.tape, h.output, h.size, fun i hi hn => h.block i hi fun hs => hn (hS i hi hs)⟩
theorem Fr.drew {S : Nat → Prop} {a b : World} (h : Fr S a b) : Fr S a b.drew := ⟨h.os, h.tape, h.output, h.size, h.block⟩
theorem Fr.drewN {S : Nat → Prop} {a b : World} (h : Fr S a b) (n : Nat) : Fr S a (b.drewN n) := ⟨h.os, h.tape, h.output, h.size, h.block⟩
theorem Fr.below {S : Nat → Prop} {a b : World} (h : Fr S a b) {B : Nat} (hB : B ≤ a.heap.size) (hS : ∀ i, i < B → ¬ S i) : Below B a b :=
  ⟨h.os, h.tape, h.output, h.size, fun i hi => h.block i (by omega) (hS i hi)⟩
theorem fr_setCell (w : World) (b i : Nat) (v : Value) : Fr (· = b) w (w.setCell ⟨b, i, none⟩ v) :=
  ⟨rfl, rfl, rfl, by simp, fun k _ hn => hp_setCell_ne hn⟩
theorem fr_setB (w : World) (b : Nat) (o : Obj) : Fr (· = b) w (setB w b o) :=
  ⟨rfl, rfl, rfl, by simp [setB], fun k _ hn => hp_setB_ne hn⟩
theorem fr_alloc (w : World) (o : Obj) : Fr (fun _ => False) w (w.alloc o) :=
  ⟨rfl, rfl, rfl, by simp, fun k hk _ => hp_alloc_lt hk⟩
theorem fr_grown {w w' : World} {row : Option Nat} (h : w.grownBy w' row) : Fr (fun k => some k = row) w w' :=
  ⟨h.os, h.tape, h.output, h.size, fun k hk hn => h.block k hk hn⟩

theorem cell_setB_ne {w : World} {r b i : Nat} {o : Obj} (h : b ≠ r) : (setB w r o).cell? ⟨b, i, none⟩ = w.cell? ⟨b, i, none⟩ := World.cell?_of_block (hp_setB_ne h)
theorem frozen_setB_ne {w : World} {r b i : Nat} {o : Obj} (h : b ≠ r) : (setB w r o).frozen? ⟨b, i, none⟩ = w.frozen? ⟨b, i, none⟩ := World.frozen?_of_block (hp_setB_ne h)

/-- What hold needs of the world. -/
structure HoldPre (base A R M PB n nr na : Nat) (id aid q : ByteArray) (st : Int) (rv av lv : Value) (pend rel seq rseq : Int) (lst : Bool) (es : Array MapEntry) (clock : Nat) (rs aks row : List Value) (w : World) : Prop where
  app : w.heap[A]? = some (.cells (appCells aid q st rv av lv M pend rel seq) 44)
  req : w.heap[R]? = some (.cells (reqCells id n (.slice (some ⟨PB, 0, none⟩) n n) rseq lst) 38)
  map : w.heap[M]? = some (.map es clock)
  pb : w.heap[PB]? = some (.cells row.toArray 45)
  rvo : w.ownsRow base 28 1 rv nr rs
  avo : w.ownsRow base 45 1 av na aks
  apart : av.ownBlock ≠ some PB
  bas : base ≤ w.heap.size

theorem hold_step0 {base A R M PB n nr na : Nat} {id aid q : ByteArray} {st : Int} {rv av lv : Value} {pend rel seq rseq : Int} {lst : Bool} {es : Array MapEntry} {clock : Nat} {rs aks row : List Value} {w w1 : World} {o : Obj} {rv' : Value}
    (h : HoldPre base A R M PB n nr na id aid q st rv av lv pend rel seq rseq lst es clock rs aks row w)
    (ho : w1.ownsRow base 28 1 rv' (nr + 1) (rs ++ [ptr R])) (hg : (w.alloc o).grownBy w1 rv.ownBlock) :
    HoldPre base A R M PB n (nr + 1) na id aid q st rv' av lv pend rel seq rseq lst es clock (rs ++ [ptr R]) aks row (w1.setCell ⟨A, 3, none⟩ rv') := by
  have old : ∀ k, k < w.heap.size → some k ≠ rv.ownBlock → w1.heap[k]? = w.heap[k]? := fun k hk hne => by rw [hg.block k (by simp; omega) hne, hp_alloc_lt hk]
  have oA := old A (lt_of_hp h.app) (owns_apart h.rvo h.app (by decide))
  have nR : R ≠ A := ne_of_hp h.req h.app (by decide)
  have nM : M ≠ A := fun e => ne_of_map h.app h.map e.symm
  have nP : PB ≠ A := ne_of_hp h.pb h.app (by decide)
  refine ⟨?_, ?_, ?_, ?_, ?_, ?_, h.apart, ?_⟩
  · rw [hp_setCell_at (oA.trans h.app)]; rfl
  · rw [hp_setCell_ne nR, old R (lt_of_hp h.req) (owns_apart h.rvo h.req (by decide))]; exact h.req
  · rw [hp_setCell_ne nM, old M (lt_of_hp h.map) (owns_apart_map h.rvo h.map)]; exact h.map
  · rw [hp_setCell_ne nP, old PB (lt_of_hp h.pb) (owns_apart h.rvo h.pb (by decide))]; exact h.pb
  · refine owns_moved ho fun k hk => ?_
    have := owns_apart ho (oA.trans h.app) (by decide)
    exact hp_setCell_ne fun e => this (by rw [← e]; exact hk.symm)
  · refine owns_moved (w := w1) (owns_moved h.avo fun k hk => ?_) fun k hk => ?_
    · obtain ⟨cur, hc⟩ := owns_block h.avo hk
      exact old k (lt_of_hp hc) (owns_apart h.rvo hc (by decide))
    · have := owns_apart h.avo h.app (by decide)
      exact hp_setCell_ne fun e => this (by rw [← e]; exact hk.symm)
  · have := hg.size; have := h.bas; simp at *; omega

theorem hold_step1 {base A R M PB n nr na : Nat} {id aid q : ByteArray} {st : Int} {rv av lv : Value} {pend rel seq rseq : Int} {lst : Bool} {es es' : Array MapEntry} {clock clock' : Nat} {rs aks row : List Value} {w : World}
    (h : HoldPre base A R M PB n nr na id aid q st rv av lv pend rel seq rseq lst es clock rs aks row w) :
    HoldPre base A R M PB n nr na id aid q st rv av lv pend rel seq rseq lst es' clock' rs aks row (setB w M (.map es' clock')).drew := by
  refine ⟨?_, ?_, ?_, ?_, ?_, ?_, h.apart, by simpa [setB] using h.bas⟩ <;> try simp only [hp_drew]
  · rw [hp_setB_ne (ne_of_map h.app h.map)]; exact h.app
  · rw [hp_setB_ne (ne_of_map h.req h.map)]; exact h.req
  · exact hp_setB_at (lt_of_hp h.map)
  · rw [hp_setB_ne (ne_of_map h.pb h.map)]; exact h.pb
  · refine owns_moved h.rvo fun k hk => ?_
    obtain ⟨cur, hc⟩ := owns_block h.rvo hk
    exact hp_setB_ne (ne_of_map hc h.map)
  · refine owns_moved h.avo fun k hk => ?_
    obtain ⟨cur, hc⟩ := owns_block h.avo hk
    exact hp_setB_ne (ne_of_map hc h.map)

theorem hold_step2 {base A R M PB n nr na : Nat} {id aid q : ByteArray} {st : Int} {rv av lv : Value} {pend rel seq rseq : Int} {lst : Bool} {es : Array MapEntry} {clock : Nat} {rs aks row : List Value} {w w1 : World} {av' : Value}
    (h : HoldPre base A R M PB n nr na id aid q st rv av lv pend rel seq rseq lst es clock rs aks row w)
    (ho : w1.ownsRow base 45 1 av' (na + n) (aks ++ row)) (hg : w.grownBy w1 av.ownBlock) (hat : av'.ownBlock = av.ownBlock ∨ av'.ownBlock = some w.heap.size) :
    HoldPre base A R M PB n nr (na + n) id aid q st rv av' lv pend rel seq rseq lst es clock rs (aks ++ row) row (w1.setCell ⟨A, 4, none⟩ av') := by
  have old : ∀ k, k < w.heap.size → some k ≠ av.ownBlock → w1.heap[k]? = w.heap[k]? := fun k hk hne => hg.block k hk hne
  have oA := old A (lt_of_hp h.app) (owns_apart h.avo h.app (by decide))
  have nR : R ≠ A := ne_of_hp h.req h.app (by decide)
  have nM : M ≠ A := fun e => ne_of_map h.app h.map e.symm
  have nP : PB ≠ A := ne_of_hp h.pb h.app (by decide)
  refine ⟨?_, ?_, ?_, ?_, ?_, ?_, ?_, ?_⟩
  · rw [hp_setCell_at (oA.trans h.app)]; rfl
  · rw [hp_setCell_ne nR, old R (lt_of_hp h.req) (owns_apart h.avo h.req (by decide))]; exact h.req
  · rw [hp_setCell_ne nM, old M (lt_of_hp h.map) (owns_apart_map h.avo h.map)]; exact h.map
  · rw [hp_setCell_ne nP, old PB (lt_of_hp h.pb) (Ne.symm h.apart)]; exact h.pb
  · refine owns_moved (w := w1) (owns_moved h.rvo fun k hk => ?_) fun k hk => ?_
    · obtain ⟨cur, hc⟩ := owns_block h.rvo hk
      exact old k (lt_of_hp hc) (owns_apart h.avo hc (by decide))
    · have := owns_apart h.rvo h.app (by decide)
      exact hp_setCell_ne fun e => this (by rw [← e]; exact hk.symm)
  · refine owns_moved ho fun k hk => ?_
    have := owns_apart ho (oA.trans h.app) (by decide)
    exact hp_setCell_ne fun e => this (by rw [← e]; exact hk.symm)
  · rcases hat with e | e
    · rw [e]; exact h.apart
    · rw [e]; have := lt_of_hp h.pb; intro e; injection e; omega
  · have := hg.size; have := h.bas; simp at *; omega

theorem hold_step3 {base A R M PB n nr na : Nat} {id aid q : ByteArray} {st : Int} {rv av lv : Value} {pend pend' rel seq rseq : Int} {lst : Bool} {es : Array MapEntry} {clock : Nat} {rs aks row : List Value} {w : World}
    (h : HoldPre base A R M PB n nr na id aid q st rv av lv pend rel seq rseq lst es clock rs aks row w) :
    HoldPre base A R M PB n nr na id aid q st rv av lv pend' rel seq rseq lst es clock rs aks row (w.setCell ⟨A, 7, none⟩ (.int .i64 pend')) := by
  have nR : R ≠ A := ne_of_hp h.req h.app (by decide)
  have nM : M ≠ A := fun e => ne_of_map h.app h.map e.symm
  have nP : PB ≠ A := ne_of_hp h.pb h.app (by decide)
  refine ⟨?_, ?_, ?_, ?_, ?_, ?_, h.apart, by simpa using h.bas⟩
  · rw [hp_setCell_at h.app]; rfl
  · rw [hp_setCell_ne nR]; exact h.req
  · rw [hp_setCell_ne nM]; exact h.map
  · rw [hp_setCell_ne nP]; exact h.pb
  · refine owns_moved h.rvo fun k hk => ?_
    have := owns_apart h.rvo h.app (by decide)
    exact hp_setCell_ne fun e => this (by rw [← e]; exact hk.symm)
  · refine owns_moved h.avo fun k hk => ?_
    have := owns_apart h.avo h.app (by decide)
    exact hp_setCell_ne fun e => this (by rw [← e]; exact hk.symm)

theorem HoldPre.drew {base A R M PB n nr na : Nat} {id aid q : ByteArray} {st : Int} {rv av lv : Value} {pend rel seq rseq : Int} {lst : Bool} {es : Array MapEntry} {clock : Nat} {rs aks row : List Value} {w : World}
    (h : HoldPre base A R M PB n nr na id aid q st rv av lv pend rel seq rseq lst es clock rs aks row w) :
    HoldPre base A R M PB n nr na id aid q st rv av lv pend rel seq rseq lst es clock rs aks row w.drew :=
  ⟨h.app, h.req, h.map, h.pb, h.rvo, h.avo, h.apart, h.bas⟩

theorem owns_form {w : World} {base : Nat} {e : TypeId} {size : Nat} {v : Value} {n : Nat} {xs : List Value} (h : w.ownsRow base e size v n xs) : ∃ x c, v = .slice x n c := by
  rcases h.2 with ⟨rfl, rfl⟩ | ⟨g', cap, cur, rfl, _⟩
  · exact ⟨_, _, rfl⟩
  · exact ⟨_, _, rfl⟩

section
variable {P : Program} {w : World}
/-- An append whose run is known. -/
theorem wp_append_run {o : Oper} {a : Act} {K : Act → World → Prop} {Q : Exit → Act → World → Prop} (s x : Operand) (t : TypeId)
    (ho : o.op = .call { callee := .builtin .append, args := #[s, x], argTypes := #[t, t] }) (vs vx v' : Value) (w' : World) (hs : a.eval s = vs) (hx : a.eval x = vx)
    (hr : (Builtin.append_ #[t, t] o.type #[vs, vx]).run P w = .ok v' w') (h : K (a.put o.dst v') w') : o.wp P a w K Q := by
  unfold Oper.wp execOp
  simp only [ho, resolve, invoke, builtin, Sem.run_bind, Sem.run_pure, Result.andThen_ok, List.map_toArray, List.map_cons, List.map_nil, hs, hx, hr]
  exact h
theorem wpList_append_run {ops : Array Oper} {rest : List Oper} {o : Oper} {a : Act} {Q : Exit → Act → World → Prop} (hgd : o.guard = none) (s x : Operand) (t : TypeId)
    (ho : o.op = .call { callee := .builtin .append, args := #[s, x], argTypes := #[t, t] }) (vs vx v' : Value) (w' : World) (hs : a.eval s = vs) (hx : a.eval x = vx)
    (hr : (Builtin.append_ #[t, t] o.type #[vs, vx]).run P w = .ok v' w') (h : wpList P ops Q rest (a.put o.dst v') w') : wpList P ops Q (o :: rest) a w :=
  wpList_plain hgd fun _ hK => wp_append_run s x t ho vs vx v' w' hs hx hr (hK _ _ h)
theorem step_append_run {ops : Array Oper} {o : Oper} {a : Act} {K : Act → World → Prop} {Q : Exit → Act → World → Prop} {E : Prop} (hgd : o.guard = none) (s x : Operand) (t : TypeId)
    (ho : o.op = .call { callee := .builtin .append, args := #[s, x], argTypes := #[t, t] }) (vs vx v' : Value) (w' : World) (hs : a.eval s = vs) (hx : a.eval x = vx)
    (hr : (Builtin.append_ #[t, t] o.type #[vs, vx]).run P w = .ok v' w') (h : K (a.put o.dst v') w') : if Region.wanted o (yielded ops a.tmps) = true then Oper.wp P o a w K Q else E := by
  have hw : Region.wanted o (yielded ops a.tmps) = true := by simp [Region.wanted, hgd]
  rw [if_pos hw]
  exact wp_append_run s x t ho vs vx v' w' hs hx hr h
end

set_option maxRecDepth 100000 in
set_option maxHeartbeats 800000 in
theorem hold_any (base A R M PB n nr na : Nat) (id aid q : ByteArray) (st : Int) (rv av lv : Value) (pend rel seq rseq : Int) (lst : Bool) (es : Array MapEntry) (clock : Nat) (rs aks row : List Value) (w : World)
    (h : HoldPre base A R M PB n nr na id aid q st rv av lv pend rel seq rseq lst es clock rs aks row w) (hrow : row.length = n) (h1 : ∀ u ∈ row, u.oneCell' = true)
    (hn : n ≤ 1000) (hnr : nr ≤ 1000) (hna : na ≤ 1000000) (hp0 : 0 ≤ pend) (hp1 : pend ≤ 1000000)
    (hfree : ∀ e ∈ es.toList, ∃ s, e.key = .string s ∧ (id == s) = false) :
    Calls Ybaf.prog 10 #[.pointer (some ⟨A, 0, none⟩), .pointer (some ⟨R, 0, none⟩)] w fun e w' => e = .returned (.tuple #[]) ∧
      ∃ rv' av', HoldPre base A R M PB n (nr + 1) (na + n) id aid q st rv' av' lv (pend + n) rel seq rseq lst (es.push { key := .string id, val := ptr R, born := clock }) (clock + 1) (rs ++ [ptr R]) (aks ++ row) row w' ∧
        Fr (fun k => k = A ∨ k = M ∨ some k = rv.ownBlock ∨ some k = av.ownBlock) w w' ∧ (∀ g, rv'.ownBlock = some g → rv.ownBlock = some g ∨ w.heap.size ≤ g) ∧ (∀ g, av'.ownBlock = some g → av.ownBlock = some g ∨ w.heap.size ≤ g) := by
  obtain ⟨i28, hi28, hz28, hs28, hb28⟩ := info_parts info28
  obtain ⟨i45, hi45, hz45, hs45, hb45⟩ := info_parts info45
  have a3 : w.cell? ⟨A, 3, none⟩ = some rv := by rw [cells_of h.app]; rfl
  have hxA := owns_apart h.rvo h.app (by decide)
  have lA := lt_of_hp h.app
  have fA := frozen_of h.app 3
  obtain ⟨rv', w1, hr1, ho1, hg1, _, hat1⟩ := run_append_own_at (P := Ybaf.prog) (w.alloc (.cells #[.pointer (some ⟨R, 0, none⟩)] 28)) base 27 27 28 i28 _ 1 8 Ybaf.underlying27 hi28 hz28 hs28 hb28 rfl (by omega) rv nr rs (h.rvo.alloc _) ⟨w.heap.size, 0, none⟩ 1 1 [ptr R] rfl
    (World.news_of_block (cs := #[ptr R]) (t := 28) (fr := (0, 0)) (heap_alloc_new w _)) (by simp [Value.oneCell', ptr]) (by unfold maxLen; omega) (by omega) (by have := h.bas; simp; omega)
  obtain ⟨x1, c1, rfl⟩ := owns_form ho1
  have cA1 : w1.cell? ⟨A, 3, none⟩ = some rv := by rw [hg1.cell_far ⟨A, 3, none⟩ (by simp; omega) hxA, World.cell?_alloc_past _ _ _ lA, a3]
  have fA1 : w1.frozen? ⟨A, 3, none⟩ = false := by rw [hg1.frozen_far ⟨A, 3, none⟩ (by simp; omega) hxA, World.frozen?_alloc_past _ _ _ lA, fA]
  have h2 := hold_step0 h ho1 hg1
  have f2 : Fr (fun k => k = A ∨ some k = rv.ownBlock) w (w1.setCell ⟨A, 3, none⟩ (.slice x1 (nr + 1) c1)) :=
    (((fr_alloc w _).trans (U := fun k => some k = rv.ownBlock) (fr_grown hg1) (fun _ _ hf => hf.elim) (fun _ _ hk => hk))).trans (fr_setCell w1 A 3 _) (fun _ _ hk => .inr hk) (fun _ _ hk => .inl hk)
  have hl2 : ∀ g, (Value.slice x1 (nr + 1) c1).ownBlock = some g → rv.ownBlock = some g ∨ w.heap.size ≤ g := fun g hg => by
    rcases hat1 with e | e
    · left; rw [← e]; exact hg
    · right; rw [e] at hg; injection hg with hg; simp at hg; omega
  have H : Hid _ := And.intro h (And.intro h1 (And.intro hfree (And.intro h2 (And.intro f2 hl2))))
  clear h h1 hfree h2 f2 hl2 ho1 hg1 hat1 fA hxA
  go_enter Ybaf.func10, Ybaf.ntmps10
  go_wp2_with (at_builtin; refine wpList_append_run (by rfl) _ _ 27 (by rfl) rv _ _ w1 (by rfl) (by rfl) hr1 ?_)
  obtain ⟨h, h1, hfree, h2, f2, hl2⟩ := H.out
  clear H hr1 cA1 fA1 a3 lA
  generalize w1.setCell ⟨A, 3, none⟩ (.slice x1 (nr + 1) c1) = w2 at h2 f2 ⊢
  -- the map's store
  have a6 : w2.cell? ⟨A, 6, none⟩ = some (.map (some M)) := by rw [cells_of h2.app]; rfl
  have r0 : w2.cell? ⟨R, 0, none⟩ = some (.string id) := by rw [cells_of h2.req]; rfl
  have nA := ne_of_map h2.app h2.map
  have nR := ne_of_map h2.req h2.map
  have hmu := run_mapUpdate_free id (.pointer (some ⟨R, 0, none⟩)) M es clock w2.drew h2.map hfree
  have h3 : HoldPre base A R M PB n (nr + 1) na id aid q st (.slice x1 (nr + 1) c1) av lv pend rel seq rseq lst (es.push { key := .string id, val := ptr R, born := clock }) (clock + 1) (rs ++ [ptr R]) aks row (setB w2.drew M (.map (es.push { key := .string id, val := .pointer (some ⟨R, 0, none⟩), born := clock }) (clock + 1))) :=
    hold_step1 (es' := es.push { key := .string id, val := ptr R, born := clock }) (clock' := clock + 1) h2
  have f3 : Fr (fun k => k = A ∨ k = M ∨ some k = rv.ownBlock) w (setB w2.drew M (.map (es.push { key := .string id, val := .pointer (some ⟨R, 0, none⟩), born := clock }) (clock + 1))) := f2.trans (U := fun k => k = A ∨ k = M ∨ some k = rv.ownBlock) (fr_setB w2 M (.map (es.push { key := .string id, val := ptr R, born := clock }) (clock + 1))).drew (fun k _ hk => hk.elim .inl fun e => .inr (.inr e)) (fun k _ hk => .inr (.inl hk))
  have H : Hid _ := And.intro h (And.intro h1 (And.intro hl2 (And.intro h3 f3)))
  clear h h1 hfree h2 f2 hl2 h3 f3
  go_region_held3 (fun w' => w'.cell? ⟨A, 6, none⟩ = some (.map (some M)) ∧ w'.cell? ⟨R, 0, none⟩ = some (.string id)) (first | (go_keep; done) | (go_split_ands; refine ⟨?_, ?_⟩ <;> (simp (disch := (first | omega | assumption)) only [World.cell?_drew, cell_setB_ne]; assumption))) (fail)
  go_wp2_with fail
  obtain ⟨h, h1, hl2, h3, f3⟩ := H.out
  clear H hmu a6 r0 nA nR
  generalize setB w2.drew M (.map (es.push { key := .string id, val := .pointer (some ⟨R, 0, none⟩), born := clock }) (clock + 1)) = w3 at h3 f3 ⊢
  -- the asks
  have a4 : w3.cell? ⟨A, 4, none⟩ = some av := by rw [cells_of h3.app]; rfl
  have r10 : w3.cell? ⟨R, 10, none⟩ = some (.slice (some ⟨PB, 0, none⟩) n n) := by rw [cells_of h3.req]; rfl
  obtain ⟨av', w4, hr4, ho4, hg4, _, hat4⟩ := run_append_own_at (P := Ybaf.prog) w3.drew base 36 36 45 i45 _ 1 8 Ybaf.underlying36 hi45 hz45 hs45 hb45 rfl (by omega) av na aks h3.avo ⟨PB, 0, none⟩ n n row (by omega)
    (World.news_of_block (cs := row.toArray) (t := 45) (fr := (0, 0)) h3.pb) h1 (by unfold maxLen; omega) (by omega) h3.bas
  obtain ⟨x4, c4, rfl⟩ := owns_form ho4
  have hxA := owns_apart h3.avo h3.app (by decide)
  have hxR := owns_apart h3.avo h3.req (by decide)
  have cA4 : w4.cell? ⟨A, 4, none⟩ = some av := by rw [hg4.cell_far ⟨A, 4, none⟩ (lt_of_hp h3.app) hxA]; exact a4
  have cR4 : w4.cell? ⟨R, 10, none⟩ = some (.slice (some ⟨PB, 0, none⟩) n n) := by rw [hg4.cell_far ⟨R, 10, none⟩ (lt_of_hp h3.req) hxR]; exact r10
  have fA4 : w4.frozen? ⟨A, 4, none⟩ = false := by rw [hg4.frozen_far ⟨A, 4, none⟩ (lt_of_hp h3.app) hxA]; exact frozen_of h3.app 4
  go_region_law ((refine step_append_run (by rfl) _ _ 36 (by rfl) av _ _ w4 (by rfl) (by rfl) hr4 ?_))
  all_goals
    go_wp2_with fail
    have hg4' : w3.grownBy w4 av.ownBlock := ⟨hg4.os, hg4.tape, hg4.output, hg4.size, hg4.block⟩
    have h5 := hold_step2 h3 ho4 hg4' hat4
    have f5 : Fr (fun k => k = A ∨ k = M ∨ some k = rv.ownBlock ∨ some k = av.ownBlock) w (w4.setCell ⟨A, 4, none⟩ (.slice x4 (na + n) c4)) :=
      (f3.trans (U := fun k => k = A ∨ k = M ∨ some k = rv.ownBlock ∨ some k = av.ownBlock) (fr_grown hg4') (fun k _ hk => hk.elim .inl fun e => .inr (e.elim .inl fun e => .inr (.inl e))) (fun k _ hk => .inr (.inr (.inr hk)))).trans
        (fr_setCell w4 A 4 _) (fun k _ hk => hk) (fun k _ hk => .inl hk)
    have hl5 : ∀ g, (Value.slice x4 (na + n) c4).ownBlock = some g → av.ownBlock = some g ∨ w.heap.size ≤ g := fun g hg => by
      rcases hat4 with e | e
      · left; rw [← e]; exact hg
      · right; rw [e] at hg; injection hg with hg; have := f3.size; simp at hg; omega
    clear h3 f3 hr4 ho4 hg4 hg4' hat4 cA4 cR4 fA4 a4 r10 hxA hxR
    generalize w4.setCell ⟨A, 4, none⟩ (.slice x4 (na + n) c4) = w5 at h5 f5 ⊢
    have a7 : w5.cell? ⟨A, 7, none⟩ = some (.int .i64 pend) := by rw [cells_of h5.app]; rfl
    have r5 : w5.cell? ⟨R, 5, none⟩ = some (.int .i64 n) := by rw [cells_of h5.req]; rfl
    have fA5 : w5.frozen? ⟨A, 7, none⟩ = false := frozen_of h5.app 7
    have H : Hid _ := And.intro h (And.intro h1 (And.intro hl2 (And.intro h5 (And.intro f5 hl5))))
    clear h h1 hl2 h5 f5 hl5
    go_region
    all_goals
      go_end0
      obtain ⟨h, h1, hl2, h5, f5, hl5⟩ := H.out
      exact ⟨rfl, _, _, (hold_step3 h5).drew, (f5.trans (fr_setCell w5 A 7 _).drew (fun k _ hk => hk) (fun k _ hk => .inl hk)), hl2, hl5⟩
end Go.Proofs.YbulkbwokFmt
