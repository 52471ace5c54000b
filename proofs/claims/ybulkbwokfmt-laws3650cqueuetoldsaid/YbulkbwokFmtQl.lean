/- DERIVED. The invariant of LawS3650CQueue. -/
import Derived.Test.YbulkbwokFmtInv
import Derived.Test.YbulkbwokFmtShelf
import Derived.Test.YbulkbwokFmtEq
namespace Go.Proofs.YbulkbwokFmt
open Go.RowKit Go.Extern.Stop Go.Stop Go.Extern

/-- The map's entries: the i-th request under its numeral. -/
def entL (Ns : List Nat) : List MapEntry := Ns.mapIdx fun j N => { key := .string (itoaB j), val := ptr N, born := j }
theorem entL_length (Ns : List Nat) : (entL Ns).length = Ns.length := by simp [entL]
theorem entL_snoc (Ns : List Nat) (N : Nat) : (entL Ns).toArray.push { key := .string (itoaB Ns.length), val := ptr N, born := Ns.length } = (entL (Ns ++ [N])).toArray := by
  simp [entL]
theorem entL_free (Ns : List Nat) : ∀ e ∈ (entL Ns).toArray.toList, ∃ s, e.key = .string s ∧ (itoaB Ns.length == s) = false := by
  intro e he
  simp only [entL] at he
  obtain ⟨j, hj, rfl⟩ := List.mem_mapIdx.1 he
  exact ⟨_, rfl, itoaB_ne (by omega)⟩
theorem itoaB_self (i : Nat) : (itoaB i == itoaB i) = true := by rw [beq_toListBytes]; simp
theorem find_at (j : Nat) (v : Value) : ∀ (l : List MapEntry) (a i : Nat), (∀ t, t < j → ∀ e, l[t]? = some e → ∃ s, e.key = .string s ∧ (itoaB a == s) = false) → (∃ e, l[j]? = some e ∧ e.key = .string (itoaB a) ∧ e.val = v) → Instr.findNow .string (.string (itoaB a)) l i = some (some (i + j, v)) := by
  induction j with
  | zero =>
    intro l a i _ ⟨e, he, hk, hv⟩
    cases l with
    | nil => simp at he
    | cons x l =>
      simp at he; subst he
      simp only [Instr.findNow, hk, Instr.sameNow, itoaB_self, hv]; rfl
  | succ j ih =>
    intro l a i hne ⟨e, he, hk, hv⟩
    cases l with
    | nil => simp at he
    | cons x l =>
      obtain ⟨s, hs, hn⟩ := hne 0 (by omega) x (by simp)
      simp only [Instr.findNow, hs, Instr.sameNow, hn]
      rw [ih l a (i + 1) (fun t ht e he => hne (t + 1) (by omega) e (by simpa using he)) ⟨e, by simpa using he, hk, hv⟩]
      congr 3; omega
theorem entL_find (Ns : List Nat) (j N : Nat) (h : Ns[j]? = some N) : Instr.findNow .string (.string (itoaB j)) (entL Ns).toArray.toList 0 = some (some (j, ptr N)) := by
  have := find_at j (ptr N) (entL Ns) j 0 (fun t ht e he => by
    simp only [entL, List.getElem?_mapIdx, Option.map_eq_some_iff] at he
    obtain ⟨_, _, rfl⟩ := he
    exact ⟨_, rfl, itoaB_ne (by omega)⟩) ⟨{ key := .string (itoaB j), val := ptr N, born := j }, by simp only [entL, List.getElem?_mapIdx, h, Option.map_some], rfl, rfl⟩
  simpa using this
theorem run_lookup_ent (Ns : List Nat) (j N M c : Nat) (h : Ns[j]? = some N) (w : World) (hM : w.heap[M]? = some (.map (entL Ns).toArray c)) :
    (Instr.lookup 42 (.map (some M)) (.string (itoaB j)) false).run Ybaf.prog w = .ok (ptr N) w := by
  have hf := entL_find Ns j N h
  unfold Instr.lookup Instr.findKey
  simp only [Sem.run_bind, run_underlying Ybaf.underlying42, run_underlying Ybaf.underlying9, Result.andThen_ok, run_getObj_map hM, checkKey9, hf, Sem.run_pure]
  rfl
theorem run_len_map (M c : Nat) (es : Array MapEntry) (w : World) (hM : w.heap[M]? = some (.map es c)) :
    (Builtin.len_ #[42] 3 #[.map (some M)]).run Ybaf.prog w = .ok (.int .i64 es.size) w := by
  unfold Builtin.len_
  simp only [List.getElem?_toArray, List.getElem?_cons_zero, Sem.run_bind, run_underlying Ybaf.underlying42, Result.andThen_ok, run_getObj_map hM]
  rfl

/-- What holds at the head of the i-th round. -/
structure QL (B S A M m0 m6 m8 : Nat) (w : World) (i total listed : Nat) (qv : Value) (Ns : List Nat) (rv av pv nv : Value) (aks ps ns : List Value) (wr : World) : Prop where
  inv : Inv B S A M m0 m6 m8 i total listed ⟨#[97]⟩ ⟨#[113]⟩ 0 rv av (.slice none 0 0) pv nv total 0 0 total total (entL Ns).toArray i (Ns.map ptr) aks ps ns wr
  qo : wr.ownsRow B 28 1 qv i (Ns.map ptr)
  qr : Apart qv rv
  qp : Apart qv pv
  qn : Apart qv nv
  below : Below B w wr
  nt : total ≤ 7 * i
  nl : listed ≤ i

/-- Behind AddRequest the row of the law's own is as it was. -/
theorem row_kept {base S A M m0 m6 m8 nr na np nq N n : Nat} {aid q id : ByteArray} {st : Int} {rv av lv pv nv qv : Value} {pend rel seq pa aq : Int} {es : Array MapEntry} {clock : Nat} {rs aks ps ns qs : List Value} {w w' : World} {rseq : Int} {lst : Bool} {tx : Nat → ByteArray} {sq : Nat → Int}
    (h : Inv base S A M m0 m6 m8 nr na np aid q st rv av lv pv nv pend rel seq pa aq es clock rs aks ps ns w) (hR : ReqAt N A n id rseq lst tx sq w) (hq : w.ownsRow base 28 1 qv nq qs) (hf : Fr (Wr S A M N n rv av pv nv) w w') (h1 : Apart qv rv) (h2 : Apart qv pv) (h3 : Apart qv nv) : w'.ownsRow base 28 1 qv nq qs :=
  owns_fr hq hf fun g hg => by
    obtain ⟨cur, hc⟩ := owns_block hq hg
    rintro (e | e | e | e | ⟨j, hj, e⟩ | e | e | e | e)
    · exact ne_of_hp hc h.app (by decide) e
    · exact ne_of_map hc h.map e
    · exact ne_of_hp hc h.st (by decide) e
    · exact ne_of_hp hc hR.req (by decide) e
    · exact ne_of_hp hc (hR.asks j hj) (by decide) e
    · exact h1 g hg e.symm
    · exact owns_apart h.avo hc (by decide) e
    · exact h2 g hg e.symm
    · exact h3 g hg e.symm

theorem owns_at {w : World} {base : Nat} {e : TypeId} {x : Option Addr} {n c : Nat} {xs : List Value} (h : w.ownsRow base e 1 (.slice x n c) n xs) (hn : 0 < n) : ∃ g, x = some ⟨g, 0, none⟩ ∧ ∀ j, j < n → w.cell? ⟨g, j, none⟩ = xs[j]? := by
  obtain ⟨g, cap, hv, _, hr⟩ := owns_cell h hn
  injection hv with hv _ _
  exact ⟨g, hv, hr⟩

theorem QL.ln {B S A M m0 m6 m8 : Nat} {w : World} {i total listed : Nat} {qv : Value} {Ns : List Nat} {rv av pv nv : Value} {aks ps ns : List Value} {wr : World} (h : QL B S A M m0 m6 m8 w i total listed qv Ns rv av pv nv aks ps ns wr) : Ns.length = i := by
  have := h.qo.1; simpa using this

/-- Behind an append to a row of the call's own that is none of the invariant's. -/
theorem Inv.grown {base S A M m0 m6 m8 nr na np nq : Nat} {aid q : ByteArray} {st : Int} {rv av lv pv nv qv : Value} {pend rel seq pa aq : Int} {es : Array MapEntry} {clock : Nat} {rs aks ps ns qs : List Value} {w w' : World} {o : Obj}
    (h : Inv base S A M m0 m6 m8 nr na np aid q st rv av lv pv nv pend rel seq pa aq es clock rs aks ps ns w) (hq : w.ownsRow base 28 1 qv nq qs) (hg : (w.alloc o).grownBy w' qv.ownBlock) (h1 : Apart qv rv) (h2 : Apart qv pv) (h3 : Apart qv nv) :
    Inv base S A M m0 m6 m8 nr na np aid q st rv av lv pv nv pend rel seq pa aq es clock rs aks ps ns w' := by
  have old : ∀ k, k < w.heap.size → some k ≠ qv.ownBlock → w'.heap[k]? = w.heap[k]? := fun k hk hne => by rw [hg.block k (by simp; omega) hne, hp_alloc_lt hk]
  have row : ∀ {e : TypeId} {v : Value} {n : Nat} {xs : List Value}, w.ownsRow base e 1 v n xs → (∀ g, v.ownBlock = some g → some g ≠ qv.ownBlock) → w'.ownsRow base e 1 v n xs := fun hv hne => owns_moved hv fun k hk => by
    obtain ⟨cur, hc⟩ := owns_block hv hk
    exact old k (lt_of_hp hc) (hne k hk)
  refine ⟨?_, ?_, ?_, row h.rvo fun g hg e => h1 g e.symm hg, row h.avo fun g hg e => ?_, row h.pvo fun g hg e => h2 g e.symm hg, row h.nvo fun g hg e => h3 g e.symm hg, h.rp, h.rn, h.pn, ?_⟩
  · rw [old A (lt_of_hp h.app) (owns_apart hq h.app (by decide))]; exact h.app
  · rw [old S (lt_of_hp h.st) (owns_apart hq h.st (by decide))]; exact h.st
  · rw [old M (lt_of_hp h.map) (owns_apart_map hq h.map)]; exact h.map
  · obtain ⟨cur, hc⟩ := owns_block h.avo hg
    exact owns_apart hq hc (by decide) e
  · have := hg.size; have := h.bas; simp at *; omega

/-- What the last loop reads, at whatever world in which the old blocks are as they were. -/
def S44 (A M gr gq len j N : Nat) (cr : Nat) (wr w' : World) : Prop :=
  Below wr.heap.size wr w' ∧ w'.cell? ⟨A, 3, none⟩ = some (.slice (some ⟨gr, 0, none⟩) len cr) ∧ w'.cell? ⟨gr, j, none⟩ = some (.pointer (some ⟨N, 0, none⟩)) ∧ w'.cell? ⟨gq, j, none⟩ = some (.pointer (some ⟨N, 0, none⟩)) ∧
    w'.cell? ⟨A, 6, none⟩ = some (.map (some M)) ∧ (Instr.lookup 42 (.map (some M)) (.string (itoaB j)) false).run Ybaf.prog w' = .ok (.pointer (some ⟨N, 0, none⟩)) w'
theorem s44_of {A M gr gq len j N cr c : Nat} {Ns : List Nat} {wr w' : World} (hb : Below wr.heap.size wr w') (hN : Ns[j]? = some N) (hM : wr.heap[M]? = some (.map (entL Ns).toArray c))
    (h3 : wr.cell? ⟨A, 3, none⟩ = some (.slice (some ⟨gr, 0, none⟩) len cr)) (h6 : wr.cell? ⟨A, 6, none⟩ = some (.map (some M))) (hr : wr.cell? ⟨gr, j, none⟩ = some (.pointer (some ⟨N, 0, none⟩))) (hq : wr.cell? ⟨gq, j, none⟩ = some (.pointer (some ⟨N, 0, none⟩))) :
    S44 A M gr gq len j N cr wr w' := by
  refine ⟨hb, ?_, ?_, ?_, ?_, run_lookup_ent Ns j N M c hN w' (below_hp hb hM)⟩
  · rw [hb.cell (World.block_lt_of_cell? _ _ h3)]; exact h3
  · rw [hb.cell (World.block_lt_of_cell? _ _ hr)]; exact hr
  · rw [hb.cell (World.block_lt_of_cell? _ _ hq)]; exact hq
  · rw [hb.cell (World.block_lt_of_cell? _ _ h6)]; exact h6

end Go.Proofs.YbulkbwokFmt
