/- DERIVED. New, NewApplication; the invariant of the laws. -/
import Derived.Test.YbulkbwokFmtAdd
import Derived.Test.YbulkbwokFmtEq
namespace Go.Proofs.YbulkbwokFmt
open Go.RowKit Go.Extern.Stop Go.Stop Go.Extern

theorem makeMap42 (w : World) (n : Int) : (Instr.makeMap 42 (some (.int .i64 n))).run Ybaf.prog w = .ok (.map (some w.heap.size)) (w.alloc (.map #[] 0)) := by
  unfold Instr.makeMap
  simp only [Sem.run_bind, run_underlying Ybaf.underlying42, Result.andThen_ok]
  rfl

set_option maxHeartbeats 400000 in
theorem new_any (w : World) :
    Calls Ybaf.prog 5 #[] w fun e w' => e = .returned (.pointer (some ⟨w.heap.size + 3, 0, none⟩)) ∧ w' = (((w.alloc (.map #[] 0)).alloc (.map #[] 0)).alloc (.map #[] 0)).alloc (.cells (stCells w.heap.size (w.heap.size + 1) (w.heap.size + 2) (.slice none 0 0) (.slice none 0 0) 0 0) 57) := by
  have hmm := @run_makeMap Ybaf.prog
  go_enter Ybaf.func5, Ybaf.ntmps5
  go_wp2
  go_ret
  exact ⟨rfl, rfl⟩

set_option maxHeartbeats 400000 in
theorem newApp_any (aid q : ByteArray) (w : World) :
    Calls Ybaf.prog 6 #[.string aid, .string q, .slice none 0 0] w fun e w' => e = .returned (.pointer (some ⟨w.heap.size + 1, 0, none⟩)) ∧ w' = (w.alloc (.map #[] 0)).alloc (.cells (appCells aid q 0 (.slice none 0 0) (.slice none 0 0) (.slice none 0 0) w.heap.size 0 0 0) 44) := by
  have hmm := makeMap42
  go_enter Ybaf.func6, Ybaf.ntmps6
  go_wp2
  refine wp_loop_rounds 1 ?_
  rw [rounds_succ]
  go_wp2
  go_ret
  exact ⟨rfl, rfl⟩

theorem apart_nil (v : Value) : Apart (.slice none 0 0) v := fun g hg => by cases hg

theorem new_made (w : World) :
    Calls Ybaf.prog 5 #[] w fun e w' => ∃ S m0 m6 m8, e = .returned (.pointer (some ⟨S, 0, none⟩)) ∧ w.heap.size ≤ S ∧ Below w.heap.size w w' ∧ w'.heap[S]? = some (.cells (stCells m0 m6 m8 (.slice none 0 0) (.slice none 0 0) 0 0) 57) := by
  refine (new_any w).mono ?_
  rintro e w' ⟨rfl, rfl⟩
  exact ⟨_, _, _, _, rfl, by omega, ((((Below.refl _ _).alloc (Nat.le_refl _) _).alloc (by simp) _).alloc (by simp; omega) _).alloc (by simp; omega) _, hp_alloc_at (by simp)⟩

theorem newApp_made (aid q : ByteArray) (w : World) :
    Calls Ybaf.prog 6 #[.string aid, .string q, .slice none 0 0] w fun e w' => ∃ A M, e = .returned (.pointer (some ⟨A, 0, none⟩)) ∧ w.heap.size ≤ A ∧ w.heap.size ≤ M ∧ Below w.heap.size w w' ∧
      w'.heap[A]? = some (.cells (appCells aid q 0 (.slice none 0 0) (.slice none 0 0) (.slice none 0 0) M 0 0 0) 44) ∧ w'.heap[M]? = some (.map #[] 0) := by
  refine (newApp_any aid q w).mono ?_
  rintro e w' ⟨rfl, rfl⟩
  exact ⟨_, w.heap.size, rfl, by omega, Nat.le_refl _, ((Below.refl _ _).alloc (Nat.le_refl _) _).alloc (by simp) _, hp_alloc_at (by simp), by rw [hp_alloc_lt (by simp), hp_alloc_at rfl]⟩

theorem inv_start {base S A M m0 m6 m8 : Nat} {aid q : ByteArray} {w : World} (hA : w.heap[A]? = some (.cells (appCells aid q 0 (.slice none 0 0) (.slice none 0 0) (.slice none 0 0) M 0 0 0) 44)) (hM : w.heap[M]? = some (.map #[] 0))
    (hS : w.heap[S]? = some (.cells (stCells m0 m6 m8 (.slice none 0 0) (.slice none 0 0) 0 0) 57)) (hb : base ≤ w.heap.size) :
    Inv base S A M m0 m6 m8 0 0 0 aid q 0 (.slice none 0 0) (.slice none 0 0) (.slice none 0 0) (.slice none 0 0) (.slice none 0 0) 0 0 0 0 0 #[] 0 [] [] [] [] w :=
  ⟨hA, hS, hM, World.ownsRow_nil _ _ _ _, World.ownsRow_nil _ _ _ _, World.ownsRow_nil _ _ _ _, World.ownsRow_nil _ _ _ _, apart_nil _, apart_nil _, apart_nil _, hb⟩

theorem owns_ge {w : World} {base : Nat} {e : TypeId} {size : Nat} {v : Value} {n : Nat} {xs : List Value} (h : w.ownsRow base e size v n xs) {g : Nat} (hg : some g = v.ownBlock) : base ≤ g := by
  rcases h.2 with ⟨rfl, _⟩ | ⟨g', cap, cur, rfl, hb, _⟩
  · cases hg
  · injection hg with hg; simp at hg; omega

theorem Inv.wr_ge {base S A M m0 m6 m8 nr na np : Nat} {aid q : ByteArray} {st : Int} {rv av lv pv nv : Value} {pend rel seq pa aq : Int} {es : Array MapEntry} {clock : Nat} {rs aks ps ns : List Value} {w : World}
    (h : Inv base S A M m0 m6 m8 nr na np aid q st rv av lv pv nv pend rel seq pa aq es clock rs aks ps ns w) {N n : Nat} (hS : base ≤ S) (hA : base ≤ A) (hM : base ≤ M) (hN : base ≤ N) (k : Nat) (hk : Wr S A M N n rv av pv nv k) : base ≤ k := by
  rcases hk with e | e | e | e | ⟨j, _, e⟩ | e | e | e | e
  · omega
  · omega
  · omega
  · omega
  · omega
  · exact owns_ge h.rvo e
  · exact owns_ge h.avo e
  · exact owns_ge h.pvo e
  · exact owns_ge h.nvo e

theorem below_hp {w w' : World} {k : Nat} {o : Obj} (hb : Below w.heap.size w w') (h : w.heap[k]? = some o) : w'.heap[k]? = some o := by
  rw [hb.block k (lt_of_hp h)]; exact h
theorem below_owns {w w' : World} {base : Nat} {e : TypeId} {size : Nat} {v : Value} {n : Nat} {xs : List Value} (hb : Below w.heap.size w w') (h : w.ownsRow base e size v n xs) : w'.ownsRow base e size v n xs :=
  owns_moved h fun k hk => by
    obtain ⟨cur, hc⟩ := owns_block h hk
    exact hb.block k (lt_of_hp hc)

theorem Inv.below {base S A M m0 m6 m8 nr na np : Nat} {aid q : ByteArray} {st : Int} {rv av lv pv nv : Value} {pend rel seq pa aq : Int} {es : Array MapEntry} {clock : Nat} {rs aks ps ns : List Value} {w w' : World}
    (h : Inv base S A M m0 m6 m8 nr na np aid q st rv av lv pv nv pend rel seq pa aq es clock rs aks ps ns w) (hb : Below w.heap.size w w') : Inv base S A M m0 m6 m8 nr na np aid q st rv av lv pv nv pend rel seq pa aq es clock rs aks ps ns w' :=
  ⟨below_hp hb h.app, below_hp hb h.st, below_hp hb h.map, below_owns hb h.rvo, below_owns hb h.avo, below_owns hb h.pvo, below_owns hb h.nvo, h.rp, h.rn, h.pn, Nat.le_trans h.bas hb.size⟩

theorem MkRel.reqAt {F : Interp} {A n : Nat} {id : ByteArray} {w w' : World} (h : MkRel F A n id w n w') : ReqAt w.heap.size A n id 0 false (fun j => spf F id j) (fun _ => 0) w' := ⟨h.req, h.row, h.asks⟩

theorem Inv.av_far {base S A M m0 m6 m8 nr na np : Nat} {aid q : ByteArray} {st : Int} {rv av lv pv nv : Value} {pend rel seq pa aq : Int} {es : Array MapEntry} {clock : Nat} {rs aks ps ns : List Value} {w : World}
    (h : Inv base S A M m0 m6 m8 nr na np aid q st rv av lv pv nv pend rel seq pa aq es clock rs aks ps ns w) : av.ownBlock ≠ some (w.heap.size + 1) := fun e => by
  obtain ⟨cur, hc⟩ := owns_block h.avo e
  have := lt_of_hp hc; omega

/-- A store into the application's own cells. -/
theorem Inv.setApp {base S A M m0 m6 m8 nr na np : Nat} {aid q : ByteArray} {st : Int} {rv av lv pv nv : Value} {pend rel seq pa aq : Int} {es : Array MapEntry} {clock : Nat} {rs aks ps ns : List Value} {w : World} {i : Nat} {v lv' : Value} {rel' : Int}
    (h : Inv base S A M m0 m6 m8 nr na np aid q st rv av lv pv nv pend rel seq pa aq es clock rs aks ps ns w) (hc : (appCells aid q st rv av lv M pend rel seq).setIfInBounds i v = appCells aid q st rv av lv' M pend rel' seq) :
    Inv base S A M m0 m6 m8 nr na np aid q st rv av lv' pv nv pend rel' seq pa aq es clock rs aks ps ns (w.setCell ⟨A, i, none⟩ v) := by
  refine ⟨?_, ?_, ?_, owns_setCell h.rvo h.app (by decide), owns_setCell h.avo h.app (by decide), owns_setCell h.pvo h.app (by decide), owns_setCell h.nvo h.app (by decide), h.rp, h.rn, h.pn, by simpa using h.bas⟩
  · rw [hp_setCell_at h.app, hc]
  · rw [hp_setCell_ne (ne_of_hp h.st h.app (by decide))]; exact h.st
  · rw [hp_setCell_ne (fun e => ne_of_map h.app h.map e.symm)]; exact h.map

theorem r1_free (v : Value) (b : Nat) : ∀ e ∈ ((#[] : Array MapEntry).push { key := .string ⟨#[114, 48]⟩, val := v, born := b }).toList, ∃ s, e.key = .string s ∧ ((⟨#[114, 49]⟩ : ByteArray) == s) = false := by
  intro e he
  simp at he
  subst he
  exact ⟨_, rfl, by decide⟩

/-- An element of a row that the call owns. -/
theorem owns_cell {w : World} {base : Nat} {e : TypeId} {v : Value} {n : Nat} {xs : List Value} (h : w.ownsRow base e 1 v n xs) (hn : 0 < n) : ∃ g cap, v = .slice (some ⟨g, 0, none⟩) n cap ∧ n ≤ cap ∧ ∀ j, j < n → w.cell? ⟨g, j, none⟩ = xs[j]? := by
  rcases h.2 with ⟨_, h0⟩ | ⟨g, cap, cur, rfl, _, hh, h1, _, h3, h4⟩
  · omega
  · refine ⟨g, cap, rfl, h1, fun j hj => ?_⟩
    rw [cells_of hh, ← h4, List.getElem?_take]
    simp [hj]

/-- NewRequest and AddRequest at once, behind the invariant: what the laws take of them. -/
theorem step_below {base S A M m0 m6 m8 nr na np n N : Nat} {aid q : ByteArray} {st : Int} {rv av lv pv nv : Value} {pend rel seq pa aq : Int} {es : Array MapEntry} {clock : Nat} {rs aks ps ns : List Value} {w0 w w' : World}
    (h : Inv base S A M m0 m6 m8 nr na np aid q st rv av lv pv nv pend rel seq pa aq es clock rs aks ps ns w) (hS : base ≤ S) (hA : base ≤ A) (hM : base ≤ M) (hN : base ≤ N) (hb : Below base w0 w) (hf : Fr (Wr S A M N n rv av pv nv) w w') : Below base w0 w' :=
  hb.trans (hf.below h.bas fun i hi hk => by have := h.wr_ge hS hA hM hN i hk; omega)

end Go.Proofs.YbulkbwokFmt
