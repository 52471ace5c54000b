/- DERIVED. Rows that the call owns, and the map's store, for this seat's walks. -/
import Derived.Test.YbulkbwokFmtA
namespace Go.Proofs.YbulkbwokFmt
open Go.RowKit Go.Extern.Stop Go.Stop Go.Extern

def appCells (id q : ByteArray) (st : Int) (rv av lv : Value) (M : Nat) (pend rel seq : Int) : Array Value :=
  #[.string id, .string q, .int .i64 st, rv, av, lv, .map (some M), .int .i64 pend, .int .i64 rel, .int .i64 seq]

def setB (w : World) (r : Nat) (o : Obj) : World := { w with heap := w.heap.setIfInBounds r o }
theorem hp_setB_ne {w : World} {r k : Nat} {o : Obj} (h : k ≠ r) : (setB w r o).heap[k]? = w.heap[k]? := by
  simp only [setB, Array.getElem?_setIfInBounds]; rw [if_neg (by omega)]
theorem hp_setB_at {w : World} {r : Nat} {o : Obj} (h : r < w.heap.size) : (setB w r o).heap[r]? = some o := by
  simp [setB, h]

theorem ne_of_hp {w : World} {a b : Nat} {c d : Array Value} {t u : TypeId} (h : w.heap[a]? = some (.cells c t)) (k : w.heap[b]? = some (.cells d u)) (hne : t ≠ u) : a ≠ b := by
  rintro rfl; rw [h] at k; injection k with k; injection k with _ k; exact hne k
theorem ne_of_map {w : World} {a b : Nat} {c : Array Value} {t : TypeId} {es : Array MapEntry} {n : Nat} (h : w.heap[a]? = some (.cells c t)) (k : w.heap[b]? = some (.map es n)) : a ≠ b := by
  rintro rfl; rw [h] at k; cases k

theorem owns_block {w : World} {base : Nat} {e : TypeId} {size : Nat} {v : Value} {n : Nat} {xs : List Value} (h : w.ownsRow base e size v n xs) {g : Nat} (hg : v.ownBlock = some g) : ∃ cur, w.heap[g]? = some (.cells cur e (0, 0)) := by
  rcases h.2 with ⟨rfl, _⟩ | ⟨g', cap, cur, rfl, _, hh, _⟩
  · cases hg
  · injection hg with hg; exact ⟨cur, by rw [← hg]; exact hh⟩
theorem owns_moved {w w' : World} {base : Nat} {e : TypeId} {size : Nat} {v : Value} {n : Nat} {xs : List Value} (h : w.ownsRow base e size v n xs) (hk : ∀ g, v.ownBlock = some g → w'.heap[g]? = w.heap[g]?) : w'.ownsRow base e size v n xs := by
  refine ⟨h.1, ?_⟩
  rcases h.2 with h2 | ⟨g', cap, cur, rfl, hb, hh, r⟩
  · exact Or.inl h2
  · exact Or.inr ⟨g', cap, cur, rfl, hb, by rw [hk g' rfl]; exact hh, r⟩
theorem owns_apart {w : World} {base : Nat} {e : TypeId} {size : Nat} {v : Value} {n : Nat} {xs : List Value} (h : w.ownsRow base e size v n xs) {a : Nat} {c : Array Value} {t : TypeId} (ha : w.heap[a]? = some (.cells c t)) (hne : t ≠ e) : some a ≠ v.ownBlock := by
  intro hg
  obtain ⟨cur, hc⟩ := owns_block h hg.symm
  exact ne_of_hp ha hc hne rfl
theorem owns_apart_map {w : World} {base : Nat} {e : TypeId} {size : Nat} {v : Value} {n : Nat} {xs : List Value} (h : w.ownsRow base e size v n xs) {a : Nat} {es : Array MapEntry} {c : Nat} (ha : w.heap[a]? = some (.map es c)) : some a ≠ v.ownBlock := by
  intro hg
  obtain ⟨cur, hc⟩ := owns_block h hg.symm
  exact ne_of_map hc ha rfl

/-- A store of a new key. -/
theorem findNow_free (id : ByteArray) (l : List MapEntry) (i : Nat) (h : ∀ e ∈ l, ∃ s, e.key = .string s ∧ (id == s) = false) : Instr.findNow .string (.string id) l i = some none := by
  induction l generalizing i with
  | nil => rfl
  | cons e l ih =>
    obtain ⟨s, hs, hne⟩ := h e (by simp)
    simp only [Instr.findNow, hs, Instr.sameNow, hne]
    exact ih _ fun e he => h e (by simp [he])
theorem checkKey9 (b : Bool) (id : ByteArray) (w : World) : (Instr.checkKey b 10000 9 (.string id)).run Ybaf.prog w = .ok () w := by kernel_rfl
theorem run_getObj_map {P : Program} {w : World} {M : Nat} {es : Array MapEntry} {clock : Nat} (hM : w.heap[M]? = some (.map es clock)) : (Go.getObj M).run P w = .ok (.map es clock) w := by
  simp [Go.getObj, Sem.run, hM]
theorem run_setObj_map {P : Program} {w : World} {M : Nat} {es : Array MapEntry} {clock : Nat} (hM : w.heap[M]? = some (.map es clock)) (o : Obj) : (Go.setObj M o).run P w = .ok () (setB w M o) := by
  simp [Go.setObj, Sem.run, hM, setB]
theorem run_mapUpdate_free (id : ByteArray) (v : Value) (M : Nat) (es : Array MapEntry) (clock : Nat) (w : World) (hM : w.heap[M]? = some (.map es clock)) (h : ∀ e ∈ es.toList, ∃ s, e.key = .string s ∧ (id == s) = false) :
    (Instr.mapUpdate 42 (.map (some M)) (.string id) v).run Ybaf.prog w = .ok () (setB w M (.map (es.push { key := .string id, val := v, born := clock }) (clock + 1))) := by
  have hf := findNow_free id es.toList 0 h
  unfold Instr.mapUpdate Instr.findKey
  simp only [Sem.run_bind, run_underlying Ybaf.underlying42, run_underlying Ybaf.underlying9, Result.andThen_ok, run_getObj_map hM, checkKey9, hf, Sem.run_pure, run_setObj_map hM]

end Go.Proofs.YbulkbwokFmt
