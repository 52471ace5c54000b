/- DERIVED. Plain laws on the heap, for this seat's walks. -/
import Derived.WalkKit
import Derived.Deep.QuietTactic
import Derived.Deep.OwnRows
namespace Go.Proofs.YbulkbwokFmt
open Go.RowKit

/-! plain laws on the heap -/
theorem hp_alloc_lt {w : World} {o : Obj} {k : Nat} (h : k < w.heap.size) : (w.alloc o).heap[k]? = w.heap[k]? := Below.heap_alloc w o k h
theorem hp_alloc_at {w : World} {o : Obj} {k : Nat} (h : k = w.heap.size) : (w.alloc o).heap[k]? = some o := by
  subst h; show (w.heap.push o)[w.heap.size]? = _; simp
theorem hp_setCell_ne {w : World} {b i : Nat} {v : Value} {k : Nat} (h : k ≠ b) : (w.setCell ⟨b, i, none⟩ v).heap[k]? = w.heap[k]? := Below.heap_setCell w ⟨b, i, none⟩ v k h
theorem hp_setCell_at {w : World} {b i : Nat} {v : Value} {c : Array Value} {t : TypeId} (h : w.heap[b]? = some (.cells c t)) : (w.setCell ⟨b, i, none⟩ v).heap[b]? = some (.cells (c.setIfInBounds i v) t) := by
  simp [World.setCell, Array.getElem?_modify, h]
theorem hp_drew {w : World} : w.drew.heap = w.heap := rfl
theorem hp_drewN {w : World} {k : Nat} : (w.drewN k).heap = w.heap := by rfl
theorem cells_of {w : World} {b : Nat} {c : Array Value} {t : TypeId} (h : w.heap[b]? = some (.cells c t)) (i : Nat) : w.cell? ⟨b, i, none⟩ = c[i]? := by
  simp [World.cell?, h]
theorem frozen_of {w : World} {b : Nat} {c : Array Value} {t : TypeId} (h : w.heap[b]? = some (.cells c t)) (i : Nat) : w.frozen? ⟨b, i, none⟩ = false := by
  simp [World.frozen?, h]
theorem setCell_ne {w : World} {b i c j : Nat} {v : Value} (h : b ≠ c) : (w.setCell ⟨b, i, none⟩ v).cell? ⟨c, j, none⟩ = w.cell? ⟨c, j, none⟩ :=
  World.cell?_setCell_other _ _ _ _ (fun e => by injection e with e1 _; exact h e1)
theorem lt_of_hp {w : World} {b : Nat} {o : Obj} (h : w.heap[b]? = some o) : b < w.heap.size := by
  rcases Nat.lt_or_ge b w.heap.size with h' | h'
  · exact h'
  · rw [Array.getElem?_eq_none h'] at h; cases h

def ptr (b : Nat) : Value := .pointer (some ⟨b, 0, none⟩)
def askRow (N k n : Nat) : Array Value := ((List.range n).map fun j => if j < k then ptr (N + 3 + 2 * j) else .pointer none).toArray
theorem askRow_at (N k n j : Nat) (h : j < n) : (askRow N k n)[j]? = some (if j < k then ptr (N + 3 + 2 * j) else .pointer none) := by
  simp [askRow, h]
theorem askRow_size (N k n : Nat) : (askRow N k n).size = n := by simp [askRow]
theorem askRow_zero (N n : Nat) : askRow N 0 n = madeCells #[.pointer none] n := by
  apply Array.ext_getElem?
  intro i
  by_cases h : i < n
  · rw [askRow_at _ _ _ _ h]; simp [madeCells, h, Nat.mod_one]
  · rw [Array.getElem?_eq_none (by simp [askRow_size]; omega), Array.getElem?_eq_none (by simp [size_madeCells]; omega)]
theorem askRow_succ (N k n : Nat) (_h : k < n) : (askRow N k n).setIfInBounds k (ptr (N + 3 + 2 * k)) = askRow N (k + 1) n := by
  apply Array.ext_getElem?
  intro i
  by_cases h : i < n
  · rw [Array.getElem?_setIfInBounds, askRow_at _ _ _ _ h, askRow_at _ _ _ _ h]
    by_cases e : k = i
    · subst e; simp [askRow_size, h]
    · rw [if_neg e]
      congr 1
      by_cases e2 : i < k
      · rw [if_pos e2, if_pos (by omega)]
      · rw [if_neg e2, if_neg (by omega)]
  · rw [Array.getElem?_eq_none (by simp [askRow_size]; omega), Array.getElem?_eq_none (by simp [askRow_size]; omega)]
end Go.Proofs.YbulkbwokFmt
