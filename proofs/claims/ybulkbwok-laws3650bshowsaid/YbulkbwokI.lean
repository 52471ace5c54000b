/- DERIVED. The law's input; the watch and its waiters as the law lays them. -/
import Derived.Test.YbulkbwokH
namespace Go.Proofs.Ybulkbwok
open Go.RowKit Go.MuLone
attribute [local go_sem ↓] Go.wp_at_zero Go.wp_at_succ

structure Inp (X : Option Addr) (n : Nat) (idf : Nat → Int) (A : Nat → Option Addr) (L C : Nat → Nat) (lst : Nat → Nat) (tc tj : Nat → Nat → Nat) (tg : Nat → Nat → Bool) (w : World) : Prop where
  outer : ∀ k, k < n → ∃ b off, X = some ⟨b, off, none⟩ ∧ b < w.heap.size ∧ w.cell? ⟨b, off + k * 3, none⟩ = some (.int .i64 (idf k)) ∧ w.cell? ⟨b, off + k * 3 + 1, none⟩ = some (.slice (A k) (L k) (C k)) ∧ w.cell? ⟨b, off + k * 3 + 2, none⟩ = some (.int .u8 (lst k))
  lstb : ∀ k, k < n → lst k ≤ 255
  inner : ∀ k, k < n → ∀ i, i < L k → ∃ b off, A k = some ⟨b, off, none⟩ ∧ b < w.heap.size ∧ w.cell? ⟨b, off + i * 3, none⟩ = some (.int .u8 (tc k i)) ∧ w.cell? ⟨b, off + i * 3 + 1, none⟩ = some (.int .u8 (tj k i)) ∧ w.cell? ⟨b, off + i * 3 + 2, none⟩ = some (.bool (tg k i))
  tb : ∀ k, k < n → ∀ i, i < L k → tc k i ≤ 255 ∧ tj k i ≤ 255

theorem Inp.below {X : Option Addr} {n : Nat} {idf : Nat → Int} {A : Nat → Option Addr} {L C : Nat → Nat} {lst : Nat → Nat} {tc tj : Nat → Nat → Nat} {tg : Nat → Nat → Bool} {w w' : World} (h : Inp X n idf A L C lst tc tj tg w) (hb : Below w.heap.size w w') : Inp X n idf A L C lst tc tj tg w' := by
  refine ⟨fun k hk => ?_, h.lstb, fun k hk i hi => ?_, h.tb⟩
  · obtain ⟨b, off, hX, hlt, c0, c1, c2⟩ := h.outer k hk
    refine ⟨b, off, hX, Nat.lt_of_lt_of_le hlt hb.size, ?_, ?_, ?_⟩
    · rw [hb.cell (p := ⟨b, off + k * 3, none⟩) hlt]; exact c0
    · rw [hb.cell (p := ⟨b, off + k * 3 + 1, none⟩) hlt]; exact c1
    · rw [hb.cell (p := ⟨b, off + k * 3 + 2, none⟩) hlt]; exact c2
  · obtain ⟨b, off, hX, hlt, c0, c1, c2⟩ := h.inner k hk i hi
    refine ⟨b, off, hX, Nat.lt_of_lt_of_le hlt hb.size, ?_, ?_, ?_⟩
    · rw [hb.cell (p := ⟨b, off + i * 3, none⟩) hlt]; exact c0
    · rw [hb.cell (p := ⟨b, off + i * 3 + 1, none⟩) hlt]; exact c1
    · rw [hb.cell (p := ⟨b, off + i * 3 + 2, none⟩) hlt]; exact c2


def chB (N c j : Nat) : Nat := N + 9 + 3 * (4 * c + j) + 1
def slB (N c j : Nat) : Nat := N + 9 + 3 * (4 * c + j) + 2
def idCells : Array Value := #[.string ⟨#[]⟩, .string ⟨#[97]⟩, .string ⟨#[98]⟩, .string ⟨#[99]⟩]
theorem idCells_get {j : Nat} (hj : j < 4) : idCells[j]? = some (.string (ids j)) := by
  have : j = 0 ∨ j = 1 ∨ j = 2 ∨ j = 3 := by omega
  rcases this with rfl | rfl | rfl | rfl <;> rfl

/-- The watch, t of its waiters laid. -/
structure WF (N : Nat) (at0 : Int) (t : Nat) (w : World) : Prop where
  row : w.rowIs (N + 1) 49 24 (watF 0 at0 at0 (fun c => N + 2 + c) (fun _ => minI) N (.slice none 0 0))
  maps : ∀ c, c < 5 → w.heap[N + 2 + c]? = some (.map #[] 0)
  wait : MapIs kT okT w N (fun p => if 4 * p.1 + p.2 < t then some (.slice (some ⟨slB N p.1 p.2, 0, none⟩) 1 1) else none)
  rows : ∀ c j, c < 5 → j < 4 → 4 * c + j < t → w.heap[slB N c j]? = some (.cells #[.chan (some (chB N c j))] 32)
  opn : ∀ c j, c < 5 → j < 4 → 4 * c + j < t → w.heap[chB N c j]? = some (.chan 0 #[] false 0 0 false)
  var : w.heap[N + 8]? = some (.cells #[.pointer (some ⟨N + 1, 0, none⟩)] 27)
  idb : w.heap[N - 1]? = some (.cells idCells 26)
  size : w.heap.size = N + 9 + 3 * t

theorem WF.done {N : Nat} {at0 : Int} {w : World} (h : WF N at0 20 w) : WI N (N + 69) (N + 1) N (fun c => N + 2 + c) (slB N) (chB N) 0 at0 at0 (fun _ => minI) (.slice none 0 0) (fun _ _ => none) (fun _ _ => false) w := by
  refine ⟨h.row, fun c hc => ⟨[], 0, h.maps c hc, by simp, by simp, fun k _ => rfl⟩, h.wait.congr fun p hp => ?_, fun c j hc hj => h.rows c j hc hj (by omega), fun c j hc hj _ => h.opn c j hc hj (by omega), fun c j hc hj => ⟨_, _, _, _, _, _, h.opn c j hc hj (by omega)⟩, fun c j c' j' _ _ _ _ e => ?_, fun c c' _ _ e => by omega, fun c _ => by omega, by omega, by omega, fun c hc => by omega, fun c j hc hj => ?_, fun c j hc hj => ?_⟩
  · have h1 := hp.1
    have h2 := hp.2
    have : 4 * p.1 + p.2 < 20 := by omega
    simp [wT, this]
  · simp only [chB] at e; omega
  · simp only [slB]; omega
  · simp only [chB]; omega

theorem WF.start {N : Nat} {at0 : Int} {w w1 : World} (h : WN N (N + 1) N (fun c => N + 2 + c) 0 ⟨#[105]⟩ at0 at0 (fun _ => minI) w) (hs : w.heap.size = N + 8) (hi : w.heap[N - 1]? = some (.cells idCells 26)) (hw : w1 = w.alloc (.cells #[.pointer (some ⟨N + 1, 0, none⟩)] 27)) : WF N at0 0 w1 := by
  subst hw
  refine ⟨(h.row.alloc _).congr fun i hi => ?_, fun c hc => (hp_alloc_lt (lt_of_some (h.maps c hc))).trans (h.maps c hc), ⟨[], 0, (hp_alloc_lt (lt_of_some h.wait)).trans h.wait, by simp, by simp, fun k _ => by simp [look_nil]⟩, fun c j _ _ h => by omega, fun c j _ _ h => by omega, ?_, (hp_alloc_lt (lt_of_some hi)).trans hi, by simp [hs]⟩
  · rcases upto24 hi with rfl | rfl | rfl | rfl | rfl | rfl | rfl | rfl | rfl | rfl | rfl | rfl | rfl | rfl | rfl | rfl | rfl | rfl | rfl | rfl | rfl | rfl | rfl | rfl <;> rfl
  · rw [← hs]; exact Go.Deep.blk_alloc_new _ _

theorem makeChan_any (w : World) : (Instr.makeChan 32 (.int .i64 0)).run Yba.prog w = .ok (.chan (some w.heap.size)) (w.alloc (.chan 0 #[] false 0 0 false)) := by
  kernel_rfl

/-- One more waiter. -/
theorem WF.put {N : Nat} {at0 : Int} {c j : Nat} {w : World} (h : WF N at0 (4 * c + j) w) (hN : 0 < N) (hc : c < 5) (hj : j < 4) (tv : Array Value) :
    ∃ o, (Instr.mapUpdate 46 (.map (some N)) (.agg #[.int .u8 c, .string (ids j)]) (.slice (some ⟨slB N c j, 0, none⟩) 1 1)).run Yba.prog (((w.alloc (.cells tv 31)).alloc (.chan 0 #[] false 0 0 false)).alloc (.cells #[.chan (some (chB N c j))] 32)).drew = .ok () (setB (((w.alloc (.cells tv 31)).alloc (.chan 0 #[] false 0 0 false)).alloc (.cells #[.chan (some (chB N c j))] 32)).drew N o) ∧
      WF N at0 (4 * c + j + 1) (setB (((w.alloc (.cells tv 31)).alloc (.chan 0 #[] false 0 0 false)).alloc (.cells #[.chan (some (chB N c j))] 32)).drew N o) := by
  have hs := h.size
  generalize hw3 : ((w.alloc (.cells tv 31)).alloc (.chan 0 #[] false 0 0 false)).alloc (.cells #[.chan (some (chB N c j))] 32) = w3
  have s3 : w3.heap.size = w.heap.size + 3 := by rw [← hw3]; simp
  have old : ∀ b, b < w.heap.size → w3.heap[b]? = w.heap[b]? := fun b hb => by
    rw [← hw3, hp_alloc_lt (by simp; omega), hp_alloc_lt (by simp; omega), hp_alloc_lt hb]
  have nC : w3.heap[chB N c j]? = some (.chan 0 #[] false 0 0 false) := by
    have e : chB N c j = (w.alloc (.cells tv 31)).heap.size := by simp [chB, hs]
    rw [← hw3, hp_alloc_lt (by simp [chB, hs]), e]
    exact Go.Deep.blk_alloc_new _ _
  have nS : w3.heap[slB N c j]? = some (.cells #[.chan (some (chB N c j))] 32) := by
    have e : slB N c j = ((w.alloc (.cells tv 31)).alloc (.chan 0 #[] false 0 0 false)).heap.size := by simp [slB, hs]
    rw [← hw3, e]
    exact Go.Deep.blk_alloc_new _ _
  have hwt : MapIs kT okT w3 N _ := h.wait.of_block (old N (by omega))
  obtain ⟨o, h1, h2⟩ := update_is keyT Yba.underlying46 hwt (c, j) ⟨hc, hj⟩ (.slice (some ⟨slB N c j, 0, none⟩) 1 1)
  have far : ∀ b, b ≠ N → (setB w3.drew N o).heap[b]? = w3.heap[b]? := fun b hb => hp_setB_ne (w := w3.drew) hb
  refine ⟨o, h1 w3.drew rfl, ⟨(h.row.of_block (old _ (by omega))).of_block (far _ (by omega)), fun c' hc' => (far _ (by omega)).trans ((old _ (by omega)).trans (h.maps c' hc')), (h2.of_block (w' := setB w3.drew N o) rfl).congr fun p hp => ?_, fun c' j' hc' hj' hlt => ?_, fun c' j' hc' hj' hlt => ?_, (far _ (by omega)).trans ((old _ (by omega)).trans h.var), (far _ (by omega)).trans ((old _ (by omega)).trans h.idb), ?_⟩⟩
  · obtain ⟨p1, p2⟩ := p
    have := hp.1
    have := hp.2
    simp only at *
    by_cases e : (p1, p2) = (c, j)
    · injection e with e1 e2
      subst e1 e2
      simp
    · have hne : ¬ (p1 = c ∧ p2 = j) := fun h => e (by rw [h.1, h.2])
      have : (4 * p1 + p2 < 4 * c + j + 1) = (4 * p1 + p2 < 4 * c + j) := by simp; omega
      simp only [if_neg e, this]
  · by_cases e : c' = c ∧ j' = j
    · obtain ⟨rfl, rfl⟩ := e
      exact (far _ (by simp [slB]; omega)).trans nS
    · exact (far _ (by simp [slB]; omega)).trans ((old _ (by simp [slB]; omega)).trans (h.rows c' j' hc' hj' (by omega)))
  · by_cases e : c' = c ∧ j' = j
    · obtain ⟨rfl, rfl⟩ := e
      exact (far _ (by simp [chB]; omega)).trans nC
    · exact (far _ (by simp [chB]; omega)).trans ((old _ (by simp [chB]; omega)).trans (h.opn c' j' hc' hj' (by omega)))
  · rw [setB_size]
    show w3.heap.size = _
    omega

end Go.Proofs.Ybulkbwok
