/- DERIVED. The law's changes and originals as they are laid. -/
import Derived.Test.YbulkbwokI
namespace Go.Proofs.Ybulkbwok
open Go.RowKit Go.MuLone

def z7 (r : Nat) : Value := if r = 0 then .int .i64 0 else if r = 1 then .slice none 0 0 else .bool false
def bF (K : Nat) (idf : Nat → Int) (T n : Nat → Nat) (ls : Nat → Nat → Bool) (i : Nat) : Value := if i / 7 < K then chF idf T n ls i else z7 (i % 7)
def pF (K : Nat) (ts : Nat → Nat × Nat × Bool) (i : Nat) : Value := if i / 3 < K then tchF ts i else tchF zeroT i

theorem pF_put {w : World} {b n k : Nat} {ts : Nat → Nat × Nat × Bool} (h : w.rowIs b 54 (n * 3) (pF k ts)) :
    (((w.setCell ⟨b, k * 3, none⟩ (.int .u8 (ts k).1)).setCell ⟨b, k * 3 + 1, none⟩ (.string (ids (ts k).2.1))).setCell ⟨b, k * 3 + 2, none⟩ (.bool (ts k).2.2)).rowIs b 54 (n * 3) (pF (k + 1) ts) := by
  refine (((h.set (k * 3) _).set (k * 3 + 1) _).set (k * 3 + 2) _).congr fun i hi => ?_
  have e : i / 3 = k → i = k * 3 ∨ i = k * 3 + 1 ∨ i = k * 3 + 2 := by omega
  by_cases h2 : i = k * 3 + 2
  · have h3 : i / 3 = k := by omega
    have h4 : i % 3 = 2 := by omega
    have h5 : k < k + 1 := by omega
    simp [if_pos h2, pF, tchF, h3, h4]
  · rw [if_neg h2]
    by_cases h1 : i = k * 3 + 1
    · have h3 : i / 3 = k := by omega
      have h4 : i % 3 = 1 := by omega
      have h5 : k < k + 1 := by omega
      simp [if_pos h1, pF, tchF, h3, h4]
    · rw [if_neg h1]
      by_cases h0 : i = k * 3
      · have h3 : i / 3 = k := by omega
        have h4 : i % 3 = 0 := by omega
        have h5 : k < k + 1 := by omega
        simp [if_pos h0, pF, tchF, h3, h4]
      · rw [if_neg h0]
        have : (i / 3 < k + 1) = (i / 3 < k) := by simp; omega
        simp only [pF, this]
theorem pF_done {w : World} {b n : Nat} {ts : Nat → Nat × Nat × Bool} (h : w.rowIs b 54 (n * 3) (pF n ts)) (ok : ∀ i, i < n → (ts i).1 < 5 ∧ (ts i).2.1 < 4) : Tch b n ts w :=
  ⟨h.congr fun i hi => by have : i / 3 < n := by omega
                          simp only [pF, if_pos this], ok⟩
theorem made3 (n : Nat) (w : World) (ts : Nat → Nat × Nat × Bool) : (w.alloc (.cells (madeCells #[.int .u8 0, .string ⟨#[]⟩, .bool false] (n * 3)) 54)).rowIs w.heap.size 54 (n * 3) (pF 0 ts) := by
  refine ⟨_, Go.Deep.blk_alloc_new _ _, size_madeCells _ _, fun i hi => ?_⟩
  have h1 : i % 3 = 0 ∨ i % 3 = 1 ∨ i % 3 = 2 := by omega
  simp [madeCells, hi, pF, tchF, zeroT]
  rcases h1 with h | h | h <;> simp [h, ids]
theorem made7 (n : Nat) (w : World) (idf : Nat → Int) (T l : Nat → Nat) (ls : Nat → Nat → Bool) : (w.alloc (.cells (madeCells #[.int .i64 0, .slice none 0 0, .bool false, .bool false, .bool false, .bool false, .bool false] (n * 7)) 57)).rowIs w.heap.size 57 (n * 7) (bF 0 idf T l ls) := by
  refine ⟨_, Go.Deep.blk_alloc_new _ _, size_madeCells _ _, fun i hi => ?_⟩
  have h1 : i % 7 = 0 ∨ i % 7 = 1 ∨ i % 7 = 2 ∨ i % 7 = 3 ∨ i % 7 = 4 ∨ i % 7 = 5 ∨ i % 7 = 6 := by omega
  simp [madeCells, hi, bF, z7]
  rcases h1 with h | h | h | h | h | h | h <;> simp [h]
theorem bF_put {w : World} {b n k : Nat} {idf : Nat → Int} {T l : Nat → Nat} {ls : Nat → Nat → Bool} {t : Nat} (h : w.rowIs b 57 (n * 7) (bF k idf T l ls)) (hT : T k = t) :
    (((((((w.setCell ⟨b, k * 7, none⟩ (.int .i64 (idf k))).setCell ⟨b, k * 7 + 1, none⟩ (.slice (some ⟨t, 0, none⟩) (l k) (l k))).setCell ⟨b, k * 7 + 2, none⟩ (.bool (ls k 0))).setCell ⟨b, k * 7 + 3, none⟩ (.bool (ls k 1))).setCell ⟨b, k * 7 + 4, none⟩ (.bool (ls k 2))).setCell ⟨b, k * 7 + 5, none⟩ (.bool (ls k 3))).setCell ⟨b, k * 7 + 6, none⟩ (.bool (ls k 4))).rowIs b 57 (n * 7) (bF (k + 1) idf T l ls) := by
  subst hT
  refine (((((((h.set (k * 7) _).set (k * 7 + 1) _).set (k * 7 + 2) _).set (k * 7 + 3) _).set (k * 7 + 4) _).set (k * 7 + 5) _).set (k * 7 + 6) _).congr fun i hi => ?_
  by_cases hk : i / 7 = k
  · have hr : i = k * 7 + i % 7 := by omega
    have h1 : i % 7 = 0 ∨ i % 7 = 1 ∨ i % 7 = 2 ∨ i % 7 = 3 ∨ i % 7 = 4 ∨ i % 7 = 5 ∨ i % 7 = 6 := by omega
    simp only [bF, chF, hk]
    rcases h1 with h | h | h | h | h | h | h <;> simp [h] at hr ⊢ <;> simp [hr]
  · have : (i / 7 < k + 1) = (i / 7 < k) := by simp; omega
    have e : ∀ r, r < 7 → ¬ i = k * 7 + r := fun r hr e => hk (by omega)
    have e0 : ¬ i = k * 7 := fun e => hk (by omega)
    simp only [bF, this, if_neg (e 1 (by omega)), if_neg (e 2 (by omega)), if_neg (e 3 (by omega)), if_neg (e 4 (by omega)), if_neg (e 5 (by omega)), if_neg (e 6 (by omega)), if_neg e0]
theorem bF_congr {w : World} {b n k : Nat} {idf : Nat → Int} {T T' l : Nat → Nat} {ls : Nat → Nat → Bool} (h : w.rowIs b 57 (n * 7) (bF k idf T l ls)) (e : ∀ q, q < k → T q = T' q) : w.rowIs b 57 (n * 7) (bF k idf T' l ls) :=
  h.congr fun i hi => by
    by_cases hk : i / 7 < k
    · simp only [bF, if_pos hk, chF, e _ hk]
    · simp only [bF, if_neg hk]
theorem bF_done {w : World} {b n : Nat} {idf : Nat → Int} {T l : Nat → Nat} {ls : Nat → Nat → Bool} (h : w.rowIs b 57 (n * 7) (bF n idf T l ls)) : w.rowIs b 57 (n * 7) (chF idf T l ls) :=
  h.congr fun i hi => by
    have : i / 7 < n := by omega
    simp only [bF, if_pos this]

theorem info57 : (Yba.prog.info? 57).map (fun i => (i.zero, i.size, i.bytes)) = some (some (.agg #[.int .i64 0, .slice none 0 0, .bool false, .bool false, .bool false, .bool false, .bool false]), 7, 40) := by kernel_rfl
theorem info54 : (Yba.prog.info? 54).map (fun i => (i.zero, i.size, i.bytes)) = some (some (.agg #[.int .u8 0, .string ⟨#[]⟩, .bool false]), 3, 32) := by kernel_rfl
theorem make50 (n : Nat) (hn : n ≤ 300) (w : World) : (Instr.makeSlice 50 (.int .i64 n) (.int .i64 n)).run Yba.prog w = .ok (.slice (some ⟨w.heap.size, 0, none⟩) n n) (w.alloc (.cells (madeCells #[.int .i64 0, .slice none 0 0, .bool false, .bool false, .bool false, .bool false, .bool false] (n * 7)) 57)) := by
  obtain ⟨i, hi, hz, hs, hb⟩ := info_parts info57
  have h := run_make (P := Yba.prog) w 50 57 i _ Yba.underlying50 hi hz .i64 .i64 n n (by omega) (Int.le_refl _) (by rw [hb]; omega) (by omega)
  simp only [Int.toNat_natCast, hs] at h
  exact h
theorem make34 (n : Nat) (hn : n ≤ 1024) (w : World) : (Instr.makeSlice 34 (.int .i64 n) (.int .i64 n)).run Yba.prog w = .ok (.slice (some ⟨w.heap.size, 0, none⟩) n n) (w.alloc (.cells (madeCells #[.int .u8 0, .string ⟨#[]⟩, .bool false] (n * 3)) 54)) := by
  obtain ⟨i, hi, hz, hs, hb⟩ := info_parts info54
  have h := run_make (P := Yba.prog) w 34 54 i _ Yba.underlying34 hi hz .i64 .i64 n n (by omega) (Int.le_refl _) (by rw [hb]; omega) (by omega)
  simp only [Int.toNat_natCast, hs] at h
  exact h

/-- The law's changes and originals, k of them laid. -/
structure LB (N CB OB n : Nat) (at0 : Int) (idf : Nat → Int) (L : Nat → Nat) (ls : Nat → Nat → Bool) (ts : Nat → Nat → Nat × Nat × Bool) (T O : Nat → Nat) (k : Nat) (w : World) : Prop where
  wi : WI N (N + 69) (N + 1) N (fun c => N + 2 + c) (slB N) (chB N) 0 at0 at0 (fun _ => minI) (.slice none 0 0) (fun _ _ => none) (fun _ _ => false) w
  var : w.heap[N + 8]? = some (.cells #[.pointer (some ⟨N + 1, 0, none⟩)] 27)
  idb : w.heap[N - 1]? = some (.cells idCells 26)
  ch : w.rowIs CB 57 (n * 7) (bF k idf T L ls)
  og : w.rowIs OB 34 n (fun i => if i < k then .slice (some ⟨O i, 0, none⟩) (L i) (L i) else .slice none 0 0)
  tt : ∀ q, q < k → Tch (T q) (L q) (ts q) w
  oo : ∀ q, q < k → Tch (O q) (L q) (ts q) w
  tb : ∀ q, q < k → N + 69 ≤ T q
  ob : ∀ q, q < k → N + 69 ≤ O q
  inj : ∀ q q', q < k → q' < k → T q = T q' → q = q'
  ap : ∀ q q', q < k → q' < k → T q ≠ O q'
  cbB : N + 69 ≤ CB
  obB : N + 69 ≤ OB

theorem LB.below {N CB OB n : Nat} {at0 : Int} {idf : Nat → Int} {L : Nat → Nat} {ls : Nat → Nat → Bool} {ts : Nat → Nat → Nat × Nat × Bool} {T O : Nat → Nat} {k : Nat} {w w' : World} (h : LB N CB OB n at0 idf L ls ts T O k w) (hb : Below w.heap.size w w') : LB N CB OB n at0 idf L ls ts T O k w' :=
  ⟨h.wi.same fun b _ _ hlt => hb.block b hlt, (hb.block _ (lt_of_some h.var)).trans h.var, (hb.block _ (lt_of_some h.idb)).trans h.idb, h.ch.of_block (hb.block _ h.ch.lt), h.og.of_block (hb.block _ h.og.lt),
    fun q hq => (h.tt q hq).of_block (hb.block _ (h.tt q hq).row.lt), fun q hq => (h.oo q hq).of_block (hb.block _ (h.oo q hq).row.lt), h.tb, h.ob, h.inj, h.ap, h.cbB, h.obB⟩

theorem ne_rows {w : World} {a b n m : Nat} {t u : TypeId} {f g : Nat → Value} (h : w.rowIs a t n f) (k : w.rowIs b u m g) (hne : t ≠ u) : a ≠ b := by
  obtain ⟨c, hc⟩ := rowIs_cells k
  exact ne_row h hc hne

def put7 (w : World) (b k : Nat) (id : Int) (t l : Nat) (l0 l1 l2 l3 l4 : Bool) : World :=
  ((((((w.setCell ⟨b, k * 7, none⟩ (.int .i64 id)).setCell ⟨b, k * 7 + 1, none⟩ (.slice (some ⟨t, 0, none⟩) l l)).setCell ⟨b, k * 7 + 2, none⟩ (.bool l0)).setCell ⟨b, k * 7 + 3, none⟩ (.bool l1)).setCell ⟨b, k * 7 + 4, none⟩ (.bool l2)).setCell ⟨b, k * 7 + 5, none⟩ (.bool l3)).setCell ⟨b, k * 7 + 6, none⟩ (.bool l4)
theorem put7_far (w : World) (b k : Nat) (id : Int) (t l : Nat) (l0 l1 l2 l3 l4 : Bool) {c : Nat} (h : c ≠ b) : (put7 w b k id t l l0 l1 l2 l3 l4).heap[c]? = w.heap[c]? := by
  simp only [put7]
  rw [Below.heap_setCell _ _ _ _ h, Below.heap_setCell _ _ _ _ h, Below.heap_setCell _ _ _ _ h, Below.heap_setCell _ _ _ _ h, Below.heap_setCell _ _ _ _ h, Below.heap_setCell _ _ _ _ h, Below.heap_setCell _ _ _ _ h]
theorem put7_size (w : World) (b k : Nat) (id : Int) (t l : Nat) (l0 l1 l2 l3 l4 : Bool) : (put7 w b k id t l l0 l1 l2 l3 l4).heap.size = w.heap.size := by
  simp [put7, World.setCell]

theorem LB.put {N CB OB n : Nat} {at0 : Int} {idf : Nat → Int} {L : Nat → Nat} {ls : Nat → Nat → Bool} {ts : Nat → Nat → Nat × Nat × Bool} {T O : Nat → Nat} {k : Nat} {w : World} (h : LB N CB OB n at0 idf L ls ts T O k w) {T0 O0 Z : Nat}
    (ht : Tch T0 (L k) (ts k) w) (ho : Tch O0 (L k) (ts k) w) (hTO : T0 ≠ O0) (hZT : Z ≤ T0) (hZO : Z ≤ O0) (hZ : ∀ q, q < k → T q < Z ∧ O q < Z) (hBT : N + 69 ≤ T0) (hBO : N + 69 ≤ O0) :
    LB N CB OB n at0 idf L ls ts (fun q => if q = k then T0 else T q) (fun q => if q = k then O0 else O q) (k + 1) ((put7 w CB k (idf k) T0 (L k) (ls k 0) (ls k 1) (ls k 2) (ls k 3) (ls k 4)).setCell ⟨OB, k, none⟩ (.slice (some ⟨O0, 0, none⟩) (L k) (L k))) := by
  have nCO : CB ≠ OB := ne_rows h.ch h.og (by decide)
  have far : ∀ b, b ≠ CB → b ≠ OB → ((put7 w CB k (idf k) T0 (L k) (ls k 0) (ls k 1) (ls k 2) (ls k 3) (ls k 4)).setCell ⟨OB, k, none⟩ (.slice (some ⟨O0, 0, none⟩) (L k) (L k))).heap[b]? = w.heap[b]? := fun b h1 h2 => (Below.heap_setCell _ _ _ _ h2).trans (put7_far w CB k _ _ _ _ _ _ _ _ h1)
  have hcb := h.cbB
  have hob := h.obB
  have tf : ∀ (b m : Nat) (f : Nat → Nat × Nat × Bool), Tch b m f w → Tch b m f ((put7 w CB k (idf k) T0 (L k) (ls k 0) (ls k 1) (ls k 2) (ls k 3) (ls k 4)).setCell ⟨OB, k, none⟩ (.slice (some ⟨O0, 0, none⟩) (L k) (L k))) := fun b m f hb =>
    hb.of_block (far b (ne_rows hb.row h.ch (by decide)) (ne_rows hb.row h.og (by decide)))
  refine ⟨h.wi.same fun b h1 h2 _ => far b (by omega) (by omega), (far _ (by omega) (by omega)).trans h.var, (far _ (by omega) (by omega)).trans h.idb, ?_, ?_, fun q hq => ?_, fun q hq => ?_, fun q hq => ?_, fun q hq => ?_, fun q q' hq hq' e => ?_, fun q q' hq hq' => ?_, hcb, hob⟩
  · have h1 := bF_congr h.ch (T' := fun q => if q = k then T0 else T q) fun q hq => by rw [if_neg (by omega)]
    have h2 := bF_put (t := T0) h1 (by simp)
    exact h2.of_block (Below.heap_setCell _ _ _ _ nCO)
  · have h1 : (put7 w CB k (idf k) T0 (L k) (ls k 0) (ls k 1) (ls k 2) (ls k 3) (ls k 4)).rowIs OB 34 n (fun i => if i < k then .slice (some ⟨O i, 0, none⟩) (L i) (L i) else .slice none 0 0) := h.og.of_block (put7_far w CB k _ _ _ _ _ _ _ _ (Ne.symm nCO))
    refine (h1.set k _).congr fun i hi => ?_
    by_cases e : i = k
    · subst e; simp
    · have : (i < k + 1) = (i < k) := by simp; omega
      simp only [if_neg e, this]
  · by_cases e : q = k
    · subst e; simp only [if_true]; exact tf _ _ _ ht
    · simp only [if_neg e]; exact tf _ _ _ (h.tt q (by omega))
  · by_cases e : q = k
    · subst e; simp only [if_true]; exact tf _ _ _ ho
    · simp only [if_neg e]; exact tf _ _ _ (h.oo q (by omega))
  · by_cases e : q = k
    · simp only [if_pos e]; exact hBT
    · simp only [if_neg e]; exact h.tb q (by omega)
  · by_cases e : q = k
    · simp only [if_pos e]; exact hBO
    · simp only [if_neg e]; exact h.ob q (by omega)
  · by_cases e1 : q = k
    · by_cases e2 : q' = k
      · omega
      · simp only [if_pos e1, if_neg e2] at e; have := hZ q' (by omega); omega
    · by_cases e2 : q' = k
      · simp only [if_neg e1, if_pos e2] at e; have := hZ q (by omega); omega
      · simp only [if_neg e1, if_neg e2] at e; exact h.inj q q' (by omega) (by omega) e
  · by_cases e1 : q = k
    · by_cases e2 : q' = k
      · simp only [if_pos e1, if_pos e2]; exact hTO
      · simp only [if_pos e1, if_neg e2]; have := hZ q' (by omega); omega
    · by_cases e2 : q' = k
      · simp only [if_neg e1, if_pos e2]; have := hZ q (by omega); omega
      · simp only [if_neg e1, if_neg e2]; exact h.ap q q' (by omega) (by omega)

/-- One touch stored into the change's own row and into the original's. -/
def put6 (w : World) (T O i c j : Nat) (g : Bool) : World :=
  (((((w.setCell ⟨T, i * 3, none⟩ (.int .u8 c)).setCell ⟨T, i * 3 + 1, none⟩ (.string (ids j))).setCell ⟨T, i * 3 + 2, none⟩ (.bool g)).setCell ⟨O, i * 3, none⟩ (.int .u8 c)).setCell ⟨O, i * 3 + 1, none⟩ (.string (ids j))).setCell ⟨O, i * 3 + 2, none⟩ (.bool g)
theorem put6_far (w : World) (T O i c j : Nat) (g : Bool) {b : Nat} (h1 : b ≠ T) (h2 : b ≠ O) : (put6 w T O i c j g).heap[b]? = w.heap[b]? := by
  simp only [put6]
  rw [Below.heap_setCell _ _ _ _ h2, Below.heap_setCell _ _ _ _ h2, Below.heap_setCell _ _ _ _ h2, Below.heap_setCell _ _ _ _ h1, Below.heap_setCell _ _ _ _ h1, Below.heap_setCell _ _ _ _ h1]
theorem put6_size (w : World) (T O i c j : Nat) (g : Bool) : (put6 w T O i c j g).heap.size = w.heap.size := by simp [put6, World.setCell]
theorem put6_rows {w : World} {T O n i : Nat} {ts : Nat → Nat × Nat × Bool} {c j : Nat} {g : Bool} (hts : ts i = (c, j, g)) (hTO : T ≠ O) (rT : w.rowIs T 54 (n * 3) (pF i ts)) (rO : w.rowIs O 54 (n * 3) (pF i ts)) :
    (put6 w T O i c j g).rowIs T 54 (n * 3) (pF (i + 1) ts) ∧ (put6 w T O i c j g).rowIs O 54 (n * 3) (pF (i + 1) ts) := by
  have pT := pF_put rT
  have rO4 := ((rO.setOther (a := ⟨T, i * 3, none⟩) (Ne.symm hTO) (.int .u8 (ts i).1)).setOther (a := ⟨T, i * 3 + 1, none⟩) (Ne.symm hTO) (.string (ids (ts i).2.1))).setOther (a := ⟨T, i * 3 + 2, none⟩) (Ne.symm hTO) (.bool (ts i).2.2)
  have pO := pF_put rO4
  have pT2 := ((pT.setOther (a := ⟨O, i * 3, none⟩) hTO (.int .u8 (ts i).1)).setOther (a := ⟨O, i * 3 + 1, none⟩) hTO (.string (ids (ts i).2.1))).setOther (a := ⟨O, i * 3 + 2, none⟩) hTO (.bool (ts i).2.2)
  rw [hts] at pO pT2
  exact ⟨pT2, pO⟩
theorem put6_below {a w : World} {Z T O i c j : Nat} {g : Bool} (h : Below Z a w) (h1 : Z ≤ T) (h2 : Z ≤ O) : Below Z a (put6 w T O i c j g) :=
  (((((h.setCell (p := ⟨T, i * 3, none⟩) h1 _).setCell (p := ⟨T, i * 3 + 1, none⟩) h1 _).setCell (p := ⟨T, i * 3 + 2, none⟩) h1 _).setCell (p := ⟨O, i * 3, none⟩) h2 _).setCell (p := ⟨O, i * 3 + 1, none⟩) h2 _).setCell (p := ⟨O, i * 3 + 2, none⟩) h2 _

theorem touch_rel {a w : World} {Z i Lq c j : Nat} {g : Bool} {ts : Nat → Nat × Nat × Bool} {S : Array Value} (hts : ts i = (c, j, g)) (hi : i < Lq) (bS : w.heap[Z]? = some (.cells S 25)) (rT : w.rowIs (Z + 1) 54 (Lq * 3) (pF i ts)) (rO : w.rowIs (Z + 2) 54 (Lq * 3) (pF i ts)) (hB : Below Z a w) (hs : Z + 3 ≤ w.heap.size) :
    ∃ i' : Nat, i' ≤ Lq ∧ Value.int .i64 ((i : Int) + 1) = .int .i64 i' ∧ Below Z a (put6 w (Z + 1) (Z + 2) i c j g).drew ∧ Z + 3 ≤ (put6 w (Z + 1) (Z + 2) i c j g).drew.heap.size ∧ (put6 w (Z + 1) (Z + 2) i c j g).drew.heap[Z]? = some (.cells S 25) ∧ (put6 w (Z + 1) (Z + 2) i c j g).drew.rowIs (Z + 1) 54 (Lq * 3) (pF i' ts) ∧ (put6 w (Z + 1) (Z + 2) i c j g).drew.rowIs (Z + 2) 54 (Lq * 3) (pF i' ts) := by
  have hrows := put6_rows hts (by omega) rT rO
  have hsz := put6_size w (Z + 1) (Z + 2) i c j g
  have hbb : Below Z a (put6 w (Z + 1) (Z + 2) i c j g) := put6_below hB (by omega) (by omega)
  have hfar := (put6_far w (Z + 1) (Z + 2) i c j g (b := Z) (by omega) (by omega)).trans bS
  generalize put6 w (Z + 1) (Z + 2) i c j g = w' at *
  exact ⟨i + 1, by omega, rfl, hbb.drew, by show Z + 3 ≤ w'.heap.size; omega, hfar, hrows.1, hrows.2⟩
end Go.Proofs.Ybulkbwok
