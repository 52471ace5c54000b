/- DERIVED. The law's rounds closed; what stands after Show; the mirror. -/
import Derived.Test.YbulkbwokJ
namespace Go.Proofs.Ybulkbwok
open Go.RowKit Go.MuLone

def lsb (x c : Nat) : Bool := bits BinOp.and IntKind.u8 ((x : Int) / 2 ^ c) 1 == 1
/-- The lists of a change, k of them told. -/
def lsF (k x i : Nat) : Value := .bool (decide (i < k) && lsb x i)
theorem lists_new (w : World) (x : Nat) : (w.alloc (.cells #[.bool false, .bool false, .bool false, .bool false, .bool false] 35)).rowIs w.heap.size 35 5 (lsF 0 x) :=
  ⟨_, Go.Deep.blk_alloc_new _ _, rfl, fun i hi => by
    have : i = 0 ∨ i = 1 ∨ i = 2 ∨ i = 3 ∨ i = 4 := by omega
    rcases this with rfl | rfl | rfl | rfl | rfl <;> rfl⟩
theorem lists_put {w : World} {X c x : Nat} (h : w.rowIs X 35 5 (lsF c x)) : (w.setCell ⟨X, c, none⟩ (.bool (lsb x c))).rowIs X 35 5 (lsF (c + 1) x) := by
  refine (h.set c _).congr fun i hi => ?_
  by_cases e : i = c
  · subst e; simp [lsF]
  · have : (i < c + 1) = (i < c) := by simp; omega
    simp only [lsF, if_neg e, this]
theorem lists_read {w : World} {X x c : Nat} (h : w.rowIs X 35 5 (lsF 5 x)) (hc : c < 5) : w.cell? ⟨X, c, none⟩ = some (.bool (lsb x c)) := by
  rw [h.cell hc]; simp [lsF, hc]

theorem put7_below {a w : World} {Z b k : Nat} {id : Int} {t l : Nat} {l0 l1 l2 l3 l4 : Bool} (h : Below Z a w) (h1 : Z ≤ b) : Below Z a (put7 w b k id t l l0 l1 l2 l3 l4) :=
  ((((((h.setCell (p := ⟨b, k * 7, none⟩) h1 _).setCell (p := ⟨b, k * 7 + 1, none⟩) h1 _).setCell (p := ⟨b, k * 7 + 2, none⟩) h1 _).setCell (p := ⟨b, k * 7 + 3, none⟩) h1 _).setCell (p := ⟨b, k * 7 + 4, none⟩) h1 _).setCell (p := ⟨b, k * 7 + 5, none⟩) h1 _).setCell (p := ⟨b, k * 7 + 6, none⟩) h1 _

variable {N CB n IB : Nat} {at0 : Int} {idf : Nat → Int} {L : Nat → Nat} {ls : Nat → Nat → Bool} {ts : Nat → Nat → Nat × Nat × Bool} {T O : Nat → Nat} {w wq wz : World}

theorem round4 {q Z : Nat} (I : LB N CB (CB + 1) n at0 idf L ls ts T O q wq) (hb : Below IB w wq) (hIB : IB ≤ N) (hq : q < n) (hZ : wq.heap.size = Z) (hB : Below Z wq wz) (tT : Tch (Z + 1) (L q) (ts q) wz) (tO : Tch (Z + 2) (L q) (ts q) wz) :
    ∃ (q' : Nat) (T' O' : Nat → Nat), q' ≤ n ∧ Value.int .i64 ((q : Int) + 1) = .int .i64 q' ∧
      LB N CB (CB + 1) n at0 idf L ls ts T' O' q' ((put7 wz CB q (idf q) (Z + 1) (L q) (ls q 0) (ls q 1) (ls q 2) (ls q 3) (ls q 4)).setCell ⟨CB + 1, q, none⟩ (.slice (some ⟨Z + 2, 0, none⟩) (L q) (L q))) ∧
      Below IB w ((put7 wz CB q (idf q) (Z + 1) (L q) (ls q 0) (ls q 1) (ls q 2) (ls q 3) (ls q 4)).setCell ⟨CB + 1, q, none⟩ (.slice (some ⟨Z + 2, 0, none⟩) (L q) (L q))) := by
  subst hZ
  have I2 := I.below hB
  have h1 := I.cbB
  have h2 := I.ch.lt
  refine ⟨q + 1, _, _, by omega, rfl, I2.put (Z := wq.heap.size) tT tO (by omega) (by omega) (by omega) (fun p hp => ⟨(I.tt p hp).row.lt, (I.oo p hp).row.lt⟩) (by omega) (by omega), ?_⟩
  exact (put7_below (hb.trans (hB.mono (by omega))) (by omega)).setCell (p := ⟨CB + 1, q, none⟩) (by show IB ≤ CB + 1; omega) _

/-- The state at the law's start. -/
def s00 : St := ⟨fun _ _ => none, fun _ => minI, fun _ _ => false⟩

theorem LB.si (I : LB N CB (CB + 1) n at0 idf L ls ts T O n wq) (hB : Below wq.heap.size wq wz) (base : Nat) :
    SI N (N + 69) (N + 1) N (fun c => N + 2 + c) (slB N) (chB N) at0 CB n idf T L ls ts s00 0 base (.slice none 0 0) 0 wz := by
  have I2 := I.below hB
  refine ⟨I2.wi, World.ownsRow_nil _ _ _ _, fun k hk => ?_, bF_done I2.ch⟩
  have := I2.tt k hk
  simpa using this

/-- What stands after Show. -/
structure PS (N CB n IB : Nat) (at0 : Int) (idf : Nat → Int) (L : Nat → Nat) (ls : Nat → Nat → Bool) (ts : Nat → Nat → Nat × Nat × Bool) (T O : Nat → Nat) (base : Nat) (spv : Value) (w w4 : World) : Prop where
  bel : Below IB w w4
  si : SI N (N + 69) (N + 1) N (fun c => N + 2 + c) (slB N) (chB N) at0 CB n idf T L ls ts s00 0 base spv n w4
  var : w4.heap[N + 8]? = some (.cells #[.pointer (some ⟨N + 1, 0, none⟩)] 27)
  idb : w4.heap[N - 1]? = some (.cells idCells 26)
  og : w4.rowIs (CB + 1) 34 n (fun i => .slice (some ⟨O i, 0, none⟩) (L i) (L i))
  oo : ∀ q, q < n → Tch (O q) (L q) (ts q) w4

theorem PS.moved {base : Nat} {spv : Value} {w4 w5 : World} (h : PS N CB n IB at0 idf L ls ts T O base spv w w4) (hIB : IB ≤ w4.heap.size) (hB : Below w4.heap.size w4 w5) : PS N CB n IB at0 idf L ls ts T O base spv w w5 :=
  ⟨h.bel.trans (hB.mono hIB), h.si.moved fun k hk => hB.block k hk, (hB.block _ (lt_of_some h.var)).trans h.var, (hB.block _ (lt_of_some h.idb)).trans h.idb, h.og.of_block (hB.block _ h.og.lt), fun q hq => (h.oo q hq).of_block (hB.block _ (h.oo q hq).row.lt)⟩

theorem row1 {w : World} {b : Nat} {t : TypeId} {v : Value} (h : w.heap[b]? = some (.cells #[v] t)) : w.rowIs b t 1 (fun _ => v) :=
  ⟨_, h, rfl, fun i hi => by
    have : i = 0 := by omega
    subst this; rfl⟩
theorem row1_set {w : World} {b : Nat} {t : TypeId} {v : Value} (h : w.rowIs b t 1 (fun _ => v)) (u : Value) : (w.setCell ⟨b, 0, none⟩ u).rowIs b t 1 (fun _ => u) :=
  (h.set 0 u).congr fun i hi => by
    have : i = 0 := by omega
    subst this; rfl
theorem row1_back {w : World} {b : Nat} {t : TypeId} {v : Value} (h : w.rowIs b t 1 (fun _ => v)) : w.heap[b]? = some (.cells #[v] t) := by
  obtain ⟨c, hb, hs, hc⟩ := h
  have : c = #[v] := by
    apply Array.ext_getElem?
    intro i
    by_cases hi : i = 0
    · subst hi; rw [hc 0 (by omega)]; rfl
    · rw [Array.getElem?_eq_none (by omega), Array.getElem?_eq_none (by simp; omega)]
  rw [hb, this]
structure Three (K : Nat) (wq w3 : World) : Prop where
  os : w3.os = wq.os
  tape : w3.tape = wq.tape
  output : w3.output = wq.output
  size : w3.heap.size = K + 3
  old : ∀ k, k < K → w3.heap[k]? = wq.heap[k]?
  b0 : w3.rowIs K 3 1 (fun _ => .int .i64 0)
  b1 : w3.rowIs (K + 1) 2 1 (fun _ => .int .i64 0)
  b2 : w3.rowIs (K + 2) 3 1 (fun _ => .int .i64 (-1))
theorem three {K : Nat} {w3 : World} (hK : wq.heap.size = K) (h3 : w3 = ((wq.alloc (.cells #[.int .i64 0] 3)).alloc (.cells #[.int .i64 0] 2)).alloc (.cells #[.int .i64 (-1)] 3)) : Three K wq w3 := by
  subst hK
  refine ⟨by rw [h3]; rfl, by rw [h3]; rfl, by rw [h3]; rfl, by rw [h3]; simp, fun k hk => ?_, row1 ?_, row1 ?_, row1 ?_⟩
  · rw [h3, hp_alloc_lt (by simp; omega), hp_alloc_lt (by simp; omega), hp_alloc_lt hk]
  · rw [h3, hp_alloc_lt (by simp; omega), hp_alloc_lt (by simp)]; exact Go.Deep.blk_alloc_new _ _
  · have e : wq.heap.size + 1 = (wq.alloc (.cells #[.int .i64 0] 3)).heap.size := by simp
    rw [h3, hp_alloc_lt (by simp), e]; exact Go.Deep.blk_alloc_new _ _
  · have e : wq.heap.size + 2 = ((wq.alloc (.cells #[.int .i64 0] 3)).alloc (.cells #[.int .i64 0] 2)).heap.size := by simp
    rw [h3, e]; exact Go.Deep.blk_alloc_new _ _
structure Three' (K N : Nat) (at0 : Int) (wq w3 : World) : Prop where
  os : w3.os = wq.os
  tape : w3.tape = wq.tape
  output : w3.output = wq.output
  size : w3.heap.size = K + 3
  old : ∀ k, k < K → k ≠ N + 1 → w3.heap[k]? = wq.heap[k]?
  b0 : w3.rowIs K 3 1 (fun _ => .int .i64 1)
  b1 : w3.rowIs (K + 1) 2 1 (fun _ => .int .i64 at0)
  b2 : w3.rowIs (K + 2) 3 1 (fun _ => .int .i64 0)
theorem Three.set {K : Nat} {w3 : World} (h : Three K wq w3) (hN : N + 1 < K) (at0 : Int) : Three' K N at0 wq ((((w3.setCell ⟨N + 1, 6, none⟩ (.int .i32 1)).setCell ⟨K, 0, none⟩ (.int .i64 1)).setCell ⟨K + 1, 0, none⟩ (.int .i64 at0)).setCell ⟨K + 2, 0, none⟩ (.int .i64 0)) := by
  refine ⟨h.os, h.tape, h.output, by simp [World.setCell, h.size], fun k hk hne => ?_, ?_, ?_, ?_⟩
  · rw [Below.heap_setCell _ _ _ _ (by show k ≠ K + 2; omega), Below.heap_setCell _ _ _ _ (by show k ≠ K + 1; omega), Below.heap_setCell _ _ _ _ (by show k ≠ K; omega), Below.heap_setCell _ _ _ _ hne]
    exact h.old k hk
  · exact ((row1_set (h.b0.setOther (by show K ≠ N + 1; omega) _) _).setOther (by show K ≠ K + 1; omega) _).setOther (by show K ≠ K + 2; omega) _
  · exact (row1_set ((h.b1.setOther (by show K + 1 ≠ N + 1; omega) _).setOther (by show K + 1 ≠ K; omega) _) _).setOther (by show K + 1 ≠ K + 2; omega) _
  · exact row1_set (((h.b2.setOther (by show K + 2 ≠ N + 1; omega) _).setOther (by show K + 2 ≠ K; omega) _).setOther (by show K + 2 ≠ K + 1; omega) _) _

theorem after_show {K : Nat} {base : Nat} {spv : Value} {wX w4 : World} (I : LB N CB (CB + 1) n at0 idf L ls ts T O n wq) (hb : Below IB w wq) (hIB : IB ≤ N) (hN : 0 < N) (hK : wq.heap.size = K) (h3 : Three' K N at0 wq wX)
    (S : SI N (N + 69) (N + 1) N (fun c => N + 2 + c) (slB N) (chB N) at0 CB n idf T L ls ts s00 0 base spv n w4) (F : Far N (N + 69) n T wX w4) :
    PS N CB n IB at0 idf L ls ts T O base spv w w4 ∧ w4.cell? ⟨K, 0, none⟩ = some (.int .i64 1) ∧ w4.cell? ⟨K + 1, 0, none⟩ = some (.int .i64 at0) ∧ w4.cell? ⟨K + 2, 0, none⟩ = some (.int .i64 0) := by
  have h1 := I.cbB
  have h2 : CB < K := hK ▸ I.ch.lt
  have hTl : ∀ i, i < n → T i < K := fun i hi => hK ▸ (I.tt i hi).row.lt
  have hTb := I.tb
  have hsz := h3.size
  have hvar : N + 8 < K := hK ▸ lt_of_some I.var
  have hidb : N - 1 < K := hK ▸ lt_of_some I.idb
  have hol : ∀ q, q < n → O q < K := fun i hi => hK ▸ (I.oo i hi).row.lt
  have hogl : CB + 1 < K := hK ▸ I.og.lt
  have far : ∀ k, k < K + 3 → ((k < N ∨ k = N + 8) ∨ N + 69 ≤ k) → (∀ i, i < n → k ≠ T i) → w4.heap[k]? = wX.heap[k]? := fun k hk h1 h2 => F.block k (by omega) h1 h2
  have hw0 : ∀ k, k < K → k ≠ N + 1 → ((k < N ∨ k = N + 8) ∨ N + 69 ≤ k) → (∀ i, i < n → k ≠ T i) → w4.heap[k]? = wq.heap[k]? := fun k hk h1 h2 h4 => (far k (by omega) h2 h4).trans (h3.old k hk h1)
  refine ⟨⟨?_, S, ?_, ?_, ?_, fun q hq => ?_⟩, ?_, ?_, ?_⟩
  · refine hb.trans ⟨F.os.trans h3.os, F.tape.trans h3.tape, F.output.trans h3.output, ?_, fun k hk => ?_⟩
    · have := F.size; omega
    · exact hw0 k (by omega) (by omega) (by omega) fun i hi => by have := hTb i hi; omega
  · exact (hw0 _ hvar (by omega) (by omega) fun i hi => by have := hTb i hi; omega).trans I.var
  · exact (hw0 _ hidb (by omega) (by omega) fun i hi => by have := hTb i hi; omega).trans I.idb
  · exact (I.og.of_block (hw0 _ hogl (by omega) (by omega) fun i hi => ne_rows I.og (I.tt i hi).row (by decide))).congr fun i hi => by rw [if_pos hi]
  · have hob := I.ob q hq
    exact (I.oo q hq).of_block (hw0 _ (hol q hq) (by omega) (by omega) fun i hi => Ne.symm (I.ap i q hi hq))
  · exact (h3.b0.of_block (far _ (by omega) (by omega) fun i hi => by have := hTl i hi; omega)).cell (by omega)
  · exact (h3.b1.of_block (far _ (by omega) (by omega) fun i hi => by have := hTl i hi; omega)).cell (by omega)
  · exact (h3.b2.of_block (far _ (by omega) (by omega) fun i hi => by have := hTl i hi; omega)).cell (by omega)

/-- The law's own mirror of the watch. -/
structure MR (V : Nat) (s : St) (w : World) : Prop where
  hv : w.rowIs V 60 20 (fun i => .bool (s.F (i / 4) (i % 4)).isSome)
  vl : ∃ vf : Nat → Int, w.rowIs (V + 1) 62 20 (fun i => .int .i64 (vf i)) ∧ ∀ i, i < 20 → ∀ x, s.F (i / 4) (i % 4) = some x → vf i = x
  wo : w.rowIs (V + 2) 60 20 (fun i => .bool (s.wk (i / 4) (i % 4)))
  gn : w.rowIs (V + 3) 45 5 (fun c => .int .i64 (s.G c))

variable {V : Nat} {s : St}
theorem MR.moved {w' : World} (h : MR V s w) (e : ∀ k, V ≤ k → k < V + 4 → w'.heap[k]? = w.heap[k]?) : MR V s w' := by
  obtain ⟨vf, h1, h2⟩ := h.vl
  exact ⟨h.hv.of_block (e _ (by omega) (by omega)), ⟨vf, h1.of_block (e _ (by omega) (by omega)), h2⟩, h.wo.of_block (e _ (by omega) (by omega)), h.gn.of_block (e _ (by omega) (by omega))⟩
theorem MR.lt (h : MR V s w) : V + 3 < w.heap.size := h.gn.lt
theorem MR.alloc (h : MR V s w) (o : Obj) : MR V s (w.alloc o) := h.moved fun k _ h2 => hp_alloc_lt (by have := h.lt; omega)
theorem MR.drew (h : MR V s w) : MR V s w.drew := h.moved fun _ _ _ => rfl

theorem at20 {i c j : Nat} (hj : j < 4) : (i / 4 = c ∧ i % 4 = j) ↔ i = c * 4 + j := by omega

theorem MR.gone (h : MR V s w) (id : Int) {c j : Nat} (hj : j < 4) :
    MR V (s.touch id c j true) (((w.setCell ⟨V, c * 4 + j, none⟩ (.bool false)).setCell ⟨V + 3, c, none⟩ (.int .i64 id)).setCell ⟨V + 2, c * 4 + j, none⟩ (.bool true)) := by
  obtain ⟨vf, h1, h2⟩ := h.vl
  refine ⟨(((h.hv.set (c * 4 + j) _).setOther (by show V ≠ V + 3; omega) _).setOther (by show V ≠ V + 2; omega) _).congr fun i hi => ?_, ⟨vf, ((h1.setOther (by show V + 1 ≠ V; omega) _).setOther (by show V + 1 ≠ V + 3; omega) _).setOther (by show V + 1 ≠ V + 2; omega) _, fun i hi x hx => ?_⟩,
    (((h.wo.setOther (by show V + 2 ≠ V; omega) _).setOther (by show V + 2 ≠ V + 3; omega) _).set (c * 4 + j) _).congr fun i hi => ?_, (((h.gn.setOther (by show V + 3 ≠ V; omega) _).set c _).setOther (by show V + 3 ≠ V + 2; omega) _).congr fun i hi => ?_⟩
  · simp only [St.touch, at20 hj]
    by_cases e : i = c * 4 + j <;> simp [e]
  · simp only [St.touch, at20 hj] at hx
    by_cases e : i = c * 4 + j
    · simp [e] at hx
    · rw [if_neg e] at hx; exact h2 i hi x hx
  · simp only [St.touch, at20 hj]
    by_cases e : i = c * 4 + j <;> simp [e]
  · simp only [St.touch]
    by_cases e : i = c <;> simp [e]

theorem MR.came (h : MR V s w) (id : Int) {c j : Nat} (hj : j < 4) :
    MR V (s.touch id c j false) (((w.setCell ⟨V, c * 4 + j, none⟩ (.bool true)).setCell ⟨V + 1, c * 4 + j, none⟩ (.int .i64 id)).setCell ⟨V + 2, c * 4 + j, none⟩ (.bool true)) := by
  obtain ⟨vf, h1, h2⟩ := h.vl
  refine ⟨(((h.hv.set (c * 4 + j) _).setOther (by show V ≠ V + 1; omega) _).setOther (by show V ≠ V + 2; omega) _).congr fun i hi => ?_, ⟨fun i => if i = c * 4 + j then id else vf i, (((h1.setOther (by show V + 1 ≠ V; omega) _).set (c * 4 + j) _).setOther (by show V + 1 ≠ V + 2; omega) _).congr fun i hi => ?_, fun i hi x hx => ?_⟩,
    (((h.wo.setOther (by show V + 2 ≠ V; omega) _).setOther (by show V + 2 ≠ V + 1; omega) _).set (c * 4 + j) _).congr fun i hi => ?_, (((h.gn.setOther (by show V + 3 ≠ V; omega) _).setOther (by show V + 3 ≠ V + 1; omega) _).setOther (by show V + 3 ≠ V + 2; omega) _).congr fun i hi => ?_⟩
  · simp only [St.touch, at20 hj]
    by_cases e : i = c * 4 + j <;> simp [e]
  · by_cases e : i = c * 4 + j <;> simp [e]
  · simp only [St.touch, at20 hj] at hx
    by_cases e : i = c * 4 + j
    · rw [if_pos e] at hx; simp only [if_pos e]; simpa using hx
    · rw [if_neg e] at hx; simp only [if_neg e]; exact h2 i hi x hx
  · simp only [St.touch, at20 hj]
    by_cases e : i = c * 4 + j <;> simp [e]
  · simp [St.touch]

theorem spare_read {base : Nat} {spv : Value} {m : Nat} (h : w.ownsRow base 34 1 spv m (spL T L m)) :
    ∃ A cap, spv = .slice A m cap ∧ ∀ k, k < m → ∃ g, A = some ⟨g, 0, none⟩ ∧ w.cell? ⟨g, k, none⟩ = some (.slice (some ⟨T k, 0, none⟩) 0 (L k)) := by
  rcases h.2 with ⟨rfl, rfl⟩ | ⟨g, cap, cur, rfl, hb, hh, hc, hm, hs, ht⟩
  · exact ⟨_, _, rfl, fun k hk => by omega⟩
  · refine ⟨_, _, rfl, fun k hk => ⟨g, rfl, ?_⟩⟩
    simp only [World.cell?, hh]
    have h1 : (cur.toList.take (m * 1))[k]? = (spL T L m)[k]? := by rw [ht]
    rw [List.getElem?_take, if_pos (by omega)] at h1
    simp [spL, hk] at h1
    simpa using h1
end Go.Proofs.Ybulkbwok
