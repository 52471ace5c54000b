/- DERIVED. clear, the law's closure, what Show keeps. -/
import Derived.Test.YbulkbwokC
import Derived.Laws.CopyRow
namespace Go.Proofs.Ybulkbwok
open Go.RowKit
attribute [local go_sem ↓] Go.wp_at_zero Go.wp_at_succ
variable {N B W wt : Nat} {M : Nat → Nat} {Bl Ch : Nat → Nat → Nat} {lk atv fl : Int} {sp : Value} {w w' : World}

theorem zero54 (w : World) : (zeroValue 54).run Yba.prog w = .ok (.agg #[.int .u8 0, .string ⟨#[]⟩, .bool false]) w := by kernel_rfl
def zeroT : Nat → Nat × Nat × Bool := fun _ => (0, 0, false)
theorem zeroT_list (n : Nat) : (Builtin.zeroCells #[.int .u8 0, .string ⟨#[]⟩, .bool false] n).size = n * 3 ∧ ∀ i, i < n * 3 → (Builtin.zeroCells #[.int .u8 0, .string ⟨#[]⟩, .bool false] n)[i]? = some (tchF zeroT i) := by
  refine ⟨by simp [Builtin.zeroCells], fun i hi => ?_⟩
  have h1 : i % 3 = 0 ∨ i % 3 = 1 ∨ i % 3 = 2 := by omega
  simp [Builtin.zeroCells, hi, tchF, zeroT]
  rcases h1 with h | h | h <;> simp [h, ids]

theorem clear_tch {T n : Nat} {ts : Nat → Nat × Nat × Bool} (h : Tch T n ts w) (ty : TypeId) :
    ∃ w', (Builtin.clear_ #[34] ty #[.slice (some ⟨T, 0, none⟩) n n]).run Yba.prog w = .ok (.tuple #[]) w' ∧ Tch T n zeroT w' ∧ (∀ k, k ≠ T → w'.heap[k]? = w.heap[k]?) ∧ w'.os = w.os ∧ w'.tape = w.tape ∧ w'.output = w.output ∧ w'.heap.size = w.heap.size := by
  rcases Nat.eq_zero_or_pos n with rfl | hn
  · refine ⟨w, ?_, ⟨h.row.congr fun i hi => by omega, fun i hi => by omega⟩, fun _ _ => rfl, rfl, rfl, rfl, rfl⟩
    simp [Builtin.clear_, run_underlying Yba.underlying34]
  · obtain ⟨c, hb, hsz, hc⟩ := h.row
    obtain ⟨z1, z2⟩ := zeroT_list n
    have hst := run_storeCells_at (P := Yba.prog) T 0 54 (Builtin.zeroCells #[.int .u8 0, .string ⟨#[]⟩, .bool false] n).toList 0 c w hb (by simp [z1, hsz]) (by
      intro v hv
      simp [Builtin.zeroCells] at hv
      obtain ⟨i, hi, rfl⟩ := hv
      have h1 : i % 3 = 0 ∨ i % 3 = 1 ∨ i % 3 = 2 := by omega
      rcases h1 with h | h | h <;> simp [h, Value.oneCell'])
    simp only [Nat.add_zero, Nat.zero_add, List.take_zero, List.nil_append, Array.length_toList, z1] at hst
    rw [List.drop_of_length_le (by simp [hsz]), List.append_nil] at hst
    refine ⟨w.setRow T (Builtin.zeroCells #[.int .u8 0, .string ⟨#[]⟩, .bool false] n), ?_, ⟨⟨_, setRow_heap w T c _ 54 _ hb, z1, z2⟩, fun i _ => ⟨by simp [zeroT], by simp [zeroT]⟩⟩, fun k hk => setRow_other w T k _ hk, rfl, rfl, rfl, setRow_size _ _ _⟩
    obtain ⟨m, rfl⟩ : ∃ m, n = m + 1 := ⟨n - 1, by omega⟩
    simp [Builtin.clear_, run_underlying Yba.underlying34, Value.cells, hst]

set_option maxRecDepth 100000 in
theorem shown_any (Cb Wv Ab Sb : Nat) (at0 : Int) (x y : Value) (w : World) (n1 : Cb ≠ Wv) (n2 : Cb ≠ Ab) (n3 : Cb ≠ Sb) (n4 : Cb ≠ W) (n5 : Ab ≠ Wv) (n6 : Ab ≠ Sb) (n7 : Ab ≠ W)
    (hC : w.heap[Cb]? = some (.cells #[.int .i64 0] 3)) (hV : w.heap[Wv]? = some (.cells #[.pointer (some ⟨W, 0, none⟩)] 27)) (hA : w.heap[Ab]? = some (.cells #[x] 2)) (hS : w.heap[Sb]? = some (.cells #[y] 3))
    (h9 : w.cell? ⟨W, 9, none⟩ = some (.int .i64 at0)) (h23 : w.cell? ⟨W, 23, none⟩ = some (.slice none 0 0)) :
    Calls Yba.prog 6 #[.pointer (some ⟨Cb, 0, none⟩), .pointer (some ⟨Wv, 0, none⟩), .pointer (some ⟨Ab, 0, none⟩), .pointer (some ⟨Sb, 0, none⟩)] w fun e w' => e = .returned (.tuple #[]) ∧
      w' = ((w.setCell ⟨Cb, 0, none⟩ (.int .i64 1)).setCell ⟨Ab, 0, none⟩ (.int .i64 at0)).setCell ⟨Sb, 0, none⟩ (.int .i64 0) := by
  have c1 : w.cell? ⟨Cb, 0, none⟩ = some (.int .i64 0) := by simp [World.cell?, hC]
  have c2 : w.cell? ⟨Wv, 0, none⟩ = some (.pointer (some ⟨W, 0, none⟩)) := by simp [World.cell?, hV]
  have c3 : w.cell? ⟨Ab, 0, none⟩ = some x := by simp [World.cell?, hA]
  have c4 : w.cell? ⟨Sb, 0, none⟩ = some y := by simp [World.cell?, hS]
  have f1 : w.frozen? ⟨Cb, 0, none⟩ = false := by simp [World.frozen?, hC]
  have f3 : w.frozen? ⟨Ab, 0, none⟩ = false := by simp [World.frozen?, hA]
  have f4 : w.frozen? ⟨Sb, 0, none⟩ = false := by simp [World.frozen?, hS]
  clear hC hV hA hS
  go_enter Yba.func6, Yba.ntmps6
  go_wp2
  exact bodyPost_end (results_none rfl _ _ _) rfl ⟨rfl, rfl⟩

/-- The changes in block CB. -/
def chF (idf : Nat → Int) (T n : Nat → Nat) (ls : Nat → Nat → Bool) (i : Nat) : Value :=
  if i % 7 = 0 then .int .i64 (idf (i / 7)) else if i % 7 = 1 then .slice (some ⟨T (i / 7), 0, none⟩) (n (i / 7)) (n (i / 7)) else .bool (ls (i / 7) (i % 7 - 2))
theorem ch_cell {idf : Nat → Int} {T n : Nat → Nat} {ls : Nat → Nat → Bool} {CB m k : Nat} (h : w.rowIs CB 57 (m * 7) (chF idf T n ls)) (hk : k < m) :
    w.cell? ⟨CB, k * 7, none⟩ = some (.int .i64 (idf k)) ∧ w.cell? ⟨CB, k * 7 + 1, none⟩ = some (.slice (some ⟨T k, 0, none⟩) (n k) (n k)) ∧ w.cell? ⟨CB, k * 7 + 2, none⟩ = some (.bool (ls k 0)) ∧ w.cell? ⟨CB, k * 7 + 3, none⟩ = some (.bool (ls k 1)) ∧
      w.cell? ⟨CB, k * 7 + 4, none⟩ = some (.bool (ls k 2)) ∧ w.cell? ⟨CB, k * 7 + 5, none⟩ = some (.bool (ls k 3)) ∧ w.cell? ⟨CB, k * 7 + 6, none⟩ = some (.bool (ls k 4)) := by
  have e : ∀ r, r < 7 → (k * 7 + r) % 7 = r ∧ (k * 7 + r) / 7 = k := fun r hr => ⟨by omega, by omega⟩
  have c : ∀ r, r < 7 → w.cell? ⟨CB, k * 7 + r, none⟩ = some (chF idf T n ls (k * 7 + r)) := fun r hr => h.cell (by omega)
  have v : ∀ r, r < 7 → chF idf T n ls (k * 7 + r) = if r = 0 then .int .i64 (idf k) else if r = 1 then .slice (some ⟨T k, 0, none⟩) (n k) (n k) else .bool (ls k (r - 2)) := fun r hr => by
    simp only [chF, (e r hr).1, (e r hr).2]
  refine ⟨?_, ?_, ?_, ?_, ?_, ?_, ?_⟩
  · have := c 0 (by omega); rw [v 0 (by omega)] at this; simpa using this
  all_goals first
    | (have := c 1 (by omega); rw [v 1 (by omega)] at this; exact this)
    | (have := c 2 (by omega); rw [v 2 (by omega)] at this; exact this)
    | (have := c 3 (by omega); rw [v 3 (by omega)] at this; exact this)
    | (have := c 4 (by omega); rw [v 4 (by omega)] at this; exact this)
    | (have := c 5 (by omega); rw [v 5 (by omega)] at this; exact this)
    | (have := c 6 (by omega); rw [v 6 (by omega)] at this; exact this)

def St.run (idf : Nat → Int) (ts : Nat → Nat → Nat × Nat × Bool) (n : Nat → Nat) (ls : Nat → Nat → Bool) (s : St) : Nat → St
  | 0 => s
  | k + 1 => St.lists (idf k) (ls k) (St.touches (idf k) (ts k) (St.run idf ts n ls s k) (n k)) 5
def atOf (at0 : Int) (idf : Nat → Int) : Nat → Int
  | 0 => at0
  | k + 1 => idf k

def spL (T n : Nat → Nat) (i : Nat) : List Value := (List.range i).map fun k => .slice (some ⟨T k, 0, none⟩) 0 (n k)
theorem spL_succ (T n : Nat → Nat) (i : Nat) : spL T n (i + 1) = spL T n i ++ [.slice (some ⟨T i, 0, none⟩) 0 (n i)] := by simp [spL, List.range_succ]

structure SI (N B W wt : Nat) (M : Nat → Nat) (Bl Ch : Nat → Nat → Nat) (at0 : Int) (CB m : Nat) (idf : Nat → Int) (T n : Nat → Nat) (ls : Nat → Nat → Bool) (ts : Nat → Nat → Nat × Nat × Bool) (s : St) (lk : Int) (base : Nat) (spv : Value) (i : Nat) (w : World) : Prop where
  wi : WI N B W wt M Bl Ch lk (atOf at0 idf i) at0 (St.run idf ts n ls s i).G spv (St.run idf ts n ls s i).F (St.run idf ts n ls s i).wk w
  own : w.ownsRow base 34 1 spv (min i 64) (spL T n (min i 64))
  tch : ∀ k, k < m → Tch (T k) (n k) (if k < i ∧ k < 64 then zeroT else ts k) w
  ch : w.rowIs CB 57 (m * 7) (chF idf T n ls)

structure Far (N B m : Nat) (T : Nat → Nat) (w w' : World) : Prop where
  os : w'.os = w.os
  tape : w'.tape = w.tape
  output : w'.output = w.output
  size : w.heap.size ≤ w'.heap.size
  block : ∀ k, k < w.heap.size → ((k < N ∨ k = N + 8) ∨ B ≤ k) → (∀ i, i < m → k ≠ T i) → w'.heap[k]? = w.heap[k]?
theorem Far.refl (N B m : Nat) (T : Nat → Nat) (w : World) : Far N B m T w w := ⟨rfl, rfl, rfl, Nat.le_refl _, fun _ _ _ _ => rfl⟩
theorem Far.trans {m : Nat} {T : Nat → Nat} {a b c : World} (h : Far N B m T a b) (k : Far N B m T b c) : Far N B m T a c :=
  ⟨k.os.trans h.os, k.tape.trans h.tape, k.output.trans h.output, Nat.le_trans h.size k.size, fun i hi h1 h2 => (k.block i (Nat.lt_of_lt_of_le hi h.size) h1 h2).trans (h.block i hi h1 h2)⟩
theorem Kept.far {m : Nat} {T : Nat → Nat} {a b : World} (h : Kept N B a b) : Far N B m T a b := ⟨h.os, h.tape, h.output, h.size, fun k hk h1 _ => h.block k hk h1⟩
theorem Far.setNew {m : Nat} {T : Nat → Nat} {a b : World} (h : Far N B m T a b) {p : Addr} (h1 : a.heap.size ≤ p.block) (v : Value) : Far N B m T a (b.setCell p v) :=
  ⟨h.os, h.tape, h.output, by simp [World.setCell]; exact h.size, fun k hk hn h2 => (Below.heap_setCell _ _ _ _ (by omega)).trans (h.block k hk hn h2)⟩
theorem info34 : (Yba.prog.info? 34).map (fun i => (i.zero, i.size, i.bytes)) = some (some (.slice none 0 0), 1, 24) := by kernel_rfl
end Go.Proofs.Ybulkbwok
