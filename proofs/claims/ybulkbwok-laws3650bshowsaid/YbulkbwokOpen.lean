/- DERIVED. The law's steps, opened. -/
import Derived.Test.YbulkbwokL
import Derived.Deep.Strs
import Derived.Deep.Slices
namespace Go.Proofs.Ybulkbwok.Open
open Go.ChangeShapes Go.WideShapes Go.RowKit Go.Deep

theorem u8_bounds {x : Int} (h : (Lit.int .u8 x).wf = true) : 0 ≤ x ∧ x ≤ 255 := by
  simp [Lit.wf, IntKind.min, IntKind.max, IntKind.signed, IntKind.bits] at h
  omega
theorem u8_nat {x : Int} (h : (Lit.int .u8 x).wf = true) : ∃ n : Nat, x = n ∧ n ≤ 255 := by
  have := u8_bounds h
  exact ⟨x.toNat, by omega, by omega⟩
theorem len3 {cs : List Value} (h : cs.length = 3) : ∃ a b c, cs = [a, b, c] := by
  rcases cs with _ | ⟨a, _ | ⟨b, _ | ⟨c, _ | ⟨d, cs⟩⟩⟩⟩
  · simp at h
  · simp at h
  · simp at h
  · exact ⟨a, b, c, rfl⟩
  · simp at h

section
variable {H : Type} {enc : TypeId × Value → H} {W : World} {base : Nat} {held : Bool}

theorem c5 : Yba.prog.cellsOf 5 = 1 := by kernel_rfl
theorem c4 : Yba.prog.cellsOf 4 = 1 := by kernel_rfl
theorem c2 : Yba.prog.cellsOf 2 = 1 := by kernel_rfl
theorem c23 : Yba.prog.cellsOf 23 = 1 := by kernel_rfl
theorem c52 : Yba.prog.cellsOf 52 = 3 := by kernel_rfl
theorem c25 : Yba.prog.cellsOf 25 = 3 := by kernel_rfl

theorem open_touch {fuel : Nat} {cs : List Value} {x : DataW H × List MemPlace} (h : DataW.trod enc Yba.prog W base (fun _ => true) held fuel 52 cs = some x) :
    ∃ y : Nat × Nat × Bool, cs = [.int .u8 y.1, .int .u8 y.2.1, .bool y.2.2] ∧ y.1 ≤ 255 ∧ y.2.1 ≤ 255 := by
  obtain ⟨y0, y1, y2, n, _, hl, h0, h1, h2⟩ := trod_struct3 Yba.underlying52 h
  rw [c52] at hl
  obtain ⟨a, b, c, rfl⟩ := len3 hl
  simp only [c5, c4, List.drop_zero, List.drop_succ_cons, List.take_succ_cons, List.take_zero] at h0 h1 h2
  obtain ⟨n0, e0, _, w0⟩ := DataW.trod_int Yba.underlying5 h0
  obtain ⟨n1, e1, _, w1⟩ := DataW.trod_int Yba.underlying5 h1
  obtain ⟨g, e2, _⟩ := DataW.trod_bool Yba.underlying4 h2
  obtain ⟨m0, rfl, b0⟩ := u8_nat w0
  obtain ⟨m1, rfl, b1⟩ := u8_nat w1
  simp only [List.cons.injEq, and_true] at e0 e1 e2
  exact ⟨(m0, m1, g), by rw [e0, e1, e2], b0, b1⟩

theorem at3 {x : Addr} {i : Nat} {v0 u v z : Value} (h0 : W.cell? (x.add 0) = some v0) (h : W.cells? base (x.add (i * 3)) 3 = some [u, v, z]) :
    ∃ b off, some x = some (⟨b, off, none⟩ : Addr) ∧ b < W.heap.size ∧ W.cell? ⟨b, off + i * 3, none⟩ = some u ∧ W.cell? ⟨b, off + i * 3 + 1, none⟩ = some v ∧ W.cell? ⟨b, off + i * 3 + 2, none⟩ = some z := by
  obtain ⟨_, _, hc⟩ := World.cells?_some h
  have g0 := hc 0 (by omega)
  have g1 := hc 1 (by omega)
  have g2 := hc 2 (by omega)
  rw [add_add] at g0 g1 g2
  obtain ⟨b, off, spot⟩ := x
  have hspot : spot = none := by simpa [Addr.add] using World.cell?_spot h0
  subst hspot
  have hadd : ∀ j, (⟨b, off, none⟩ : Addr).add j = ⟨b, off + j, none⟩ := fun j => by unfold Addr.add; split <;> simp_all
  rw [hadd] at g0 g1 g2
  have hlt := World.block_lt_of_cell? _ _ g0
  exact ⟨b, off, rfl, hlt, g0, g1, g2⟩
theorem first3 {x : Addr} {cs : List Value} (h : W.cells? base (x.add (0 * 3)) 3 = some cs) : ∃ v0, W.cell? (x.add 0) = some v0 := by
  obtain ⟨_, hl, hc⟩ := World.cells?_some h
  have g0 := hc 0 (by omega)
  rw [add_add] at g0
  obtain ⟨a, b, c, rfl⟩ := len3 hl
  exact ⟨a, by simpa using g0⟩

theorem open_touches {fuel : Nat} {v : Value} {x : DataW H × List MemPlace} (h : DataW.trod enc Yba.prog W base (fun _ => true) held fuel 23 [v] = some x) :
    ∃ y : Option Addr × Nat × Nat × (Nat → Nat × Nat × Bool), v = .slice y.1 y.2.1 y.2.2.1 ∧ ∀ i, i < y.2.1 → ((y.2.2.2 i).1 ≤ 255 ∧ (y.2.2.2 i).2.1 ≤ 255) ∧
      ∃ b off, y.1 = some ⟨b, off, none⟩ ∧ b < W.heap.size ∧ W.cell? ⟨b, off + i * 3, none⟩ = some (.int .u8 (y.2.2.2 i).1) ∧ W.cell? ⟨b, off + i * 3 + 1, none⟩ = some (.int .u8 (y.2.2.2 i).2.1) ∧ W.cell? ⟨b, off + i * 3 + 2, none⟩ = some (.bool (y.2.2.2 i).2.2) := by
  rcases open_slice Yba.underlying23 h with ⟨hcs, _⟩ | ⟨a, len, cap, m, n, D, Pl, hcs, _, hl, _, hmm, _, hx⟩
  · simp only [List.cons.injEq, and_true] at hcs
    exact ⟨(none, 0, 0, fun _ => (0, 0, false)), hcs, fun i hi => by simp at hi⟩
  · simp only [List.cons.injEq, and_true] at hcs
    simp only [if_true] at hmm
    subst hmm
    rw [c52] at hx
    have each : ∀ i, i < m → ∃ y : Nat × Nat × Bool, W.cells? base (a.add (i * 3)) 3 = some [.int .u8 y.1, .int .u8 y.2.1, .bool y.2.2] ∧ y.1 ≤ 255 ∧ y.2.1 ≤ 255 := fun i hi => by
      obtain ⟨cs', h1, h2⟩ := hx i hi
      obtain ⟨y, rfl, b0, b1⟩ := open_touch h2
      exact ⟨y, h1, b0, b1⟩
    obtain ⟨y, hy⟩ := choose_lt each
    refine ⟨(some a, len, m, y), hcs, fun i hi => ?_⟩
    have hi' : i < m := Nat.lt_of_lt_of_le hi hl
    obtain ⟨v0, hv0⟩ := first3 (hy 0 (by omega)).1
    exact ⟨(hy i hi').2, at3 hv0 (hy i hi').1⟩

theorem open_step {fuel : Nat} {cs : List Value} {x : DataW H × List MemPlace} (h : DataW.trod enc Yba.prog W base (fun _ => true) held fuel 25 cs = some x) :
    ∃ z : Int × Nat × Option Addr × Nat × Nat × (Nat → Nat × Nat × Bool), cs = [.int .i64 z.1, .slice z.2.2.1 z.2.2.2.1 z.2.2.2.2.1, .int .u8 z.2.1] ∧ z.2.1 ≤ 255 ∧ ∀ i, i < z.2.2.2.1 → ((z.2.2.2.2.2 i).1 ≤ 255 ∧ (z.2.2.2.2.2 i).2.1 ≤ 255) ∧
      ∃ b off, z.2.2.1 = some ⟨b, off, none⟩ ∧ b < W.heap.size ∧ W.cell? ⟨b, off + i * 3, none⟩ = some (.int .u8 (z.2.2.2.2.2 i).1) ∧ W.cell? ⟨b, off + i * 3 + 1, none⟩ = some (.int .u8 (z.2.2.2.2.2 i).2.1) ∧ W.cell? ⟨b, off + i * 3 + 2, none⟩ = some (.bool (z.2.2.2.2.2 i).2.2) := by
  obtain ⟨y0, y1, y2, n, _, hl, h0, h1, h2⟩ := trod_struct3 Yba.underlying25 h
  rw [c25] at hl
  obtain ⟨a, b, c, rfl⟩ := len3 hl
  simp only [c5, c2, c23, List.drop_zero, List.drop_succ_cons, List.take_succ_cons, List.take_zero] at h0 h1 h2
  obtain ⟨n0, e0, _, _⟩ := DataW.trod_int Yba.underlying2 h0
  obtain ⟨y, rfl, hy⟩ := open_touches h1
  obtain ⟨n2, e2, _, w2⟩ := DataW.trod_int Yba.underlying5 h2
  obtain ⟨m2, rfl, b2⟩ := u8_nat w2
  simp only [List.cons.injEq, and_true] at e0 e2
  exact ⟨(n0, m2, y), by rw [e0, e2], b2, hy⟩

theorem open_steps {fuel : Nat} {X : Option Addr} {len cap : Nat} {x : DataW H × List MemPlace} (h : DataW.trod enc Yba.prog W base (fun _ => true) held fuel 22 (Value.cells (.slice X len cap)).toList = some x) :
    ∃ (idf : Nat → Int) (A : Nat → Option Addr) (L C lst : Nat → Nat) (tc tj : Nat → Nat → Nat) (tg : Nat → Nat → Bool), Inp X len idf A L C lst tc tj tg W := by
  rcases open_slice Yba.underlying22 h with ⟨hcs, _⟩ | ⟨a, len', cap', m, n, D, Pl, hcs, _, hl, _, hmm, _, hx⟩
  · simp [Value.cells] at hcs
    obtain ⟨rfl, rfl, rfl⟩ := hcs
    exact ⟨fun _ => 0, fun _ => none, fun _ => 0, fun _ => 0, fun _ => 0, fun _ _ => 0, fun _ _ => 0, fun _ _ => false, fun i hi => by omega, fun i hi => by omega, fun i hi => by omega, fun i hi => by omega⟩
  · simp [Value.cells] at hcs
    obtain ⟨rfl, rfl, rfl⟩ := hcs
    simp only [if_true] at hmm
    subst hmm
    rw [c25] at hx
    have each : ∀ k, k < m → ∃ z : Int × Nat × Option Addr × Nat × Nat × (Nat → Nat × Nat × Bool), W.cells? base (a.add (k * 3)) 3 = some [.int .i64 z.1, .slice z.2.2.1 z.2.2.2.1 z.2.2.2.2.1, .int .u8 z.2.1] ∧ z.2.1 ≤ 255 ∧ ∀ i, i < z.2.2.2.1 → ((z.2.2.2.2.2 i).1 ≤ 255 ∧ (z.2.2.2.2.2 i).2.1 ≤ 255) ∧
        ∃ b off, z.2.2.1 = some ⟨b, off, none⟩ ∧ b < W.heap.size ∧ W.cell? ⟨b, off + i * 3, none⟩ = some (.int .u8 (z.2.2.2.2.2 i).1) ∧ W.cell? ⟨b, off + i * 3 + 1, none⟩ = some (.int .u8 (z.2.2.2.2.2 i).2.1) ∧ W.cell? ⟨b, off + i * 3 + 2, none⟩ = some (.bool (z.2.2.2.2.2 i).2.2) := fun k hk => by
      obtain ⟨cs', h1, h2⟩ := hx k hk
      obtain ⟨z, rfl, hz⟩ := open_step h2
      exact ⟨z, h1, hz⟩
    obtain ⟨z, hz⟩ := choose_lt each
    refine ⟨fun k => (z k).1, fun k => (z k).2.2.1, fun k => (z k).2.2.2.1, fun k => (z k).2.2.2.2.1, fun k => (z k).2.1, fun k i => ((z k).2.2.2.2.2 i).1, fun k i => ((z k).2.2.2.2.2 i).2.1, fun k i => ((z k).2.2.2.2.2 i).2.2, fun k hk => ?_, fun k hk => (hz k (Nat.lt_of_lt_of_le hk hl)).2.1, fun k hk i hi => ((hz k (Nat.lt_of_lt_of_le hk hl)).2.2 i hi).2, fun k hk i hi => ((hz k (Nat.lt_of_lt_of_le hk hl)).2.2 i hi).1⟩
    obtain ⟨v0, hv0⟩ := first3 (hz 0 (Nat.lt_of_lt_of_le (by omega : 0 < len) hl)).1
    exact at3 hv0 (hz k (Nat.lt_of_lt_of_le hk hl)).1
end
end Go.Proofs.Ybulkbwok.Open
