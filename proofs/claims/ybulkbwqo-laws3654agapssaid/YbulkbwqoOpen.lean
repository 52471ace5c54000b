/- DERIVED. The laws' inputs, opened. -/
import Derived.Test.YbulkbwqoE
import Derived.Test.YbulkbwqoRows
import Derived.ProofKit
import Derived.OpenShut
import Derived.ShutString
import Derived.ChangeOld
import Derived.Below
import Derived.ChangeSlices
import Derived.SliceStrings
namespace Go.Proofs.Ybulkbwqo.Open
open Go.ChangeShapes Go.WideShapes Go.ChangeAt Go.RowKit

theorem own : ownKnob Yba.prog.godebug = none := by kernel_rfl
theorem laidOut : laidOutB Yba.prog = true := by kernel_rfl
theorem u8_bounds {x : Int} (h : (Lit.int .u8 x).wf = true) : 0 ≤ x ∧ x ≤ 255 := by
  simp [Lit.wf, IntKind.min, IntKind.max, IntKind.signed, IntKind.bits] at h
  omega
theorem u16_bounds {x : Int} (h : (Lit.int .u16 x).wf = true) : 0 ≤ x ∧ x ≤ 65535 := by
  simp [Lit.wf, IntKind.min, IntKind.max, IntKind.signed, IntKind.bits] at h
  omega
theorem u8_byte {x : Int} (h : (Lit.int .u8 x).wf = true) : ∃ b : UInt8, x = (b.toNat : Int) := by
  have := u8_bounds h
  refine ⟨UInt8.ofNat x.toNat, ?_⟩
  have e : (UInt8.ofNat x.toNat).toNat = x.toNat := by simp; omega
  rw [e]; omega
theorem u8_nat {x : Int} (h : (Lit.int .u8 x).wf = true) : ∃ n : Nat, x = n ∧ n ≤ 255 := by
  have := u8_bounds h
  exact ⟨x.toNat, by omega, by omega⟩
theorem u16_nat {x : Int} (h : (Lit.int .u16 x).wf = true) : ∃ n : Nat, x = n ∧ n ≤ 65535 := by
  have := u16_bounds h
  exact ⟨x.toNat, by omega, by omega⟩
theorem at_cell {W : World} {x : Addr} {j : Nat} {v0 v : Value} (h0 : W.cell? (x.add 0) = some v0) (h : W.cell? (x.add j) = some v) :
    ∃ b off, some x = some (⟨b, off, none⟩ : Addr) ∧ b < W.heap.size ∧ W.cell? ⟨b, off + j, none⟩ = some v := by
  have hlt := World.block_lt_of_cell? _ _ h
  obtain ⟨b, off, spot⟩ := x
  have hspot : spot = none := by simpa [Addr.add] using World.cell?_spot h0
  subst hspot
  have hadd : (⟨b, off, none⟩ : Addr).add j = ⟨b, off + j, none⟩ := by unfold Addr.add; split <;> simp_all
  rw [hadd] at h hlt
  exact ⟨b, off, rfl, hlt, h⟩

section
variable {H : Type} {enc : TypeId × Value → H} {W : World} {base : Nat} {held : Bool}
theorem open_pre {fuel : Nat} {Y : Option Addr} {len cap : Nat} {x : DataW H × List MemPlace} (h : DataW.trod enc Yba.prog W base (fun _ => true) held fuel 22 (Value.cells (.slice Y len cap)).toList = some x) :
    ∃ l : List UInt8, l.length = len ∧ Bytes Y l W ∧ (Y = none → l.length = 0 ∧ cap = 0) := by
  rcases open_ints Yba.underlying22 Yba.underlying5 (by kernel_rfl) h with ⟨hcs, _⟩ | ⟨x, l, c, zs, hcs, _, hl, hm, hz0, _, hcell, hws⟩
  · simp [Value.cells] at hcs
    obtain ⟨rfl, rfl, rfl⟩ := hcs
    exact ⟨[], rfl, fun j hj => by simp at hj, fun _ => ⟨rfl, rfl⟩⟩
  · simp [Value.cells] at hcs
    obtain ⟨rfl, rfl, rfl⟩ := hcs
    have hz : zs.length = cap := by simpa using hz0
    have hb : ∀ j (hj : j < zs.length), ∃ b : UInt8, zs[j] = (b.toNat : Int) := fun j hj => u8_byte (hws _ (List.getElem_mem hj))
    refine ⟨(List.range len).map fun j => UInt8.ofNat (zs.getD j 0).toNat, by simp, fun j hj => ?_, fun e => by cases e⟩
    simp at hj
    have hj' : j < zs.length := by omega
    obtain ⟨b, hbb⟩ := hb j hj'
    have hg : zs.getD j 0 = (b.toNat : Int) := by rw [List.getD_eq_getElem?_getD, List.getElem?_eq_getElem hj']; exact hbb
    have hc := hcell j (by omega)
    rw [hg] at hc
    have hv : (((List.range len).map fun j => UInt8.ofNat (zs.getD j 0).toNat)[j]'(by simpa using hj)) = b := by
      rw [List.getElem_map, List.getElem_range, hg]
      simp
    rw [hv]
    exact at_cell (hcell 0 (by omega)) hc
theorem open_items {fuel : Nat} {X : Option Addr} {len cap : Nat} {x : DataW H × List MemPlace} (h : DataW.trod enc Yba.prog W base (fun _ => true) held fuel 23 (Value.cells (.slice X len cap)).toList = some x) :
    ∃ S : Nat → ByteArray, Items X len S W := by
  rcases open_strings Yba.underlying23 Yba.underlying9 (by kernel_rfl) h with ⟨hcs, _⟩ | ⟨x, l, c, ss, hcs, _, hl, hm, hz0, _, hcell, hws⟩
  · simp [Value.cells] at hcs
    obtain ⟨rfl, rfl, rfl⟩ := hcs
    exact ⟨fun _ => ⟨#[]⟩, fun j hj => by omega⟩
  · simp [Value.cells] at hcs
    obtain ⟨rfl, rfl, rfl⟩ := hcs
    have hz : ss.length = cap := by simpa using hz0
    refine ⟨fun j => ss.getD j ByteArray.empty, fun j hj => ?_⟩
    obtain ⟨b, off, h1, h2, h3⟩ := at_cell (hcell 0 (by omega)) (hcell j (by omega))
    have hmem : ss.getD j ByteArray.empty ∈ ss := by
      rw [List.getD_eq_getElem?_getD, List.getElem?_eq_getElem (by omega : j < ss.length)]
      exact List.getElem_mem _
    have := hws _ hmem
    unfold maxLen at this
    exact ⟨b, off, h1, h2, h3, by omega⟩
theorem all_below {W' : World} (hb : Below W.heap.size W W') : ∀ {ts : List TypeId} {vs : List Value} {ds : List (DataW H)} {ps : List MemPlace}, (∀ t ∈ ts, Yba.prog.readableRec t = true ∧ t < Yba.prog.types.size) →
    DataW.TrodAll enc Yba.prog W 0 (fun _ => true) true ts vs ds ps → DataW.TrodAll enc Yba.prog W' 0 (fun b => decide (b < W.heap.size)) true ts vs ds ps
  | [], vs, ds, ps, _, h => by
    obtain ⟨rfl, rfl, rfl⟩ := trodAll_nil h
    exact trodAll_mk0
  | t :: ts, vs, ds, ps, hok, h => by
    obtain ⟨v, vs', d, ds', p, q, rfl, rfl, rfl, hd, hrest⟩ := trodAll_cons h
    have hlt : ∀ x ∈ p, x.block < W.heap.size := by obtain ⟨m, hm⟩ := hd; exact DataW.trod_lt m _ _ _ hm
    exact trodAll_cons_mk (Below.trod laidOut (hok t (by simp)).1 (hok t (by simp)).2 hd hb hlt) (all_below hb (fun u hu => hok u (by simp [hu])) hrest)
end
end Go.Proofs.Ybulkbwqo.Open
