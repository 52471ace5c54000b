/- DERIVED. LawS3657CBuiltSaid, proved. -/
import Derived.Test.YbulkbwseBuilt
import Derived.ProofKit
import Derived.OpenShut
import Derived.ShutString
import Derived.ChangeOld
import Derived.Below
import Derived.ChangeSlices
import Derived.Deep.Matrix
namespace Go.Proofs.Ybulkbwse.BuiltSaid
open Go.ChangeShapes Go.WideShapes Go.ChangeAt Go.RowKit
open Go.ChangeMaps (open_string shut_string)

theorem own : ownKnob Yba.prog.godebug = none := by kernel_rfl
theorem laidOut : laidOutB Yba.prog = true := by kernel_rfl
theorem u8_bounds {x : Int} (h : (Lit.int .u8 x).wf = true) : 0 ≤ x ∧ x ≤ 255 := by
  simp [Lit.wf, IntKind.min, IntKind.max, IntKind.signed, IntKind.bits] at h
  omega

theorem at_cell {W : World} {x : Addr} {j : Nat} {v0 v : Value} (h0 : W.cell? (x.add 0) = some v0) (h : W.cell? (x.add j) = some v) :
    ∃ b off, some x = some (⟨b, off, none⟩ : Addr) ∧ b < W.heap.size ∧ W.cell? ⟨b, off + j, none⟩ = some v := by
  have hlt := World.block_lt_of_cell? _ _ h
  obtain ⟨b, off, spot⟩ := x
  have hspot : spot = none := by simpa [Addr.add] using World.cell?_spot h0
  subst hspot
  have hadd : (⟨b, off, none⟩ : Addr).add j = ⟨b, off + j, none⟩ := by unfold Addr.add; split <;> simp_all
  rw [hadd] at h hlt
  exact ⟨b, off, rfl, hlt, h⟩
theorem mem_getD {l : List Int} {j : Nat} (h : j < l.length) : l.getD j 0 ∈ l := by
  rw [List.getD_eq_getElem?_getD, List.getElem?_eq_getElem h]
  exact List.getElem_mem h

set_option maxRecDepth 100000 in
theorem lifted (os : Os) (started : os.Started) (H : Type) (enc : TypeId × Value → H) :
    ReturnsInHanded {} Yba.checked os 3 .any (Rows.lawS3657CBuiltSpec.pre6 enc Yba.prog Yba.f3 Rows.lawS3657CBuiltRow.domain false) (Rows.lawS3657CBuiltSpec.post enc Yba.prog Yba.f3 false true false false) := by
  refine returnsInHanded_of_change (C := Yba.checked) own started (by kernel_rfl) Yba.func3
    (ChangeSpec.witness6 (enc := enc) (C := Yba.checked) false ⟨#[], #[.slice none 0 0, .slice none 0 0], []⟩ 8 (by kernel_rfl) (by kernel_rfl) (by kernel_rfl) (by kernel_rfl)) ?_
  intro W base args ds gs before hval0 hW hcnd _
  have hval : ∀ (j : Nat) t v, Yba.f3.params[j]? = some t → args[j]? = some v → Value.okWide Yba.prog W .any base t v := hval0
  have hW' := hW
  obtain ⟨p, q, hA0, hV, rfl, hfz, hnd⟩ := hW
  have hA : DataW.TrodAll enc Yba.prog W 0 (fun _ => true) true Yba.f3.params.toList args.toList ds p := hA0
  rw [Yba.params3] at hA hval
  obtain ⟨v0, v1, d0, d1, p0, p1, rfl, rfl, rfl, h0, h1⟩ := trodAll_two hA
  obtain ⟨rfl, rfl⟩ := trodVars_none hV
  obtain ⟨a0, len0, cap0, rfl⟩ := okWide_slice Yba.underlying22 (hval 0 22 v0 rfl rfl)
  obtain ⟨a1, len1, cap1, rfl⟩ := okWide_slice Yba.underlying23 (hval 1 23 v1 rfl rfl)
  have k0 := h0
  have k1 := h1
  have lt0 : ∀ x ∈ p0, x.block < W.heap.size := by obtain ⟨m, hm⟩ := k0; exact DataW.trod_lt m _ _ _ hm
  have lt1 : ∀ x ∈ p1, x.block < W.heap.size := by obtain ⟨m, hm⟩ := k1; exact DataW.trod_lt m _ _ _ hm
  have hcall : Calls Yba.prog 3 #[.slice a0 len0 cap0, .slice a1 len1 cap1] W fun e w' => e = .returned (.bool true) ∧ Below W.heap.size W w' := by
    by_cases hl1 : 256 < len0
    · exact built_long a0 a1 len0 cap0 len1 cap1 W (by omega)
    by_cases hl2 : 1024 < len1
    · exact built_long2 a0 a1 len0 cap0 len1 cap1 W (by omega) (by omega)
    obtain ⟨f0, hf0⟩ := h0
    obtain ⟨f1, hf1⟩ := h1
    obtain ⟨A, L, C, Z, hpre⟩ : ∃ A L C Z, Pre a0 len0 A L C Z W := by
      rcases Go.Deep.open_int_rows Yba.underlying22 Yba.underlying23 Yba.underlying5 (by kernel_rfl) (by kernel_rfl) hf0 with ⟨hcs, _⟩ | ⟨x, l, c, A, L, C, Z, hcs, _, hl, hm, _, hr⟩
      · simp [Value.cells] at hcs
        obtain ⟨rfl, rfl, rfl⟩ := hcs
        exact ⟨fun _ => none, fun _ => 0, fun _ => 0, fun _ _ => 0, fun i hi => by omega, fun i hi => by omega⟩
      · simp [Value.cells] at hcs
        obtain ⟨rfl, rfl, rfl⟩ := hcs
        refine ⟨A, L, C, fun i j => (Z i).getD j 0, fun i hi => ?_, fun i hi j hj => ?_⟩
        · exact at_cell (hr 0 (by omega)).1 (hr i (by omega)).1
        · obtain ⟨_, hL, hC, hZ, hw, hnone, hsome⟩ := hr i (by omega)
          refine ⟨u8_bounds (hw _ (mem_getD (by omega))), ?_⟩
          cases hA' : A i with
          | none => have := hnone hA'; omega
          | some a' =>
            have := (hsome a' hA').2
            exact at_cell (this 0 (by omega)) (this j (by omega))
    obtain ⟨zs, hz, hc⟩ : ∃ zs : Nat → Int, (∀ j, j < len1 → 0 ≤ zs j ∧ zs j ≤ 255) ∧ (∀ j, j < len1 → ∃ b off, a1 = some ⟨b, off, none⟩ ∧ b < W.heap.size ∧ W.cell? ⟨b, off + j, none⟩ = some (.int .u8 (zs j))) := by
      rcases open_ints Yba.underlying23 Yba.underlying5 (by kernel_rfl) hf1 with ⟨hcs, _⟩ | ⟨x, l, c, zs, hcs, _, hl, hm, hz0, _, hcell, hws⟩
      · simp [Value.cells] at hcs
        obtain ⟨rfl, rfl, rfl⟩ := hcs
        exact ⟨fun _ => 0, fun j hj => by omega, fun j hj => by omega⟩
      · simp [Value.cells] at hcs
        obtain ⟨rfl, rfl, rfl⟩ := hcs
        have hz : zs.length = cap1 := by simpa using hz0
        exact ⟨fun j => zs.getD j 0, fun j hj => u8_bounds (hws _ (mem_getD (by omega))), fun j hj => at_cell (hcell 0 (by omega)) (hcell j (by omega))⟩
    exact built_law a0 a1 len0 cap0 len1 cap1 A L C Z zs W (by omega) (by omega) hpre hz hc
  clear hA0 hval0
  refine hcall.mono fun e W' ⟨he, hB⟩ => ?_
  subst he
  exact ⟨_, rfl, _, _, _, [], _, [], hW', trodAll_mk1 (shut_bool Yba.underlying4 _), trodAll_mk2 (Below.trod laidOut (by kernel_rfl) (of_decide_eq_true (by kernel_rfl)) k0 hB lt0) (Below.trod laidOut (by kernel_rfl) (of_decide_eq_true (by kernel_rfl)) k1 hB lt1), rfl, hB.frame _, fun h => by cases h⟩

theorem over : Rows.lawS3657CBuiltRow.holds Yba.pinned (OpenSpec.ofChange Rows.lawS3657CBuiltSpec) :=
  OpenClaim.holds_of_wide 3 Yba.f3 rfl rfl rfl rfl rfl rfl rfl ⟨rfl, rfl, rfl, rfl, rfl⟩ rfl rfl rfl rfl rfl (by kernel_rfl) Yba.func3 (by kernel_rfl)
    (of_decide_eq_true (by kernel_rfl)) (by unfold Func.isWrapper; first | (rw [if_pos (by decide +kernel)]; kernel_rfl) | (rw [if_neg (by decide +kernel)]; exact ⟨rfl, rfl⟩))
    (fun os started H enc _ => lifted os started H enc)
end Go.Proofs.Ybulkbwse.BuiltSaid

namespace Go.Proofs.Ybulkbwse
theorem built_said : Rows.LawS3657CBuiltSaid := BuiltSaid.over
end Go.Proofs.Ybulkbwse
