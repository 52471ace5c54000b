/- DERIVED. LawS3657CRawSaid, proved. -/
import Derived.Test.YbulkbwseRaw
import Derived.ProofKit
import Derived.OpenShut
import Derived.ShutString
import Derived.ChangeOld
import Derived.Below
import Derived.SliceStrings
namespace Go.Proofs.Ybulkbwse.RawSaid
open Go.ChangeShapes Go.WideShapes Go.ChangeAt Go.RowKit
open Go.ChangeMaps (open_string shut_string)

theorem own : ownKnob Yba.prog.godebug = none := by kernel_rfl
theorem laidOut : laidOutB Yba.prog = true := by kernel_rfl
theorem u8_bounds {x : Int} (h : (Lit.int .u8 x).wf = true) : 0 ≤ x ∧ x ≤ 255 := by
  simp [Lit.wf, IntKind.min, IntKind.max, IntKind.signed, IntKind.bits] at h
  omega

set_option maxRecDepth 100000 in
theorem lifted (os : Os) (started : os.Started) (H : Type) (enc : TypeId × Value → H) :
    ReturnsInHanded {} Yba.checked os 4 .any (Rows.lawS3657CRawSpec.pre6 enc Yba.prog Yba.f4 Rows.lawS3657CRawRow.domain false) (Rows.lawS3657CRawSpec.post enc Yba.prog Yba.f4 false true false false) := by
  refine returnsInHanded_of_change (C := Yba.checked) own started (by kernel_rfl) Yba.func4
    (ChangeSpec.witness6 (enc := enc) (C := Yba.checked) false ⟨#[], #[.slice none 0 0, .string ⟨#[]⟩, .int .u8 0], []⟩ 8 (by kernel_rfl) (by kernel_rfl) (by kernel_rfl) (by kernel_rfl)) ?_
  intro W base args ds gs before hval0 hW hcnd _
  have hval : ∀ (j : Nat) t v, Yba.f4.params[j]? = some t → args[j]? = some v → Value.okWide Yba.prog W .any base t v := hval0
  have hW' := hW
  obtain ⟨p, q, hA0, hV, rfl, hfz, hnd⟩ := hW
  have hA : DataW.TrodAll enc Yba.prog W 0 (fun _ => true) true Yba.f4.params.toList args.toList ds p := hA0
  rw [Yba.params4] at hA hval
  obtain ⟨v0, v1, v2, d0, d1, d2, p0, p1, p2, rfl, rfl, rfl, h0, h1, h2⟩ := trodAll_three hA
  obtain ⟨rfl, rfl⟩ := trodVars_none hV
  obtain ⟨a0, len0, cap0, rfl⟩ := okWide_slice Yba.underlying24 (hval 0 24 v0 rfl rfl)
  obtain ⟨ev, rfl, rfl, rfl, hev⟩ := open_string Yba.underlying9 (hval 1 9 v1 rfl rfl) h1
  obtain ⟨k, rfl, rfl, rfl, wk⟩ := open_int Yba.underlying5 (hval 2 5 v2 rfl rfl) h2
  have k0 := h0
  have lt0 : ∀ x ∈ p0, x.block < W.heap.size := by obtain ⟨m, hm⟩ := k0; exact DataW.trod_lt m _ _ _ hm
  have hcall : Calls Yba.prog 4 #[.slice a0 len0 cap0, .string ev, .int .u8 k] W fun e w' => e = .returned (.bool true) ∧ Below W.heap.size W w' := by
    by_cases hl1 : 1024 < len0
    · exact raw_long a0 len0 cap0 ev k W (by omega)
    by_cases hl2 : 4096 < ev.size
    · exact raw_long2 a0 len0 cap0 ev k W (by omega) (by omega)
    obtain ⟨fuel, hf⟩ := h0
    rcases open_strings Yba.underlying24 Yba.underlying9 (by kernel_rfl) hf with ⟨hcs, _⟩ | ⟨x, l, c, ss, hcs, _, hl, hm, hz0, _, hcell, hws⟩
    · simp [Value.cells] at hcs
      obtain ⟨rfl, rfl, rfl⟩ := hcs
      exact raw_law none 0 0 [] ev k W rfl (by omega) (by omega) (u8_bounds wk).1 (u8_bounds wk).2 (fun j p hj => by simp at hj) (fun p hp => by simp at hp)
    · simp [Value.cells] at hcs
      obtain ⟨rfl, rfl, rfl⟩ := hcs
      have hz : ss.length = cap0 := by simpa using hz0
      refine raw_law (some x) len0 cap0 (ss.take len0) ev k W (by simp; omega) (by omega) (by omega) (u8_bounds wk).1 (u8_bounds wk).2 (fun j p hj => ?_) (fun p hp => ?_)
      · have hjl : j < len0 := by
          have := (List.getElem?_eq_some_iff.1 hj).1
          simp at this; omega
        rw [List.getElem?_take_of_lt hjl] at hj
        have hc := hcell j (by omega)
        have hc0 := hcell 0 (by omega)
        have hgd : ss.getD j ByteArray.empty = p := by rw [List.getD_eq_getElem?_getD, hj]; rfl
        rw [hgd] at hc
        have hlt := World.block_lt_of_cell? _ _ hc
        obtain ⟨b, off, spot⟩ := x
        have hspot : spot = none := by simpa [Addr.add] using World.cell?_spot hc0
        subst hspot
        have hadd : (⟨b, off, none⟩ : Addr).add j = ⟨b, off + j, none⟩ := by unfold Addr.add; split <;> simp_all
        rw [hadd] at hc hlt
        exact ⟨b, off, rfl, hlt, hc⟩
      · have := hws p (List.mem_of_mem_take hp)
        unfold maxLen at this
        omega
  clear hA0 hval0
  refine hcall.mono fun e W' ⟨he, hB⟩ => ?_
  subst he
  exact ⟨_, rfl, _, _, _, [], _, [], hW', trodAll_mk1 (shut_bool Yba.underlying4 _), trodAll_mk3 (Below.trod laidOut (by kernel_rfl) (of_decide_eq_true (by kernel_rfl)) k0 hB lt0) (shut_string Yba.underlying9 hev) (shut_int Yba.underlying5 wk), rfl, hB.frame _, fun h => by cases h⟩

theorem over : Rows.lawS3657CRawRow.holds Yba.pinned (OpenSpec.ofChange Rows.lawS3657CRawSpec) :=
  OpenClaim.holds_of_wide 4 Yba.f4 rfl rfl rfl rfl rfl rfl rfl ⟨rfl, rfl, rfl, rfl, rfl⟩ rfl rfl rfl rfl rfl (by kernel_rfl) Yba.func4 (by kernel_rfl)
    (of_decide_eq_true (by kernel_rfl)) (by unfold Func.isWrapper; first | (rw [if_pos (by decide +kernel)]; kernel_rfl) | (rw [if_neg (by decide +kernel)]; exact ⟨rfl, rfl⟩))
    (fun os started H enc _ => lifted os started H enc)
end Go.Proofs.Ybulkbwse.RawSaid

namespace Go.Proofs.Ybulkbwse
theorem raw_said : Rows.LawS3657CRawSaid := RawSaid.over
end Go.Proofs.Ybulkbwse
