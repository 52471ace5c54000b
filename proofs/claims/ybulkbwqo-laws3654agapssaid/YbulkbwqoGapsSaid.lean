/- DERIVED. LawS3654AGapsSaid, proved. -/
import Derived.Test.YbulkbwqoGaps
import Derived.Test.YbulkbwqoOpen
namespace Go.Proofs.Ybulkbwqo.GapsSaid
open Go.ChangeShapes Go.WideShapes Go.ChangeAt Go.RowKit

set_option maxRecDepth 100000 in
theorem lifted (os : Os) (started : os.Started) (H : Type) (enc : TypeId × Value → H) :
    ReturnsInHanded {} Yba.checked os 5 .any (Rows.lawS3654AGapsSpec.pre6 enc Yba.prog Yba.f5 Rows.lawS3654AGapsRow.domain false) (Rows.lawS3654AGapsSpec.post enc Yba.prog Yba.f5 false true false false) := by
  refine returnsInHanded_of_change (C := Yba.checked) Open.own started (by kernel_rfl) Yba.func5
    (ChangeSpec.witness6 (enc := enc) (C := Yba.checked) false ⟨#[], #[.slice none 0 0, .int .u8 0, .int .u8 0, .int .u8 0, .int .u8 0, .bool false, .bool false, .slice none 0 0, .int .u16 0, .int .u8 0, .slice none 0 0, .slice none 0 0], []⟩ 8 (by kernel_rfl) (by kernel_rfl) (by kernel_rfl) (by kernel_rfl)) ?_
  intro W base args ds gs before hval0 hW hcnd _
  have hval : ∀ (j : Nat) t v, Yba.f5.params[j]? = some t → args[j]? = some v → Value.okWide Yba.prog W .any base t v := hval0
  have hW' := hW
  obtain ⟨p, q, hA0, hV, rfl, hfz, hnd⟩ := hW
  have hA : DataW.TrodAll enc Yba.prog W 0 (fun _ => true) true Yba.f5.params.toList args.toList ds p := hA0
  rw [Yba.params5] at hA hval
  have hall := hA
  obtain ⟨v0, vs, d0, ds0, p0, q0, ha, rfl, rfl, h0, hA⟩ := trodAll_cons hA
  obtain ⟨v1, vs, d1, ds1, p1, q1, rfl, rfl, rfl, h1, hA⟩ := trodAll_cons hA
  obtain ⟨v2, vs, d2, ds2, p2, q2, rfl, rfl, rfl, h2, hA⟩ := trodAll_cons hA
  obtain ⟨v3, vs, d3, ds3, p3, q3, rfl, rfl, rfl, h3, hA⟩ := trodAll_cons hA
  obtain ⟨v4, vs, d4, ds4, p4, q4, rfl, rfl, rfl, h4, hA⟩ := trodAll_cons hA
  obtain ⟨v5, vs, d5, ds5, p5, q5, rfl, rfl, rfl, h5, hA⟩ := trodAll_cons hA
  obtain ⟨v6, vs, d6, ds6, p6, q6, rfl, rfl, rfl, h6, hA⟩ := trodAll_cons hA
  obtain ⟨v7, vs, d7, ds7, p7, q7, rfl, rfl, rfl, h7, hA⟩ := trodAll_cons hA
  obtain ⟨v8, vs, d8, ds8, p8, q8, rfl, rfl, rfl, h8, hA⟩ := trodAll_cons hA
  obtain ⟨v9, vs, d9, ds9, p9, q9, rfl, rfl, rfl, h9, hA⟩ := trodAll_cons hA
  obtain ⟨v10, vs, d10, ds10, p10, q10, rfl, rfl, rfl, h10, hA⟩ := trodAll_cons hA
  obtain ⟨v11, vs, d11, ds11, p11, q11, rfl, rfl, rfl, h11, hA⟩ := trodAll_cons hA
  obtain ⟨rfl, rfl, rfl⟩ := trodAll_nil hA
  obtain rfl : args = #[v0, v1, v2, v3, v4, v5, v6, v7, v8, v9, v10, v11] := by cases args; simp_all
  obtain ⟨rfl, rfl⟩ := trodVars_none hV
  obtain ⟨Y, len0, cap0, rfl⟩ := okWide_slice Yba.underlying22 (hval 0 22 v0 rfl rfl)
  obtain ⟨z1, rfl, rfl, rfl, wf1⟩ := open_int Yba.underlying5 (hval 1 5 v1 rfl rfl) h1
  obtain ⟨z2, rfl, rfl, rfl, wf2⟩ := open_int Yba.underlying5 (hval 2 5 v2 rfl rfl) h2
  obtain ⟨z3, rfl, rfl, rfl, wf3⟩ := open_int Yba.underlying5 (hval 3 5 v3 rfl rfl) h3
  obtain ⟨z4, rfl, rfl, rfl, wf4⟩ := open_int Yba.underlying5 (hval 4 5 v4 rfl rfl) h4
  obtain ⟨b5, rfl⟩ := okWide_bool Yba.underlying4 (hval 5 4 v5 rfl rfl)
  obtain ⟨b6, rfl⟩ := okWide_bool Yba.underlying4 (hval 6 4 v6 rfl rfl)
  obtain ⟨X, len7, cap7, rfl⟩ := okWide_slice Yba.underlying23 (hval 7 23 v7 rfl rfl)
  obtain ⟨z8, rfl, rfl, rfl, wf8⟩ := open_int Yba.underlying24 (hval 8 24 v8 rfl rfl) h8
  obtain ⟨z9, rfl, rfl, rfl, wf9⟩ := open_int Yba.underlying5 (hval 9 5 v9 rfl rfl) h9
  obtain ⟨X1, len10, cap10, rfl⟩ := okWide_slice Yba.underlying22 (hval 10 22 v10 rfl rfl)
  obtain ⟨X2, len11, cap11, rfl⟩ := okWide_slice Yba.underlying22 (hval 11 22 v11 rfl rfl)
  obtain ⟨f10, hf10⟩ := h10
  obtain ⟨f11, hf11⟩ := h11
  obtain ⟨f0, hf0⟩ := h0
  obtain ⟨f7, hf7⟩ := h7
  obtain ⟨l0, rfl, hpre, hY⟩ := Open.open_pre hf0
  obtain ⟨S, hI⟩ := Open.open_items hf7
  obtain ⟨eb, rfl, heb, _⟩ := Open.open_pre hf10
  obtain ⟨sb, rfl, hsb, _⟩ := Open.open_pre hf11
  obtain ⟨op, rfl⟩ := Open.u8_byte wf1
  obtain ⟨cl, rfl⟩ := Open.u8_byte wf2
  obtain ⟨lv, rfl, hlv⟩ := Open.u8_nat wf3
  obtain ⟨wd, rfl, hwd⟩ := Open.u8_nat wf4
  obtain ⟨nn, rfl, hnn⟩ := Open.u16_nat wf8
  obtain ⟨ob, rfl, hob⟩ := Open.u8_nat wf9
  have hcall := gaps_law Y l0 cap0 op cl lv wd b5 b6 X len7 cap7 S nn ob X1 eb cap10 X2 sb cap11 W hY hpre hI hlv hwd hnn hob heb hsb
  clear hA0 hval0
  refine hcall.mono fun e W' ⟨he, hB⟩ => ?_
  subst he
  exact ⟨_, rfl, _, _, _, [], _, [], hW', trodAll_mk1 (shut_bool Yba.underlying4 _), Open.all_below hB (by
    intro t ht
    simp at ht
    rcases ht with rfl | rfl | rfl | rfl | rfl | rfl | rfl | rfl | rfl | rfl | rfl | rfl <;> exact ⟨by kernel_rfl, of_decide_eq_true (by kernel_rfl)⟩) hall, rfl, hB.frame _, fun h => by cases h⟩

theorem over : Rows.lawS3654AGapsRow.holds Yba.pinned (OpenSpec.ofChange Rows.lawS3654AGapsSpec) :=
  OpenClaim.holds_of_wide 5 Yba.f5 rfl rfl rfl rfl rfl rfl rfl ⟨rfl, rfl, rfl, rfl, rfl⟩ rfl rfl rfl rfl rfl (by kernel_rfl) Yba.func5 (by kernel_rfl)
    (of_decide_eq_true (by kernel_rfl)) (by unfold Func.isWrapper; first | (rw [if_pos (by decide +kernel)]; kernel_rfl) | (rw [if_neg (by decide +kernel)]; exact ⟨rfl, rfl⟩))
    (fun os started H enc _ => lifted os started H enc)
end Go.Proofs.Ybulkbwqo.GapsSaid

namespace Go.Proofs.Ybulkbwqo
theorem gaps_said : Rows.LawS3654AGapsSaid := GapsSaid.over
end Go.Proofs.Ybulkbwqo
