/- DERIVED. The told and tied card of LawS3650CQueue, closed. -/
import Derived.Test.YbulkbwokFmtCards
import Derived.Test.YbulkbwokFmtTie
import Derived.Test.YbulkbwokFmtQueue
import Derived.ProofKit
import Derived.Lib.LaidTab
import Derived.LaidLaws
import Derived.Stop.LaidErr
import Derived.Stop.JoinedAt
import Derived.Stop.JoinedTold
import Derived.SevenToldRow
import Derived.SevenTiedAt
namespace Go.Proofs.YbulkbwokFmt.QueueCard
open Go.ChangeShapes Go.WideShapes Go.ChangeAt Go.RowKit Go.Kit
open Go.Extern.Stop Go.Stop Go.Extern

theorem ownK : ownKnob Ybaf.prog.godebug = none := by kernel_rfl
theorem laidOutP : laidOutB Ybaf.pinned.checked.prog = true := by kernel_rfl
theorem laidOutQ : laidOutB Ybaf.prog = true := by kernel_rfl
theorem stopsP : Ybaf.pinned.checked.prog.stops = ["fmt.Sprintf"] := by kernel_rfl
theorem stopKnobsP : Ybaf.pinned.checked.prog.stopKnobs = [] := by kernel_rfl
theorem quietP (os : Os) : Stop.quiet Ybaf.pinned.checked.prog os := by
  intro k hk
  rw [stopKnobsP] at hk
  cases hk

set_option maxRecDepth 100000 in
set_option maxHeartbeats 400000 in
theorem queue_long (x : Option Addr) (len cap : Nat) (w : World) (h : (300 : Int) < (len : Int)) :
    Calls Ybaf.prog 3 #[.slice x len cap] w fun e w' => e = .returned (.bool true) ∧ Below w.heap.size w w' := by
  go_enter Ybaf.func3, Ybaf.ntmps3
  go_wp2
  go_ret
  exact ⟨rfl, Below.refl _ _⟩

/-! The start that fits: the three tables laid as the row lists them. -/
def datumCells : DataW Unit → Array Value
  | .agg l => (l.map fun d => match d with | .lit (.int k n) => Value.int k n | _ => Value.bool false).toArray
  | _ => #[]
def putAt (h : Array Obj) (g : Nat) (cs : Array Value) : Array Obj := h.modify g fun
  | .cells _ t frozen => .cells cs t frozen
  | o => o
def laidW (P : Program) (os : Os) : World :=
  { World.holding P os ⟨#[], #[], []⟩ with heap := putAt (putAt (putAt (World.holding P os ⟨#[], #[], []⟩).heap 0 (datumCells Rows.laid_internal_strconv_uint64pow10)) 1 (datumCells Rows.laid_math_bits_deBruijn32tab)) 2 (datumCells Rows.laid_math_bits_deBruijn64tab) }

set_option maxRecDepth 1000000 in
theorem laid_met (os : Os) : laidMet Ybaf.prog Rows.lawS3650CQueueRow.laid ((laidW Ybaf.prog os).forCall (fun _ _ => 0) ⟨#[], #[.slice none 0 0], []⟩).memory :=
  laidMet_of_run' 8 (by kernel_rfl) (by kernel_rfl)

theorem g0 : Ybaf.prog.globalNamed tabName = some 0 := by kernel_rfl
theorem gt0 : (Ybaf.prog.globals[0]?).map (·.type) = some 77 := by kernel_rfl
theorem cells70 : Ybaf.prog.cellsOf 70 = 1 := by kernel_rfl
theorem cells77 : Ybaf.prog.cellsOf 77 = 20 := by kernel_rfl

theorem tab_of_laid {W : World} (h : laidMetH Ybaf.prog Rows.lawS3650CQueueRow.laid W) : Lib.TabIs Ybaf.prog W tabName .u64 Lib.pow10Tab := by
  have h0 : laidMet Ybaf.prog Rows.lawS3650CQueueRow.laid W := h
  have h2 := laidMet.tail (laidMet.tail h0)
  exact Lib.tabIs_of_head (zs := Lib.pow10Tab) (k := .u64) (rest := []) g0 gt0 Ybaf.underlying77 Ybaf.underlying70 cells70 cells77 h2

theorem u8_bounds {x : Int} (h : (Lit.int .u8 x).wf = true) : 0 ≤ x ∧ x ≤ 255 := by
  simp [Lit.wf, IntKind.min, IntKind.max, IntKind.signed, IntKind.bits] at h
  omega

set_option maxRecDepth 100000 in
theorem queue_lifted (os : Os) (started : os.Started) (H : Type) (enc : TypeId × Value → H) :
    ReturnsInTold none {} Ybaf.checked os 3 .any Input.okWide ((OpenSpec.ofChange Rows.lawS3650CQueueSpec).preRow enc Ybaf.prog Ybaf.f3 [] false Rows.lawS3650CQueueRow.laid) (fun F => ((OpenSpec.ofChange Rows.lawS3650CQueueSpec).at F).post enc Ybaf.prog Ybaf.f3 false true false false) (aloneAtReturn Ybaf.prog) nothingAlways := by
  refine returnsInTold_of_row (C := Ybaf.checked) (s := OpenSpec.ofChange Rows.lawS3650CQueueSpec) (by kernel_rfl) ownK started (by kernel_rfl) Ybaf.func3
    (OpenSpec.witness_stopped_at (enc := enc) (C := Ybaf.checked) false (laidW Ybaf.prog os) #[.slice none 0 0] rfl (by kernel_rfl) (by kernel_rfl) (by kernel_rfl)
      (OpenSpec.preRow_of_B rfl 8 (by kernel_rfl) (by kernel_rfl) (laid_met os))) ?_
  intro F W base args ds gs before _ hF hval0 hW _ _ _ hL _
  have hval : ∀ (j : Nat) t v, Ybaf.f3.params[j]? = some t → args[j]? = some v → Value.okWide Ybaf.prog W .any base t v := hval0
  have hW' := hW
  obtain ⟨p, q, hA0, hV, rfl, hfz, hnd⟩ := hW
  have hA : DataW.TrodAll enc Ybaf.prog W 0 (fun _ => true) true Ybaf.f3.params.toList args.toList ds p := hA0
  rw [Ybaf.params3] at hA hval
  obtain ⟨v0, d0, rfl, rfl, h0⟩ := trodAll_one hA
  obtain ⟨rfl, rfl⟩ := trodVars_none hV
  obtain ⟨a0, len0, cap0, rfl⟩ := okWide_slice Ybaf.underlying22 (hval 0 22 v0 rfl rfl)
  have k0 := h0
  have lt0 : ∀ x ∈ p, x.block < W.heap.size := by obtain ⟨m, hm⟩ := k0; exact DataW.trod_lt m _ _ _ hm
  have htab := Lib.tabBelow_of_tabIs (tab_of_laid hL)
  have hcall : Calls Ybaf.prog 3 #[.slice a0 len0 cap0] W fun e w' => e = .returned (.bool true) ∧ Below W.heap.size W w' := by
    by_cases hlong : 300 < len0
    · exact queue_long a0 len0 cap0 W (by omega)
    · obtain ⟨fuel, hf⟩ := h0
      rcases open_ints Ybaf.underlying22 Ybaf.underlying5 (by kernel_rfl) hf with ⟨hcs, _⟩ | ⟨x, l, c, zs, hcs, _, hl, hm, hz0, _, hcell, hwz⟩
      · simp [Value.cells] at hcs
        obtain ⟨rfl, rfl, rfl⟩ := hcs
        exact queue_law F.told none 0 0 (fun _ => 0) W hF (by omega) (fun j hj => by omega) (fun _ => by omega) htab
      · simp [Value.cells] at hcs
        obtain ⟨rfl, rfl, rfl⟩ := hcs
        have hz : zs.length = cap0 := by simpa using hz0
        refine queue_law F.told (some x) len0 cap0 (fun j => zs.getD j 0) W hF (by omega) (fun j hj => ?_) (fun j => ?_) htab
        · have hc := hcell j (by omega)
          have hc0 := hcell 0 (by omega)
          have hlt := World.block_lt_of_cell? _ _ hc
          obtain ⟨b, off, spot⟩ := x
          have hspot : spot = none := by simpa [Addr.add] using World.cell?_spot hc0
          subst hspot
          have hadd : (⟨b, off, none⟩ : Addr).add j = ⟨b, off + j, none⟩ := by unfold Addr.add; split <;> simp_all
          rw [hadd] at hc hlt
          exact ⟨b, off, rfl, hlt, hc⟩
        · by_cases hj : j < zs.length
          · rw [List.getD_eq_getElem?_getD, List.getElem?_eq_getElem hj]; exact u8_bounds (hwz _ (List.getElem_mem hj))
          · rw [List.getD_eq_getElem?_getD, List.getElem?_eq_none (by omega)]; simp
  clear hA0 hval0
  refine hcall.mono fun e W' ⟨he, hB⟩ => ?_
  subst he
  exact ⟨_, rfl, _, _, _, [], _, [], hW', trodAll_mk1 (shut_bool Ybaf.underlying4 true), trodAll_mk1 (Below.trod laidOutQ (by kernel_rfl) (of_decide_eq_true (by kernel_rfl)) k0 hB lt0), rfl, hB.frame _, fun h => by cases h⟩

theorem queue_card : Rows.LawS3650CQueueToldSaid :=
  Claim7.holds_of_told_tied_any_at .later 3 Ybaf.f3 "fmt.Sprintf" [] [] _ _ _ _ _ (by kernel_rfl) rfl rfl rfl laidOutP (by kernel_rfl) rfl ⟨rfl, rfl, rfl, rfl, rfl, rfl, rfl⟩ rfl rfl (by kernel_rfl) (by kernel_rfl) Ybaf.func3 (by kernel_rfl)
    (of_decide_eq_true (by kernel_rfl)) (of_decide_eq_true (by kernel_rfl)) stopsP.symm rfl stopKnobsP.symm (by kernel_rfl)
    (by kernel_rfl) (by kernel_rfl) (by kernel_rfl) (by kernel_rfl) (by kernel_rfl) (by kernel_rfl) (by kernel_rfl) (by kernel_rfl) (by kernel_rfl) rfl (by kernel_rfl) rfl rfl
    rfl rfl
    rfl (by kernel_rfl) (by kernel_rfl) (by kernel_rfl) (by decide) (by kernel_rfl) lawS3650CQueue_row_tie
    (OpenClaim.moreEntering_of (by kernel_rfl) (by kernel_rfl) (by kernel_rfl) (by kernel_rfl) (by kernel_rfl) (by kernel_rfl) (by kernel_rfl) (by kernel_rfl) (by kernel_rfl) (by kernel_rfl))
    ⟨_, WideRow.started_initial, quietP _⟩
    (fun os started _ H enc _ => queue_lifted os started H enc)

end Go.Proofs.YbulkbwokFmt.QueueCard

namespace Go.Proofs.YbulkbwokFmt
theorem queue_told : Rows.LawS3650CQueueToldSaid := QueueCard.queue_card
end Go.Proofs.YbulkbwokFmt
