/- DERIVED. changedAt; the new watch in memory. -/
import Derived.Test.YbulkbwokE
namespace Go.Proofs.Ybulkbwok
open Go.RowKit Go.MuLone
attribute [local go_sem ↓] Go.wp_at_zero Go.wp_at_succ
variable {N B W wt : Nat} {M : Nat → Nat} {Bl Ch : Nat → Nat → Nat} {lk atv fl : Int} {G : Nat → Int} {sp : Value} {F : Nat → Nat → Option Int} {wk : Nat → Nat → Bool} {w w' : World} {inst : ByteArray}

def chAt (fl : Int) (G : Nat → Int) (F : Nat → Nat → Option Int) (c j : Nat) : Int := (F c j).getD (if fl < G c then G c else fl)

set_option maxRecDepth 100000 in
set_option maxHeartbeats 800000 in
theorem changedAt_any (I : WI N B W wt M Bl Ch lk atv fl G sp F wk w) (c j : Nat) (hc : c < 5) (hj : j < 4) :
    Calls Yba.prog 7 #[.pointer (some ⟨W, 0, none⟩), .agg #[.int .u8 c, .string (ids j)]] w fun e w' => e = .returned (.int .i64 (chAt fl G F c j)) ∧ Below w.heap.size w w' := by
  have K1 : Below w.heap.size w (w.alloc (.cells #[.int .u8 c, .string (ids j)] 31)) := (Below.refl _ _).alloc (Nat.le_refl _) _
  have I1 := I.alloc (.cells #[.int .u8 c, .string (ids j)] 31)
  have b0 : (w.alloc (.cells #[.int .u8 c, .string (ids j)] 31)).heap[w.heap.size]? = some (.cells #[.int .u8 c, .string (ids j)] 31) := Go.Deep.blk_alloc_new _ _
  generalize hW1 : w.alloc (.cells #[.int .u8 c, .string (ids j)] 31) = w1 at *
  generalize hX : w.heap.size = X at *
  have h10 : w1.cell? ⟨W, 10, none⟩ = some (.int .i64 fl) := I1.cell (by omega)
  have c0 : w1.cell? ⟨X, 0, none⟩ = some (.int .u8 c) := by simp [World.cell?, b0]
  have c1 : w1.cell? ⟨X, 1, none⟩ = some (.string (ids j)) := by simp [World.cell?, b0]
  have m3 := I1.c11 hc
  have g3 := I1.c16 hc
  have c5 : (c : Int) < 5 := by omega
  have c00 : (0 : Int) ≤ c := by omega
  have hz : ∀ w : World, (zeroValue 2).run Yba.prog w = .ok (.int .i64 0) w := fun w => by kernel_rfl
  have hlk : ∀ q, (Instr.lookup 43 (.map (some (M c))) (.string (ids j)) true).run Yba.prog (w1.drewN q) = .ok (.tuple #[((F c j).map (Value.int .i64)).getD (.int .i64 0), .bool ((F c j).map (Value.int .i64)).isSome]) (w1.drewN q) := fun q => lookup_is keyS Yba.underlying43 (hz _) ((I1.maps c hc).drewN q) j hj true
  have HI := hid K1
  clear I I1 K1 b0 hz
  cases hF : F c j with
  | some v =>
    simp only [hF, Option.map_some, Option.getD_some, Option.isSome_some] at hlk
    have hv : chAt fl G F c j = v := by simp [chAt, hF]
    have HV := hid hv
    clear hv hF
    go_enter Yba.func7, Yba.ntmps7
    go_wp2
    go_quiet (fail)
    go_wp2
    go_ret
    exact ⟨by rw [HV.out]; rfl, HI.out.os, HI.out.tape, HI.out.output, HI.out.size, HI.out.block⟩
  | none =>
    simp only [hF, Option.map_none, Option.getD_none, Option.isSome_none] at hlk
    have hv : chAt fl G F c j = if fl < G c then G c else fl := by simp [chAt, hF]
    by_cases hlt : fl < G c
    · rw [if_pos hlt] at hv
      have HV := hid hv
      clear hv hF
      go_enter Yba.func7, Yba.ntmps7
      go_wp2
      go_quiet (fail)
      go_wp2
      go_region
      go_wp2
      go_ret
      exact ⟨by rw [HV.out]; rfl, HI.out.os, HI.out.tape, HI.out.output, HI.out.size, HI.out.block⟩
    · rw [if_neg hlt] at hv
      have HV := hid hv
      clear hv hF
      go_enter Yba.func7, Yba.ntmps7
      go_wp2
      go_quiet (fail)
      go_wp2
      go_region
      go_wp2
      go_ret
      exact ⟨by rw [HV.out]; rfl, HI.out.os, HI.out.tape, HI.out.output, HI.out.size, HI.out.block⟩

theorem next_empty {r m c : Nat} {w : World} {ty : TypeId} (h1 : w.heap[r]? = some (.mapIter (some m) c #[] c)) (h2 : w.heap[m]? = some (.map #[] c)) : (Instr.next (.pointer (some ⟨r, 0, none⟩)) false ty).run Yba.prog w = .ok (.tuple #[.bool false]) w := by
  have g1 : (Go.getObj r).run Yba.prog w = .ok (.mapIter (some m) c #[] c) w := by simp [Go.getObj, Sem.run, h1]
  have g2 := run_getObj_map (P := Yba.prog) h2
  simp [Instr.next, g1, g2]
  intro h
  exact absurd h (by decide)

/-- The watch's struct as NewWatch makes it. -/
def newF (lk : Int) (inst : ByteArray) (atv fl : Int) (mp : Nat → Value) (G : Nat → Int) (wt : Nat) (i : Nat) : Value :=
  if i = 0 then .slice none 0 0 else if i < 6 then .bool false else if i = 6 then .int .i32 lk else if i = 7 then .int .u32 0 else if i = 8 then .string inst else if i = 9 then .int .i64 atv else if i = 10 then .int .i64 fl
  else if i < 16 then mp (i - 11) else if i < 21 then .int .i64 (G (i - 16)) else if i = 21 then .map (some wt) else if i = 22 then .int .i64 0 else .slice none 0 0

/-- The watch before it has waiters. -/
structure WN (N W wt : Nat) (M : Nat → Nat) (lk : Int) (inst : ByteArray) (atv fl : Int) (G : Nat → Int) (w : World) : Prop where
  row : w.rowIs W 49 24 (newF lk inst atv fl (fun c => .map (some (M c))) G wt)
  maps : ∀ c, c < 5 → w.heap[M c]? = some (.map #[] 0)
  wait : w.heap[wt]? = some (.map #[] 0)
  inW : N ≤ W
  inWt : N ≤ wt
  inM : ∀ c, c < 5 → N ≤ M c
  mInj : ∀ c c', c < 5 → c' < 5 → M c = M c' → c = c'
  mW : ∀ c, c < 5 → M c ≠ wt

theorem reset1_any (w : World) : Calls Yba.prog 13 #[] w fun e w' => e = .returned (.tuple #[]) ∧ w' = w := by
  go_enter Yba.func13, Yba.ntmps13
  go_wp2
  exact bodyPost_end (results_none rfl _ _ _) rfl ⟨rfl, rfl⟩

theorem clear_map {r : Nat} {es : Array MapEntry} {c : Nat} {w : World} {ty : TypeId} (h : w.heap[r]? = some (.map es c)) : (Builtin.clear_ #[43] ty #[.map (some r)]).run Yba.prog w = .ok (.tuple #[]) (setB w r (.map #[] c)) := by
  simp [Builtin.clear_, run_underlying Yba.underlying43, run_getObj_map h, run_setObj_map h]
theorem setB_same {w : World} {r : Nat} {o : Obj} (h : w.heap[r]? = some o) : setB w r o = w := by
  simp only [setB]
  have : w.heap.setIfInBounds r o = w.heap := by
    apply Array.ext_getElem?
    intro i
    rw [Array.getElem?_setIfInBounds]
    split
    · rename_i e; subst e; split
      · exact h.symm
      · rename_i hh; rw [Array.getElem?_eq_none (by omega)]
    · rfl
  rw [this]

theorem WN.set (h : WN N W wt M lk inst atv fl G w) (i : Nat) (v : Value) {lk' : Int} {inst' : ByteArray} {atv' fl' : Int} {G' : Nat → Int} (e : ∀ k, k < 24 → (if k = i then v else newF lk inst atv fl (fun c => .map (some (M c))) G wt k) = newF lk' inst' atv' fl' (fun c => .map (some (M c))) G' wt k) :
    WN N W wt M lk' inst' atv' fl' G' (w.setCell ⟨W, i, none⟩ v) := by
  obtain ⟨cs, hrow⟩ := rowIs_cells h.row
  have hk : ∀ k, k ≠ W → (w.setCell ⟨W, i, none⟩ v).heap[k]? = w.heap[k]? := fun k hk => Below.heap_setCell _ _ _ _ hk
  exact ⟨(h.row.set i v).congr e, fun c hc => (hk _ (Ne.symm (ne_cm hrow (h.maps c hc)))).trans (h.maps c hc), (hk _ (Ne.symm (ne_cm hrow h.wait))).trans h.wait, h.inW, h.inWt, h.inM, h.mInj, h.mW⟩
end Go.Proofs.Ybulkbwok
