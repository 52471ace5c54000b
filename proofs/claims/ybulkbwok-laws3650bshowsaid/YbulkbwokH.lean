/- DERIVED. ShowReset, Reset, NewWatch. -/
import Derived.Test.YbulkbwokG
import Derived.Lib.SliceRun
namespace Go.Proofs.Ybulkbwok
open Go.RowKit Go.MuLone
attribute [local go_sem ↓] Go.wp_at_zero Go.wp_at_succ
variable {N B W wt : Nat} {M : Nat → Nat} {Bl Ch : Nat → Nat → Nat} {lk atv fl : Int} {G : Nat → Int} {sp : Value} {F : Nat → Nat → Option Int} {wk : Nat → Nat → Bool} {w w' : World} {inst : ByteArray}

def minI : Int := -9223372036854775808

theorem WN.setLk (h : WN N W wt M lk inst atv fl G w) (v : Int) : WN N W wt M v inst atv fl G (w.setCell ⟨W, 6, none⟩ (.int .i32 v)) :=
  h.set 6 _ fun k _ => by
    by_cases e : k = 6
    · subst e; rfl
    · rw [if_neg e]; simp only [newF, if_neg e]
theorem WN.setInst (h : WN N W wt M lk inst atv fl G w) (v : ByteArray) : WN N W wt M lk v atv fl G (w.setCell ⟨W, 8, none⟩ (.string v)) :=
  h.set 8 _ fun k _ => by
    by_cases e : k = 8
    · subst e; rfl
    · rw [if_neg e]; simp only [newF, if_neg e]
theorem WN.setAt (h : WN N W wt M lk inst atv fl G w) (v : Int) : WN N W wt M lk inst v fl G (w.setCell ⟨W, 9, none⟩ (.int .i64 v)) :=
  h.set 9 _ fun k _ => by
    by_cases e : k = 9
    · subst e; rfl
    · rw [if_neg e]; simp only [newF, if_neg e]
theorem WN.setFl (h : WN N W wt M lk inst atv fl G w) (v : Int) : WN N W wt M lk inst atv v G (w.setCell ⟨W, 10, none⟩ (.int .i64 v)) :=
  h.set 10 _ fun k _ => by
    by_cases e : k = 10
    · subst e; rfl
    · rw [if_neg e]; simp only [newF, if_neg e]
theorem WN.setOld (h : WN N W wt M lk inst atv fl G w) (i : Nat) (hi : i < 24) : WN N W wt M lk inst atv fl G (w.setCell ⟨W, i, none⟩ (newF lk inst atv fl (fun c => .map (some (M c))) G wt i)) :=
  h.set i _ fun k _ => by
    by_cases e : k = i
    · subst e; simp
    · rw [if_neg e]
theorem WN.setG (h : WN N W wt M lk inst atv fl G w) {c : Nat} (hc : c < 5) (v : Int) : WN N W wt M lk inst atv fl (fun c' => if c' = c then v else G c') (w.setCell ⟨W, 16 + c, none⟩ (.int .i64 v)) :=
  h.set (16 + c) _ fun k hk => by
    by_cases e : k = 16 + c
    · subst e
      rw [if_pos rfl]
      have : c = 0 ∨ c = 1 ∨ c = 2 ∨ c = 3 ∨ c = 4 := by omega
      rcases this with rfl | rfl | rfl | rfl | rfl <;> rfl
    · rw [if_neg e]
      have g16 : ∀ i, ¬ 16 + i = 16 + c → Value.int .i64 (G i) = Value.int .i64 (if i = c then v else G i) := fun i hi => by rw [if_neg (by omega)]
      rcases upto24 hk with rfl | rfl | rfl | rfl | rfl | rfl | rfl | rfl | rfl | rfl | rfl | rfl | rfl | rfl | rfl | rfl | rfl | rfl | rfl | rfl | rfl | rfl | rfl | rfl
      all_goals first | rfl | exact g16 0 e | exact g16 1 e | exact g16 2 e | exact g16 3 e | exact g16 4 e
theorem WN.c11 (h : WN N W wt M lk inst atv fl G w) {c : Nat} (hc : c < 5) : w.cell? ⟨W, 11 + c, none⟩ = some (.map (some (M c))) := by
  rw [h.row.cell (by omega)]
  have : c = 0 ∨ c = 1 ∨ c = 2 ∨ c = 3 ∨ c = 4 := by omega
  rcases this with rfl | rfl | rfl | rfl | rfl <;> rfl
theorem WN.c16 (h : WN N W wt M lk inst atv fl G w) {c : Nat} (hc : c < 5) : w.cell? ⟨W, 16 + c, none⟩ = some (.int .i64 (G c)) := by
  rw [h.row.cell (by omega)]
  have : c = 0 ∨ c = 1 ∨ c = 2 ∨ c = 3 ∨ c = 4 := by omega
  rcases this with rfl | rfl | rfl | rfl | rfl <;> rfl

set_option maxRecDepth 100000 in
set_option maxHeartbeats 1600000 in
theorem showReset_any (at0 : Int) (I : WN N W wt M 0 ⟨#[]⟩ 0 0 (fun _ => 0) w) (hN : N ≤ w.heap.size) :
    Calls Yba.prog 12 #[.pointer (some ⟨W, 0, none⟩), .string ⟨#[105]⟩, .int .i64 at0, .func (.func 13) #[] #[]] w fun e w' => e = .returned (.tuple #[]) ∧ WN N W wt M 0 ⟨#[105]⟩ at0 at0 (fun _ => minI) w' ∧ Below N w w' ∧ w'.heap.size = w.heap.size + 1 := by
  have h6 : w.cell? ⟨W, 6, none⟩ = some (.int .i32 0) := I.row.cell (by omega)
  have f6 : w.frozen? ⟨W, 6, none⟩ = false := I.row.frozen 6
  have I1 := I.setLk 1
  have B1 : Below N w (w.setCell ⟨W, 6, none⟩ (.int .i32 1)) := (Below.refl N w).setCell (p := ⟨W, 6, none⟩) I.inW _
  generalize hw1 : w.setCell ⟨W, 6, none⟩ (.int .i32 1) = w1 at *
  have p8 : w1.cell? ⟨W, 8, none⟩ = some (.string ⟨#[]⟩) := I1.row.cell (by omega)
  have p9 : w1.cell? ⟨W, 9, none⟩ = some (.int .i64 0) := I1.row.cell (by omega)
  have p10 : w1.cell? ⟨W, 10, none⟩ = some (.int .i64 0) := I1.row.cell (by omega)
  have f8 : w1.frozen? ⟨W, 8, none⟩ = false := I1.row.frozen 8
  have f9 : w1.frozen? ⟨W, 9, none⟩ = false := I1.row.frozen 9
  have f10 : w1.frozen? ⟨W, 10, none⟩ = false := I1.row.frozen 10
  have I2 := ((I1.setInst ⟨#[105]⟩).setAt at0).setFl at0
  have B2 := ((B1.setCell (p := ⟨W, 8, none⟩) I.inW (.string ⟨#[105]⟩)).setCell (p := ⟨W, 9, none⟩) I.inW (.int .i64 at0)).setCell (p := ⟨W, 10, none⟩) I.inW (.int .i64 at0)
  generalize hw2 : ((w1.setCell ⟨W, 8, none⟩ (.string ⟨#[105]⟩)).setCell ⟨W, 9, none⟩ (.int .i64 at0)).setCell ⟨W, 10, none⟩ (.int .i64 at0) = w2 at *
  have s2 : w2.heap.size = w.heap.size := by rw [← hw2, ← hw1]; simp [World.setCell]
  have HI := hid (And.intro I2 (And.intro B2 s2))
  clear I I1 I2 B1 B2 s2
  go_enter_defers Yba.func12, Yba.ntmps12
  go_wp2_with (go_at_call 9; refine (lock_free Yba.muLib ⟨W, 6, none⟩ _ h6 f6).mono ?_; rintro e w' ⟨rfl, rfl⟩)
  refine (reset1_any w1).mono ?_
  rintro e w' ⟨rfl, rfl⟩
  go_wp2
  clear hw1 hw2 p8 p9 p10 f8 f9 f10 h6 f6
  go_loopw [34] (fun i wr => ∃ k : Nat, k ≤ 5 ∧ i = .int .i64 k ∧ WN N W wt M 1 ⟨#[105]⟩ at0 at0 (fun c => if c < k then minI else 0) wr ∧ Below N w wr ∧ wr.heap.size = w.heap.size) (fun i _ => 5 - (intOf i).toNat)
  case atStart => exact ⟨0, Nat.zero_le _, rfl, HI.out.1, HI.out.2.1, HI.out.2.2⟩
  case round =>
    obtain ⟨k, hk, rfl, I, hb, hs⟩ := hrel
    by_cases hlt : k < 5
    · have k5 : (k : Int) < 5 := by omega
      have k0 : (0 : Int) ≤ k := by omega
      have m3 := I.c11 hlt
      have g3 := I.c16 hlt
      have gf := I.row.frozen (16 + k)
      have hcl : (Builtin.clear_ #[43] 0 #[.map (some (M k))]).run Yba.prog wr = .ok (.tuple #[]) wr := by rw [clear_map (I.maps k hlt), setB_same (I.maps k hlt)]
      have H := hid (And.intro I (And.intro hb hs))
      clear I hb hs
      go_wp2
      go_roundw
      case rel =>
        obtain ⟨I, hb, hs⟩ := H.out
        refine ⟨k + 1, by omega, by go_num, ⟨(I.setG hlt minI).row.congr fun i hi => ?_, (I.setG hlt minI).maps, (I.setG hlt minI).wait, I.inW, I.inWt, I.inM, I.mInj, I.mW⟩, hb.setCell (p := ⟨W, 16 + k, none⟩) I.inW _, by simpa [World.setCell] using hs⟩
        have e : (fun c' => if c' = k then minI else if c' < k then minI else 0) = (fun c => if c < k + 1 then minI else 0) := by
          funext c'
          by_cases e : c' = k
          · subst e; simp
          · have : (c' < k + 1) = (c' < k) := by simp; omega
            simp [e, this]
        rw [e]
      case measure => simp [intOf]; omega
    · have k5 : ¬ (k : Int) < 5 := by omega
      have hk5 : k = 5 := by omega
      subst hk5
      have p0 : wr.cell? ⟨W, 0, none⟩ = some (.slice none 0 0) := I.row.cell (by omega)
      have f0 : wr.frozen? ⟨W, 0, none⟩ = false := I.row.frozen 0
      have hc0 : ∀ w : World, (Builtin.clear_ #[34] 0 #[.slice none 0 0]).run Yba.prog w = .ok (.tuple #[]) w := fun w => by simp [Builtin.clear_, run_underlying Yba.underlying34]
      have I3 := I.setOld 0 (by omega)
      have hb3 := hb.setCell (p := ⟨W, 0, none⟩) I.inW (.slice none 0 0)
      have e3 : newF 1 ⟨#[105]⟩ at0 at0 (fun c => .map (some (M c))) (fun c => if c < 5 then minI else 0) wt 0 = .slice none 0 0 := rfl
      rw [e3] at I3
      generalize hw3 : wr.setCell ⟨W, 0, none⟩ (.slice none 0 0) = w3 at *
      have hcl := Go.Lib.run_clear_slice (P := Yba.prog) w3 72 4 0 (.bool false) Yba.underlying72 (fun w => by kernel_rfl) rfl rfl W 1 5 5 (by omega) (fun j hj => by rw [I3.row.cell (by omega)]; rfl) (fun j _ => I3.row.frozen _)
      simp only [List.replicate, World.setCells] at hcl
      have I4 := (((((I3.setOld 1 (by omega)).setOld 2 (by omega)).setOld 3 (by omega)).setOld 4 (by omega)).setOld 5 (by omega))
      have hb4 := ((((hb3.setCell (p := ⟨W, 1, none⟩) I.inW (.bool false)).setCell (p := ⟨W, 2, none⟩) I.inW (.bool false)).setCell (p := ⟨W, 3, none⟩) I.inW (.bool false)).setCell (p := ⟨W, 4, none⟩) I.inW (.bool false)).setCell (p := ⟨W, 5, none⟩) I.inW (.bool false)
      simp only [newF, Nat.one_ne_zero, if_false, if_true, (by decide : (1 : Nat) < 6), (by decide : (2 : Nat) < 6), (by decide : (3 : Nat) < 6), (by decide : (4 : Nat) < 6), (by decide : (5 : Nat) < 6), (by decide : ¬ (2 : Nat) = 0), (by decide : ¬ (3 : Nat) = 0), (by decide : ¬ (4 : Nat) = 0), (by decide : ¬ (5 : Nat) = 0)] at I4
      generalize hw4 : ((((w3.setCell ⟨W, 1, none⟩ (.bool false)).setCell ⟨W, 2, none⟩ (.bool false)).setCell ⟨W, 3, none⟩ (.bool false)).setCell ⟨W, 4, none⟩ (.bool false)).setCell ⟨W, 5, none⟩ (.bool false) = w4 at *
      have p21 : w4.cell? ⟨W, 21, none⟩ = some (.map (some wt)) := I4.row.cell (by omega)
      have hra : (Instr.range 46 (.map (some wt))).run Yba.prog w4 = .ok (.pointer (some ⟨w4.heap.size, 0, none⟩)) (w4.alloc (.mapIter (some wt) 0 #[] 0)) := by
        simp [Instr.range, run_underlying Yba.underlying46, run_getObj_map I4.wait]
      have hne : ∀ ty, (Instr.next (.pointer (some ⟨w4.heap.size, 0, none⟩)) false ty).run Yba.prog (w4.alloc (.mapIter (some wt) 0 #[] 0)) = .ok (.tuple #[.bool false]) (w4.alloc (.mapIter (some wt) 0 #[] 0)) := fun ty =>
        next_empty (m := wt) (c := 0) (Go.Deep.blk_alloc_new _ _) ((hp_alloc_lt (lt_of_some I4.wait)).trans I4.wait)
      have I5 : WN N W wt M 1 ⟨#[105]⟩ at0 at0 (fun c => if c < 5 then minI else 0) (w4.alloc (.mapIter (some wt) 0 #[] 0)) :=
        ⟨I4.row.alloc _, fun c hc => (hp_alloc_lt (lt_of_some (I4.maps c hc))).trans (I4.maps c hc), (hp_alloc_lt (lt_of_some I4.wait)).trans I4.wait, I4.inW, I4.inWt, I4.inM, I4.mInj, I4.mW⟩
      have hb5 := hb4.alloc (Nat.le_trans hN hb4.size) (.mapIter (some wt) 0 #[] 0)
      generalize hw5 : w4.alloc (.mapIter (some wt) 0 #[] 0) = w5 at *
      have s5 : w5.heap.size = w.heap.size + 1 := by rw [← hw5, ← hw4, ← hw3]; simp [World.setCell, hs]
      have H := hid (And.intro I5 (And.intro hb5 s5))
      clear I I3 I4 I5 hb hb3 hb4 hb5 hw4 e3 s5 hs
      go_wp2
      go_loop [70] (fun _ => True) (fun _ => 0)
      case atStart => trivial
      case round =>
        go_wp2
        refine leaves_cons (f := 10) (args := #[.pointer (some ⟨W, 6, none⟩)]) (by simp) (by simp [go_sem]) ?_
        obtain ⟨I, hb, hs⟩ := H.out
        refine (unlock_deferred Yba.muLib ⟨W, 6, none⟩ .returning _ (I.row.cell (i := 6) (by omega)) (I.row.frozen 6)).mono ?_
        rintro e u' w'' ⟨rfl, rfl, rfl⟩
        refine ⟨_, results_none rfl _ _ _, rfl, ⟨(I.setLk 0).row.congr fun i hi => ?_, (I.setLk 0).maps, (I.setLk 0).wait, I.inW, I.inWt, I.inM, I.mInj, I.mW⟩, hb.setCell (p := ⟨W, 6, none⟩) I.inW _, by simpa [World.setCell] using hs⟩
        rcases upto24 hi with rfl | rfl | rfl | rfl | rfl | rfl | rfl | rfl | rfl | rfl | rfl | rfl | rfl | rfl | rfl | rfl | rfl | rfl | rfl | rfl | rfl | rfl | rfl | rfl <;> rfl

theorem reset_any (at0 : Int) (I : WN N W wt M 0 ⟨#[]⟩ 0 0 (fun _ => 0) w) (hN : N ≤ w.heap.size) :
    Calls Yba.prog 8 #[.pointer (some ⟨W, 0, none⟩), .string ⟨#[105]⟩, .int .i64 at0] w fun e w' => e = .returned (.tuple #[]) ∧ WN N W wt M 0 ⟨#[105]⟩ at0 at0 (fun _ => minI) w' ∧ Below N w w' ∧ w'.heap.size = w.heap.size + 1 := by
  have H := hid (showReset_any at0 I hN)
  clear I
  go_enter Yba.func8, Yba.ntmps8
  go_wp2_with fail
  refine Calls.mono H.out ?_
  rintro e w' ⟨rfl, hI, hb, hs⟩
  have H2 := hid (And.intro hI (And.intro hb hs))
  clear hI hb H hs
  go_wp2
  exact bodyPost_end (results_none rfl _ _ _) rfl ⟨rfl, H2.out⟩

theorem newF_put (k : Nat) (hk : k < 5) (N wt i : Nat) (hi : i < 24) : (if i = 11 + k then Value.map (some (N + 2 + k)) else newF 0 ⟨#[]⟩ 0 0 (fun c => if c < k then .map (some (N + 2 + c)) else .map none) (fun _ => 0) wt i) = newF 0 ⟨#[]⟩ 0 0 (fun c => if c < k + 1 then .map (some (N + 2 + c)) else .map none) (fun _ => 0) wt i := by
  have : k = 0 ∨ k = 1 ∨ k = 2 ∨ k = 3 ∨ k = 4 := by omega
  rcases this with rfl | rfl | rfl | rfl | rfl <;> rcases upto24 hi with rfl | rfl | rfl | rfl | rfl | rfl | rfl | rfl | rfl | rfl | rfl | rfl | rfl | rfl | rfl | rfl | rfl | rfl | rfl | rfl | rfl | rfl | rfl | rfl <;> rfl

theorem makeMap_any (t : TypeId) (w : World) : (Instr.makeMap t none).run Yba.prog w = .ok (.map (some w.heap.size)) (w.alloc (.map #[] 0)) := by
  simp [Instr.makeMap]

def zeroW (wt : Nat) : Array Value := #[.slice none 0 0, .bool false, .bool false, .bool false, .bool false, .bool false, .int .i32 0, .int .u32 0, .string ⟨#[]⟩, .int .i64 0, .int .i64 0, .map none, .map none, .map none, .map none, .map none, .int .i64 0, .int .i64 0, .int .i64 0, .int .i64 0, .int .i64 0, .map (some wt), .int .i64 0, .slice none 0 0]

set_option maxRecDepth 100000 in
set_option maxHeartbeats 800000 in
theorem newWatch_any (at0 : Int) (w : World) :
    Calls Yba.prog 4 #[.string ⟨#[105]⟩, .int .i64 at0] w fun e w' => e = .returned (.pointer (some ⟨w.heap.size + 1, 0, none⟩)) ∧ WN w.heap.size (w.heap.size + 1) w.heap.size (fun c => w.heap.size + 2 + c) 0 ⟨#[105]⟩ at0 at0 (fun _ => minI) w' ∧ Below w.heap.size w w' ∧ w'.heap.size = w.heap.size + 8 := by
  have hmk := makeMap_any 46 w
  have hmk2 := makeMap_any 43
  have b1 : (w.alloc (.map #[] 0)).heap[w.heap.size]? = some (.map #[] 0) := Go.Deep.blk_alloc_new _ _
  have B1 : Below w.heap.size w (w.alloc (.map #[] 0)) := (Below.refl _ _).alloc (Nat.le_refl _) _
  have s1 : (w.alloc (.map #[] 0)).heap.size = w.heap.size + 1 := by simp
  generalize hw1 : w.alloc (.map #[] 0) = w1 at *
  generalize hNN : w.heap.size = N at *
  have r2 : (w1.alloc (.cells (zeroW N) 49)).rowIs (N + 1) 49 24 (newF 0 ⟨#[]⟩ 0 0 (fun c => if c < 0 then .map (some (N + 2 + c)) else .map none) (fun _ => 0) N) := by
    rw [← s1]
    refine (World.rowIs_alloc w1 (zeroW N) 49 (newF 0 ⟨#[]⟩ 0 0 (fun c => if c < 0 then .map (some (N + 2 + c)) else .map none) (fun _ => 0) N) fun i hi => ?_)
    rcases upto24 (k := i) (by exact hi) with rfl | rfl | rfl | rfl | rfl | rfl | rfl | rfl | rfl | rfl | rfl | rfl | rfl | rfl | rfl | rfl | rfl | rfl | rfl | rfl | rfl | rfl | rfl | rfl <;> rfl
  have b2 : (w1.alloc (.cells (zeroW N) 49)).heap[N]? = some (.map #[] 0) := (hp_alloc_lt (by omega)).trans b1
  have B2 : Below N w (w1.alloc (.cells (zeroW N) 49)) := B1.alloc (by omega) _
  have s2 : (w1.alloc (.cells (zeroW N) 49)).heap.size = N + 2 := by simp [s1]
  generalize hw2 : w1.alloc (.cells (zeroW N) 49) = w2 at *
  unfold zeroW at hw2
  have H := hid (And.intro r2 (And.intro b2 (And.intro B2 s2)))
  clear r2 b2 B2 s2 b1 B1
  go_enter Yba.func4, Yba.ntmps4
  go_wp2
  clear hw1 hw2 hmk
  go_loopw [10] (fun i wr => ∃ k : Nat, k ≤ 5 ∧ i = .int .i64 k ∧ wr.heap.size = N + 2 + k ∧ wr.rowIs (N + 1) 49 24 (newF 0 ⟨#[]⟩ 0 0 (fun c => if c < k then .map (some (N + 2 + c)) else .map none) (fun _ => 0) N) ∧ (∀ c, c < k → wr.heap[N + 2 + c]? = some (.map #[] 0)) ∧ wr.heap[N]? = some (.map #[] 0) ∧ Below N w wr) (fun i _ => 5 - (intOf i).toNat)
  case atStart => exact ⟨0, Nat.zero_le _, rfl, H.out.2.2.2, H.out.1, fun c hc => by omega, H.out.2.1, H.out.2.2.1⟩
  case round =>
    obtain ⟨k, hk, rfl, hs, hr, hm, hN, hb⟩ := hrel
    by_cases hlt : k < 5
    · have k5 : (k : Int) < 5 := by omega
      have k0 : (0 : Int) ≤ k := by omega
      have hmk := hmk2 wr
      clear hmk2
      have r3 := hr.alloc (.map #[] 0)
      have b3 : (wr.alloc (.map #[] 0)).heap[wr.heap.size]? = some (.map #[] 0) := Go.Deep.blk_alloc_new _ _
      have m3 : ∀ c, c < k → (wr.alloc (.map #[] 0)).heap[N + 2 + c]? = some (.map #[] 0) := fun c hc => (hp_alloc_lt (by omega)).trans (hm c hc)
      have n3 : (wr.alloc (.map #[] 0)).heap[N]? = some (.map #[] 0) := (hp_alloc_lt (by omega)).trans hN
      have B3 : Below N w (wr.alloc (.map #[] 0)) := hb.alloc (by omega) _
      have s3 : (wr.alloc (.map #[] 0)).heap.size = N + 2 + (k + 1) := by simp [hs]; omega
      rw [hs] at hmk b3
      generalize hw3 : wr.alloc (.map #[] 0) = w3 at *
      have c3 := r3.cell (i := 11 + k) (by omega)
      have f3 := r3.frozen (11 + k)
      have r4 := (r3.set (11 + k) (.map (some (N + 2 + k)))).congr (fun i hi => newF_put k hlt N N i hi)
      have HH := hid (And.intro r4 (And.intro b3 (And.intro m3 (And.intro n3 (And.intro B3 s3)))))
      clear hs hr hm hN hb r3 b3 m3 n3 B3 s3 r4
      go_wp2
      go_roundw
      case rel =>
        obtain ⟨r4, b3, m3, n3, B3, s3⟩ := HH.out
        have far : ∀ b, b ≠ N + 1 → (w3.setCell ⟨N + 1, 11 + k, none⟩ (.map (some (N + 2 + k)))).heap[b]? = w3.heap[b]? := fun b hb => Below.heap_setCell _ _ _ _ hb
        refine ⟨k + 1, by omega, by go_num, by simp [World.setCell, s3], r4, fun c hc => ?_, (far _ (by omega)).trans n3, B3.setCell (p := ⟨N + 1, 11 + k, none⟩) (by show N ≤ N + 1; omega) _⟩
        rw [far _ (by omega)]
        by_cases e : c = k
        · subst e; exact b3
        · exact m3 c (by omega)
      case measure => simp [intOf]; omega
    · have k5 : ¬ (k : Int) < 5 := by omega
      have hk5 : k = 5 := by omega
      subst hk5
      have I : WN N (N + 1) N (fun c => N + 2 + c) 0 ⟨#[]⟩ 0 0 (fun _ => 0) wr := by
        refine ⟨hr.congr fun i hi => ?_, fun c hc => hm c hc, hN, by omega, Nat.le_refl _, fun c _ => by omega, fun c c' _ _ e => by omega, fun c _ => by omega⟩
        rcases upto24 hi with rfl | rfl | rfl | rfl | rfl | rfl | rfl | rfl | rfl | rfl | rfl | rfl | rfl | rfl | rfl | rfl | rfl | rfl | rfl | rfl | rfl | rfl | rfl | rfl <;> rfl
      have HH := hid (And.intro (reset_any at0 I (by omega)) (And.intro hb hs))
      clear I hr hm hN hb hmk2 H hs
      go_wp2_with fail
      refine Calls.mono HH.out.1 ?_
      rintro e w' ⟨rfl, hI, hb, hs⟩
      have H2 := hid (And.intro hI (And.intro (HH.out.2.1.trans hb) (by have := HH.out.2.2; omega : w'.heap.size = N + 8)))
      clear hI hb HH hs
      go_wp2
      go_ret
      exact ⟨rfl, H2.out⟩
end Go.Proofs.Ybulkbwok
