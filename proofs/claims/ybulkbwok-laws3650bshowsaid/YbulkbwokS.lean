/- DERIVED. How the watch's state turns. -/
import Derived.Test.YbulkbwokW
namespace Go.Proofs.Ybulkbwok
open Go.RowKit
attribute [local go_sem ↓] Go.wp_at_zero Go.wp_at_succ

/-- What the watch knows. -/
structure St where
  F : Nat → Nat → Option Int
  G : Nat → Int
  wk : Nat → Nat → Bool
def St.touch (id : Int) (s : St) (c j : Nat) (g : Bool) : St :=
  { F := fun c' j' => if c' = c ∧ j' = j then (if g then none else some id) else s.F c' j', G := fun c' => if g = true ∧ c' = c then id else s.G c', wk := fun c' j' => if c' = c ∧ j' = j then true else s.wk c' j' }
def St.touches (id : Int) (ts : Nat → Nat × Nat × Bool) (s : St) : Nat → St
  | 0 => s
  | n + 1 => (St.touches id ts s n).touch id (ts n).1 (ts n).2.1 (ts n).2.2
def St.lists (id : Int) (ls : Nat → Bool) (s : St) : Nat → St
  | 0 => s
  | n + 1 => if ls n then (St.lists id ls s n).touch id n 0 false else St.lists id ls s n

variable {N B W wt : Nat} {M : Nat → Nat} {Bl Ch : Nat → Nat → Nat} {lk atv fl : Int} {G : Nat → Int} {sp : Value} {F : Nat → Nat → Option Int} {wk : Nat → Nat → Bool} {w w' : World}

theorem WI.setRow (h : WI N B W wt M Bl Ch lk atv fl G sp F wk w) (i : Nat) (v : Value) {lk' atv' fl' : Int} {G' : Nat → Int} {sp' : Value} (e : ∀ k, k < 24 → (if k = i then v else watF lk atv fl M G wt sp k) = watF lk' atv' fl' M G' wt sp' k) :
    WI N B W wt M Bl Ch lk' atv' fl' G' sp' F wk (w.setCell ⟨W, i, none⟩ v) := by
  obtain ⟨cs, hrow⟩ := rowIs_cells h.row
  have hk : ∀ k, k ≠ W → (w.setCell ⟨W, i, none⟩ v).heap[k]? = w.heap[k]? := fun k hk => Below.heap_setCell _ _ _ _ hk
  have n1 : ∀ c, c < 5 → M c ≠ W := fun c hc => by
    obtain ⟨es, m, hm⟩ := (h.maps c hc).map
    exact Ne.symm (ne_cm hrow hm)
  have n2 : wt ≠ W := by
    obtain ⟨es, m, hm⟩ := h.wait.map
    exact Ne.symm (ne_cm hrow hm)
  have n3 : ∀ c j, c < 5 → j < 4 → Bl c j ≠ W := fun c j hc hj e => by
    have hm := h.rows c j hc hj
    rw [e, hrow] at hm; cases hm
  have n4 : ∀ c j, c < 5 → j < 4 → Ch c j ≠ W := fun c j hc hj e => by
    obtain ⟨_, _, _, _, _, _, hm⟩ := h.chn c j hc hj
    rw [e, hrow] at hm; cases hm
  exact ⟨(h.row.set i v).congr e, fun c hc => (h.maps c hc).of_block (hk _ (n1 c hc)), h.wait.of_block (hk _ n2), fun c j hc hj => (hk _ (n3 c j hc hj)).trans (h.rows c j hc hj), fun c j hc hj hw => (hk _ (n4 c j hc hj)).trans (h.opn c j hc hj hw),
    fun c j hc hj => by
      obtain ⟨n, b, cl, s, r, t, hh⟩ := h.chn c j hc hj
      exact ⟨n, b, cl, s, r, t, (hk _ (n4 c j hc hj)).trans hh⟩, h.inj, h.mInj, h.mW, h.inW, h.inWt, h.inM, h.inBl, h.inCh⟩

theorem upto24 {k : Nat} (h : k < 24) : k = 0 ∨ k = 1 ∨ k = 2 ∨ k = 3 ∨ k = 4 ∨ k = 5 ∨ k = 6 ∨ k = 7 ∨ k = 8 ∨ k = 9 ∨ k = 10 ∨ k = 11 ∨ k = 12 ∨ k = 13 ∨ k = 14 ∨ k = 15 ∨ k = 16 ∨ k = 17 ∨ k = 18 ∨ k = 19 ∨ k = 20 ∨ k = 21 ∨ k = 22 ∨ k = 23 := by omega

theorem WI.setAt (h : WI N B W wt M Bl Ch lk atv fl G sp F wk w) (v : Int) : WI N B W wt M Bl Ch lk v fl G sp F wk (w.setCell ⟨W, 9, none⟩ (.int .i64 v)) :=
  h.setRow 9 _ fun k _ => by
    by_cases e : k = 9
    · subst e; rfl
    · rw [if_neg e]; simp only [watF, if_neg e]
theorem WI.setLk (h : WI N B W wt M Bl Ch lk atv fl G sp F wk w) (v : Int) : WI N B W wt M Bl Ch v atv fl G sp F wk (w.setCell ⟨W, 6, none⟩ (.int .i32 v)) :=
  h.setRow 6 _ fun k _ => by
    by_cases e : k = 6
    · subst e; rfl
    · rw [if_neg e]; simp only [watF, if_neg e]
theorem WI.setSp (h : WI N B W wt M Bl Ch lk atv fl G sp F wk w) (v : Value) : WI N B W wt M Bl Ch lk atv fl G v F wk (w.setCell ⟨W, 23, none⟩ v) :=
  h.setRow 23 _ fun k hk => by
    by_cases e : k = 23
    · subst e; rfl
    · rw [if_neg e]
      rcases upto24 hk with rfl | rfl | rfl | rfl | rfl | rfl | rfl | rfl | rfl | rfl | rfl | rfl | rfl | rfl | rfl | rfl | rfl | rfl | rfl | rfl | rfl | rfl | rfl | rfl
      all_goals first | rfl | omega
theorem WI.setG (h : WI N B W wt M Bl Ch lk atv fl G sp F wk w) {c : Nat} (hc : c < 5) (v : Int) : WI N B W wt M Bl Ch lk atv fl (fun c' => if c' = c then v else G c') sp F wk (w.setCell ⟨W, 16 + c, none⟩ (.int .i64 v)) :=
  h.setRow (16 + c) _ fun k hk => by
    by_cases e : k = 16 + c
    · subst e
      rw [if_pos rfl]
      have h1 : 16 + c - 16 = c := by omega
      have h2 : ¬ 16 + c < 16 := by omega
      have h3 : 16 + c < 21 := by omega
      have h4 : ¬ 16 + c < 6 := by omega
      have h5 : ¬ 16 + c = 0 := by omega
      have h6 : ¬ 16 + c = 6 := by omega
      have h7 : ¬ 16 + c = 7 := by omega
      have h8 : ¬ 16 + c = 8 := by omega
      have h9 : ¬ 16 + c = 9 := by omega
      have h10 : ¬ 16 + c = 10 := by omega
      simp only [watF, h1, if_neg h2, if_pos h3, if_neg h4, if_neg h5, if_neg h6, if_neg h7, if_neg h8, if_neg h9, if_neg h10, if_true]
    · rw [if_neg e]
      have g16 : ∀ i, ¬ 16 + i = 16 + c → Value.int .i64 (G i) = Value.int .i64 (if i = c then v else G i) := fun i hi => by rw [if_neg (by omega)]
      rcases upto24 hk with rfl | rfl | rfl | rfl | rfl | rfl | rfl | rfl | rfl | rfl | rfl | rfl | rfl | rfl | rfl | rfl | rfl | rfl | rfl | rfl | rfl | rfl | rfl | rfl
      all_goals first | rfl | exact g16 0 e | exact g16 1 e | exact g16 2 e | exact g16 3 e | exact g16 4 e
theorem WI.setM (h : WI N B W wt M Bl Ch lk atv fl G sp F wk w) {c : Nat} (hc : c < 5) {o : Obj} {f : Nat → Option Int} (hm : MapIs kS okS (setB w (M c) o) (M c) (fun j => (f j).map (Value.int .i64))) :
    WI N B W wt M Bl Ch lk atv fl G sp (fun c' j => if c' = c then f j else F c' j) wk (setB w (M c) o) := by
  obtain ⟨cs, hrow⟩ := rowIs_cells h.row
  obtain ⟨es, m, hmap⟩ := (h.maps c hc).map
  have hk : ∀ k, k ≠ M c → (setB w (M c) o).heap[k]? = w.heap[k]? := fun k hk => hp_setB_ne hk
  have n3 : ∀ c' j, c' < 5 → j < 4 → Bl c' j ≠ M c := fun c' j hc' hj => ne_cm (h.rows c' j hc' hj) hmap
  have n4 : ∀ c' j, c' < 5 → j < 4 → Ch c' j ≠ M c := fun c' j hc' hj e => by
    obtain ⟨_, _, _, _, _, _, hm⟩ := h.chn c' j hc' hj
    rw [e, hmap] at hm; cases hm
  refine ⟨h.row.of_block (hk _ (ne_cm hrow hmap)), fun c' hc' => ?_, h.wait.of_block (hk _ (Ne.symm (h.mW c hc))), fun c j hc hj => (hk _ (n3 c j hc hj)).trans (h.rows c j hc hj), fun c j hc hj hw => (hk _ (n4 c j hc hj)).trans (h.opn c j hc hj hw),
    fun c j hc hj => by
      obtain ⟨n, b, cl, s, r, t, hh⟩ := h.chn c j hc hj
      exact ⟨n, b, cl, s, r, t, (hk _ (n4 c j hc hj)).trans hh⟩, h.inj, h.mInj, h.mW, h.inW, h.inWt, h.inM, h.inBl, h.inCh⟩
  by_cases e : c' = c
  · subst e; simpa using hm
  · have := (h.maps c' hc').of_block (hk _ (fun e2 => e (h.mInj c' c hc' hc e2)))
    simpa [e] using this
theorem WI.congr (h : WI N B W wt M Bl Ch lk atv fl G sp F wk w) {G' : Nat → Int} {F' : Nat → Nat → Option Int} {wk' : Nat → Nat → Bool} (hG : ∀ c, c < 5 → G c = G' c) (hF : ∀ c j, c < 5 → j < 4 → F c j = F' c j) (hk : ∀ c j, c < 5 → j < 4 → wk c j = wk' c j) : WI N B W wt M Bl Ch lk atv fl G' sp F' wk' w := by
  have h1 := h.congrK hk
  refine ⟨h1.row.congr fun i hi => ?_, fun c hc => (h1.maps c hc).congr fun j hj => by rw [hF c j hc hj], h1.wait, h1.rows, h1.opn, h1.chn, h1.inj, h1.mInj, h1.mW, h1.inW, h1.inWt, h1.inM, h1.inBl, h1.inCh⟩
  have g16 : ∀ i, i < 5 → Value.int .i64 (G i) = Value.int .i64 (G' i) := fun i hi => by rw [hG i hi]
  rcases upto24 hi with rfl | rfl | rfl | rfl | rfl | rfl | rfl | rfl | rfl | rfl | rfl | rfl | rfl | rfl | rfl | rfl | rfl | rfl | rfl | rfl | rfl | rfl | rfl | rfl
  all_goals first | rfl | exact g16 0 (by omega) | exact g16 1 (by omega) | exact g16 2 (by omega) | exact g16 3 (by omega) | exact g16 4 (by omega)
end Go.Proofs.Ybulkbwok
