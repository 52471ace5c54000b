/- DERIVED. (*Watch).commit. -/
import Derived.Test.YbulkbwokS
namespace Go.Proofs.Ybulkbwok
open Go.RowKit
attribute [local go_sem ↓] Go.wp_at_zero Go.wp_at_succ
variable {N B W wt : Nat} {M : Nat → Nat} {Bl Ch : Nat → Nat → Nat} {lk atv fl : Int} {sp : Value} {w w' : World}

/-- The touches that lie in block T. -/
def tchF (ts : Nat → Nat × Nat × Bool) (i : Nat) : Value := if i % 3 = 0 then .int .u8 (ts (i / 3)).1 else if i % 3 = 1 then .string (ids (ts (i / 3)).2.1) else .bool (ts (i / 3)).2.2
structure Tch (T n : Nat) (ts : Nat → Nat × Nat × Bool) (w : World) : Prop where
  row : w.rowIs T 54 (n * 3) (tchF ts)
  ok : ∀ i, i < n → (ts i).1 < 5 ∧ (ts i).2.1 < 4
theorem Tch.c0 {T n : Nat} {ts : Nat → Nat × Nat × Bool} (h : Tch T n ts w) {i : Nat} (hi : i < n) : w.cell? ⟨T, i * 3, none⟩ = some (.int .u8 (ts i).1) := by
  rw [h.row.cell (i := i * 3) (by omega)]
  have h1 : i * 3 % 3 = 0 := by omega
  have h2 : i * 3 / 3 = i := by omega
  simp only [tchF, h1, h2, if_true]
theorem Tch.c1 {T n : Nat} {ts : Nat → Nat × Nat × Bool} (h : Tch T n ts w) {i : Nat} (hi : i < n) : w.cell? ⟨T, i * 3 + 1, none⟩ = some (.string (ids (ts i).2.1)) := by
  rw [h.row.cell (i := i * 3 + 1) (by omega)]
  have h1 : (i * 3 + 1) % 3 = 1 := by omega
  have h2 : (i * 3 + 1) / 3 = i := by omega
  simp only [tchF, h1, h2, if_true, Nat.one_ne_zero, if_false]
theorem Tch.c2 {T n : Nat} {ts : Nat → Nat × Nat × Bool} (h : Tch T n ts w) {i : Nat} (hi : i < n) : w.cell? ⟨T, i * 3 + 2, none⟩ = some (.bool (ts i).2.2) := by
  rw [h.row.cell (i := i * 3 + 2) (by omega)]
  have h1 : (i * 3 + 2) % 3 = 2 := by omega
  have h2 : (i * 3 + 2) / 3 = i := by omega
  have h3 : ¬ (2 : Nat) = 0 := by omega
  have h4 : ¬ (2 : Nat) = 1 := by omega
  simp only [tchF, h1, h2, if_neg h3, if_neg h4]
theorem Tch.of_block {T n : Nat} {ts : Nat → Nat × Nat × Bool} (h : Tch T n ts w) (e : w'.heap[T]? = w.heap[T]?) : Tch T n ts w' := ⟨h.row.of_block e, h.ok⟩

theorem WI.drew {G : Nat → Int} {F : Nat → Nat → Option Int} {wk : Nat → Nat → Bool} (h : WI N B W wt M Bl Ch lk atv fl G sp F wk w) : WI N B W wt M Bl Ch lk atv fl G sp F wk w.drew := h.same fun _ _ _ _ => rfl
theorem Kept.drew {a : World} (h : Kept N B a w) : Kept N B a w.drew := ⟨h.os, h.tape, h.output, h.size, h.block⟩

theorem WI.c11 {G : Nat → Int} {F : Nat → Nat → Option Int} {wk : Nat → Nat → Bool} (h : WI N B W wt M Bl Ch lk atv fl G sp F wk w) {c : Nat} (hc : c < 5) : w.cell? ⟨W, 11 + c, none⟩ = some (.map (some (M c))) := by
  rw [h.cell (by omega)]
  have : c = 0 ∨ c = 1 ∨ c = 2 ∨ c = 3 ∨ c = 4 := by omega
  rcases this with rfl | rfl | rfl | rfl | rfl <;> rfl
theorem WI.c16 {G : Nat → Int} {F : Nat → Nat → Option Int} {wk : Nat → Nat → Bool} (h : WI N B W wt M Bl Ch lk atv fl G sp F wk w) {c : Nat} (hc : c < 5) : w.cell? ⟨W, 16 + c, none⟩ = some (.int .i64 (G c)) := by
  rw [h.cell (by omega)]
  have : c = 0 ∨ c = 1 ∨ c = 2 ∨ c = 3 ∨ c = 4 := by omega
  rcases this with rfl | rfl | rfl | rfl | rfl <;> rfl

theorem ix0 (a0 a1 a2 a3 a4 : Bool) (w : World) : (Instr.index 35 (.agg #[.bool a0, .bool a1, .bool a2, .bool a3, .bool a4]) (.int .i64 0)).run Yba.prog w = .ok (.bool a0) w := by kernel_rfl
theorem ix1 (a0 a1 a2 a3 a4 : Bool) (w : World) : (Instr.index 35 (.agg #[.bool a0, .bool a1, .bool a2, .bool a3, .bool a4]) (.int .i64 1)).run Yba.prog w = .ok (.bool a1) w := by kernel_rfl
theorem ix2 (a0 a1 a2 a3 a4 : Bool) (w : World) : (Instr.index 35 (.agg #[.bool a0, .bool a1, .bool a2, .bool a3, .bool a4]) (.int .i64 2)).run Yba.prog w = .ok (.bool a2) w := by kernel_rfl
theorem ix3 (a0 a1 a2 a3 a4 : Bool) (w : World) : (Instr.index 35 (.agg #[.bool a0, .bool a1, .bool a2, .bool a3, .bool a4]) (.int .i64 3)).run Yba.prog w = .ok (.bool a3) w := by kernel_rfl
theorem ix4 (a0 a1 a2 a3 a4 : Bool) (w : World) : (Instr.index 35 (.agg #[.bool a0, .bool a1, .bool a2, .bool a3, .bool a4]) (.int .i64 4)).run Yba.prog w = .ok (.bool a4) w := by kernel_rfl

/-- A class's table: a delete. -/
theorem WI.delM {G : Nat → Int} {F : Nat → Nat → Option Int} {wk : Nat → Nat → Bool} (h : WI N B W wt M Bl Ch lk atv fl G sp F wk w) {c j : Nat} (hc : c < 5) (hj : j < 4) :
    ∃ o, (∀ q, (Builtin.delete_ #[43, 9] 0 #[.map (some (M c)), .string (ids j)]).run Yba.prog (w.drewN q) = .ok (.tuple #[]) ((setB w (M c) o).drewN q)) ∧
      WI N B W wt M Bl Ch lk atv fl G sp (fun c' j' => if c' = c ∧ j' = j then none else F c' j') wk (setB w (M c) o) := by
  obtain ⟨o, h1, h2⟩ := delete_is keyS Yba.underlying43 (h.maps c hc) j hj 9 0
  refine ⟨o, fun q => h1 _ rfl, (h.setM hc (f := fun j' => if j' = j then none else F c j') (h2.congr fun j' _ => ?_)).congr (fun _ _ => rfl) (fun c' j' _ _ => ?_) (fun _ _ _ _ => rfl)⟩
  · by_cases e : j' = j <;> simp [e]
  · by_cases e : c' = c
    · subst e; simp
    · simp [e]
/-- .. a store. -/
theorem WI.putM {G : Nat → Int} {F : Nat → Nat → Option Int} {wk : Nat → Nat → Bool} (h : WI N B W wt M Bl Ch lk atv fl G sp F wk w) {c j : Nat} (hc : c < 5) (hj : j < 4) (v : Int) :
    ∃ o, (∀ q, (Instr.mapUpdate 43 (.map (some (M c))) (.string (ids j)) (.int .i64 v)).run Yba.prog (w.drewN q) = .ok () ((setB w (M c) o).drewN q)) ∧
      WI N B W wt M Bl Ch lk atv fl G sp (fun c' j' => if c' = c ∧ j' = j then some v else F c' j') wk (setB w (M c) o) := by
  obtain ⟨o, h1, h2⟩ := update_is keyS Yba.underlying43 (h.maps c hc) j hj (.int .i64 v)
  refine ⟨o, fun q => h1 _ rfl, (h.setM hc (f := fun j' => if j' = j then some v else F c j') (h2.congr fun j' _ => ?_)).congr (fun _ _ => rfl) (fun c' j' _ _ => ?_) (fun _ _ _ _ => rfl)⟩
  · by_cases e : j' = j <;> simp [e]
  · by_cases e : c' = c
    · subst e; simp
    · simp [e]

set_option maxRecDepth 100000 in
set_option maxHeartbeats 800000 in
theorem commit_any (s : St) (I : WI N B W wt M Bl Ch lk atv fl s.G sp s.F s.wk w) (hB : B ≤ w.heap.size) (id : Int) (T n : Nat) (ts : Nat → Nat × Nat × Bool) (ls : Nat → Bool) (hn : n ≤ 1024) (hT : B ≤ T) (hts : Tch T n ts w) :
    Calls Yba.prog 11 #[.pointer (some ⟨W, 0, none⟩), .agg #[.int .i64 id, .slice (some ⟨T, 0, none⟩) n n, .bool (ls 0), .bool (ls 1), .bool (ls 2), .bool (ls 3), .bool (ls 4)]] w fun e w' =>
      e = .returned (.tuple #[]) ∧ WI N B W wt M Bl Ch lk id fl (St.lists id ls (St.touches id ts s n) 5).G sp (St.lists id ls (St.touches id ts s n) 5).F (St.lists id ls (St.touches id ts s n) 5).wk w' ∧ Kept N B w w' := by
  have K1 : Kept N B w (w.alloc (.cells #[.int .i64 id, .slice (some ⟨T, 0, none⟩) n n, .bool (ls 0), .bool (ls 1), .bool (ls 2), .bool (ls 3), .bool (ls 4)] 57)) := (Kept.refl N B w).alloc _
  have I1 := I.alloc (.cells #[.int .i64 id, .slice (some ⟨T, 0, none⟩) n n, .bool (ls 0), .bool (ls 1), .bool (ls 2), .bool (ls 3), .bool (ls 4)] 57)
  have b0 : (w.alloc (.cells #[.int .i64 id, .slice (some ⟨T, 0, none⟩) n n, .bool (ls 0), .bool (ls 1), .bool (ls 2), .bool (ls 3), .bool (ls 4)] 57)).heap[w.heap.size]? = some (.cells #[.int .i64 id, .slice (some ⟨T, 0, none⟩) n n, .bool (ls 0), .bool (ls 1), .bool (ls 2), .bool (ls 3), .bool (ls 4)] 57) := Go.Deep.blk_alloc_new _ _
  generalize hW1 : w.alloc (.cells #[.int .i64 id, .slice (some ⟨T, 0, none⟩) n n, .bool (ls 0), .bool (ls 1), .bool (ls 2), .bool (ls 3), .bool (ls 4)] 57) = w1 at *
  generalize hX : w.heap.size = X at *
  have hXl : X < w1.heap.size := lt_of_some b0
  have hWX : W ≠ X := by have := I1.inW; omega
  have x0 : w1.cell? ⟨X, 0, none⟩ = some (.int .i64 id) := by simp [World.cell?, b0]
  have p9 : w1.cell? ⟨W, 9, none⟩ = some (.int .i64 atv) := I1.cell (by omega)
  have f9 : w1.frozen? ⟨W, 9, none⟩ = false := I1.row.frozen 9
  have I2 := I1.setAt id
  have K2 := K1.setCell (p := ⟨W, 9, none⟩) I1.inW.1 I1.inW.2 (.int .i64 id)
  have b2 : (w1.setCell ⟨W, 9, none⟩ (.int .i64 id)).heap[X]? = w1.heap[X]? := Below.heap_setCell _ _ _ _ (Ne.symm hWX)
  generalize hW2 : w1.setCell ⟨W, 9, none⟩ (.int .i64 id) = w2 at *
  rw [b0] at b2
  have x1 : w2.cell? ⟨X, 1, none⟩ = some (.slice (some ⟨T, 0, none⟩) n n) := by simp [World.cell?, b2]
  have hts2 := hts.of_block (K2.block T hts.row.lt (Or.inr hT))
  have HI := hid (And.intro I2 (And.intro K2 (And.intro hts2 b2)))
  clear I I1 I2 K1 K2 b0 b2 hts hts2
  go_enter Yba.func11, Yba.ntmps11
  go_wp2
  clear hW1 hW2 x0 p9 f9 x1
  go_loopw [16] (fun i wr => ∃ k : Nat, k ≤ n ∧ i = .int .i64 k ∧ WI N B W wt M Bl Ch lk id fl (St.touches id ts s k).G sp (St.touches id ts s k).F (St.touches id ts s k).wk wr ∧ Kept N B w2 wr) (fun i _ => n - (intOf i).toNat)
  case atStart => exact ⟨0, Nat.zero_le _, rfl, HI.out.1, Kept.refl _ _ _⟩
  case round =>
    obtain ⟨k, hk, rfl, I, K⟩ := hrel
    by_cases hlt : k < n
    · have k1 : (k : Int) < (n : Int) := by omega
      have k0 : (0 : Int) ≤ (k : Int) := by omega
      obtain ⟨I2, K2, hts, b2⟩ := HI.out
      have hts' := hts.of_block (K.block T hts.row.lt (Or.inr hT))
      have bX : wr.heap[X]? = w2.heap[X]? := K.block X (lt_of_some b2) (Or.inr hB)
      rw [b2] at bX
      have t0 := hts'.c0 hlt
      have t1 := hts'.c1 hlt
      have t2 := hts'.c2 hlt
      obtain ⟨hc, hj⟩ := hts.ok k hlt
      generalize hcc : (ts k).1 = c at *
      generalize hjj : (ts k).2.1 = j at *
      generalize hgg : (ts k).2.2 = g at *
      have H := hid (And.intro I (And.intro K (And.intro K2 (And.intro hts b2))))
      have I3 := I.alloc (.cells #[.int .u8 c, .string (ids j), .bool g] 54)
      have K3 : Kept N B wr (wr.alloc (.cells #[.int .u8 c, .string (ids j), .bool g] 54)) := (Kept.refl _ _ _).alloc _
      have bY : (wr.alloc (.cells #[.int .u8 c, .string (ids j), .bool g] 54)).heap[wr.heap.size]? = some (.cells #[.int .u8 c, .string (ids j), .bool g] 54) := Go.Deep.blk_alloc_new _ _
      have bX3 : (wr.alloc (.cells #[.int .u8 c, .string (ids j), .bool g] 54)).heap[X]? = wr.heap[X]? := hp_alloc_lt (lt_of_some bX)
      rw [bX] at bX3
      generalize hW3 : wr.alloc (.cells #[.int .u8 c, .string (ids j), .bool g] 54) = w3 at *
      generalize hY : wr.heap.size = Y at *
      have hYB : B ≤ Y := by have := K.size; have := K2.size; omega
      have y0 : w3.cell? ⟨Y, 0, none⟩ = some (.int .u8 c) := by simp [World.cell?, bY]
      have y1 : w3.cell? ⟨Y, 1, none⟩ = some (.string (ids j)) := by simp [World.cell?, bY]
      have y2 : w3.cell? ⟨Y, 2, none⟩ = some (.bool g) := by simp [World.cell?, bY]
      have m3 := I3.c11 hc
      have x3 : w3.cell? ⟨X, 0, none⟩ = some (.int .i64 id) := by simp [World.cell?, bX3]
      have c5 : (c : Int) < 5 := by omega
      have c0 : (0 : Int) ≤ c := by omega
      have hM := I3.inM c hc
      cases g with
      | true =>
        obtain ⟨o, hdel, I4⟩ := I3.delM hc hj
        have K4 := K3.setB hM.1 hM.2 o
        have bY4 : (setB w3 (M c) o).heap[Y]? = w3.heap[Y]? := hp_setB_ne (by omega)
        have bX4 : (setB w3 (M c) o).heap[X]? = w3.heap[X]? := hp_setB_ne (by omega)
        have hdel1 : (Builtin.delete_ #[43, 9] 0 #[.map (some (M c)), .string (ids j)]).run Yba.prog w3.drew = .ok (.tuple #[]) (setB w3 (M c) o).drew := hdel 1
        clear hdel
        generalize hW4 : setB w3 (M c) o = w4 at *
        rw [bY] at bY4
        rw [bX3] at bX4
        have z0 : w4.cell? ⟨Y, 0, none⟩ = some (.int .u8 c) := by simp [World.cell?, bY4]
        have z1 : w4.cell? ⟨Y, 1, none⟩ = some (.string (ids j)) := by simp [World.cell?, bY4]
        have x4 : w4.cell? ⟨X, 0, none⟩ = some (.int .i64 id) := by simp [World.cell?, bX4]
        have g4 := I4.c16 hc
        have gf := I4.row.frozen (16 + c)
        have HH := hid (And.intro I4 K4)
        clear I K I2 K2 hts b2 bX hts' I3 K3 bY bX3 bY4 bX4 hW4 I4 K4 hM
        go_wp2
        go_region
        go_wp2
        go_region
        go_wp2_with fail
        refine (wake_any (((HH.out.1.setG hc id).drew).drew) c j hc hj).mono ?_
        rintro e w6 ⟨rfl, I6, K6⟩
        obtain ⟨I4, K4⟩ := HH.out
        have K6' : Kept N B wr w6 := (K4.setCell (p := ⟨W, 16 + c, none⟩) I4.inW.1 I4.inW.2 _).drew.drew.trans K6
        have HE := hid (And.intro I6 K6')
        clear I6 K6 K6' I4 K4 HH
        go_wp2
        go_roundw
        case rel =>
          obtain ⟨I6, K6⟩ := HE.out
          refine ⟨k + 1, by omega, by go_num, I6.congr (fun c' _ => ?_) (fun c' j' _ _ => ?_) (fun c' j' _ _ => ?_), H.out.2.1.trans K6⟩
          · simp only [St.touches, St.touch, hcc, hjj, hgg, true_and]
          · simp only [St.touches, St.touch, hcc, hjj, hgg, if_true]
          · simp only [St.touches, St.touch, hcc, hjj, hgg]
        case measure => simp [intOf]; omega
      | false =>
        have fz : w3.frozen? ⟨Y, 2, none⟩ = false := by simp [World.frozen?, bY]
        have sm : w3.setCell ⟨Y, 2, none⟩ (.bool false) = w3 := by
          rw [← hW3, World.setCell_alloc_at _ _ _ _ _ hY.symm]
          rfl
        obtain ⟨o, hput, I4⟩ := I3.putM hc hj id
        have K4 := K3.setB hM.1 hM.2 o
        have bY4 : (setB w3 (M c) o).heap[Y]? = w3.heap[Y]? := hp_setB_ne (by omega)
        have hput1 : (Instr.mapUpdate 43 (.map (some (M c))) (.string (ids j)) (.int .i64 id)).run Yba.prog w3.drew = .ok () (setB w3 (M c) o).drew := hput 1
        clear hput
        generalize hW4 : setB w3 (M c) o = w4 at *
        rw [bY] at bY4
        have z0 : w4.cell? ⟨Y, 0, none⟩ = some (.int .u8 c) := by simp [World.cell?, bY4]
        have z1 : w4.cell? ⟨Y, 1, none⟩ = some (.string (ids j)) := by simp [World.cell?, bY4]
        have HH := hid (And.intro I4 K4)
        clear I K I2 K2 hts b2 bX hts' I3 K3 bY bX3 bY4 hW4 I4 K4 hM
        go_wp2
        go_region
        go_wp2_with fail
        refine (wake_any (HH.out.1.drew) c j hc hj).mono ?_
        rintro e w6 ⟨rfl, I6, K6⟩
        have K6' : Kept N B wr w6 := HH.out.2.drew.trans K6
        have HE := hid (And.intro I6 K6')
        clear I6 K6 K6' HH
        go_wp2
        go_roundw
        case rel =>
          obtain ⟨I6, K6⟩ := HE.out
          refine ⟨k + 1, by omega, by go_num, I6.congr (fun c' _ => ?_) (fun c' j' _ _ => ?_) (fun c' j' _ _ => ?_), H.out.2.1.trans K6⟩
          · simp only [St.touches, St.touch, hcc, hjj, hgg, Bool.false_eq_true, false_and, if_false]
          · simp only [St.touches, St.touch, hcc, hjj, hgg, Bool.false_eq_true, if_false]
          · simp only [St.touches, St.touch, hcc, hjj, hgg]
        case measure => simp [intOf]; omega
    · have k1 : ¬ (k : Int) < (n : Int) := by omega
      have hkn : k = n := by omega
      subst hkn
      obtain ⟨I2, K2, hts, b2⟩ := HI.out
      have bX : wr.heap[X]? = w2.heap[X]? := K.block X (lt_of_some b2) (Or.inr hB)
      rw [b2] at bX
      have x2 : wr.cell? ⟨X, 2, none⟩ = some (.bool (ls 0)) := by simp [World.cell?, bX]
      have x3 : wr.cell? ⟨X, 3, none⟩ = some (.bool (ls 1)) := by simp [World.cell?, bX]
      have x4 : wr.cell? ⟨X, 4, none⟩ = some (.bool (ls 2)) := by simp [World.cell?, bX]
      have x5 : wr.cell? ⟨X, 5, none⟩ = some (.bool (ls 3)) := by simp [World.cell?, bX]
      have x6 : wr.cell? ⟨X, 6, none⟩ = some (.bool (ls 4)) := by simp [World.cell?, bX]
      have H := hid (And.intro I (And.intro K (And.intro K2 bX)))
      clear I K I2 K2 hts b2 bX HI
      go_wp2
      clear x2 x3 x4 x5 x6
      rename World => w9
      go_loopw [62] (fun i wz => ∃ q : Nat, q ≤ 5 ∧ i = .int .i64 q ∧ WI N B W wt M Bl Ch lk id fl (St.lists id ls (St.touches id ts s k) q).G sp (St.lists id ls (St.touches id ts s k) q).F (St.lists id ls (St.touches id ts s k) q).wk wz ∧ Kept N B w9 wz) (fun i _ => 5 - (intOf i).toNat)
      case atStart => exact ⟨0, Nat.zero_le _, rfl, H.out.1, Kept.refl _ _ _⟩
      case round =>
        obtain ⟨q, hq, rfl, I, K⟩ := hrel
        by_cases hlt : q < 5
        · have q5 : (q : Int) < 5 := by omega
          have q0 : (0 : Int) ≤ (q : Int) := by omega
          have bX : wr.heap[X]? = w9.heap[X]? := K.block X (lt_of_some H.out.2.2.2) (Or.inr hB)
          rw [H.out.2.2.2] at bX
          have x0 : wr.cell? ⟨X, 0, none⟩ = some (.int .i64 id) := by simp [World.cell?, bX]
          have hix : ∀ w : World, (Instr.index 35 (.agg #[.bool (ls 0), .bool (ls 1), .bool (ls 2), .bool (ls 3), .bool (ls 4)]) (.int .i64 q)).run Yba.prog w = .ok (.bool (ls q)) w := fun w => by
            have : q = 0 ∨ q = 1 ∨ q = 2 ∨ q = 3 ∨ q = 4 := by omega
            rcases this with rfl | rfl | rfl | rfl | rfl
            · exact ix0 _ _ _ _ _ w
            · exact ix1 _ _ _ _ _ w
            · exact ix2 _ _ _ _ _ w
            · exact ix3 _ _ _ _ _ w
            · exact ix4 _ _ _ _ _ w
          have m3 := I.c11 hlt
          have hM := I.inM q hlt
          cases hls : ls q with
          | false =>
            rw [hls] at hix
            have HE := hid (And.intro I K)
            clear I K bX x0 m3 hM
            go_wp2
            go_roundw
            case rel => exact ⟨q + 1, by omega, by go_num, HE.out.1.congr (fun _ _ => by simp [St.lists, hls]) (fun _ _ _ _ => by simp [St.lists, hls]) (fun _ _ _ _ => by simp [St.lists, hls]), HE.out.2⟩
            case measure => simp [intOf]; omega
          | true =>
            rw [hls] at hix
            obtain ⟨o, hput, I4⟩ := I.putM hlt (j := 0) (by omega) id
            have K4 := (Kept.refl N B wr).setB hM.1 hM.2 o
            have hput1 : (Instr.mapUpdate 43 (.map (some (M q))) (.string ⟨#[]⟩) (.int .i64 id)).run Yba.prog wr.drew = .ok () (setB wr (M q) o).drew := hput 1
            clear hput
            generalize hW4 : setB wr (M q) o = w4 at *
            have HH := hid (And.intro I4 (And.intro K4 K))
            clear I K bX hM hW4 I4 K4
            go_wp2
            go_region
            go_wp2_with fail
            refine (wake_any (HH.out.1.drew) q 0 hlt (by omega)).mono ?_
            rintro e w6 ⟨rfl, I6, K6⟩
            have K6' : Kept N B w9 w6 := HH.out.2.2.trans (HH.out.2.1.drew.trans K6)
            have HE := hid (And.intro I6 K6')
            clear I6 K6 K6' HH
            go_wp2
            go_roundw
            case rel =>
              refine ⟨q + 1, by omega, by go_num, HE.out.1.congr (fun c' _ => ?_) (fun c' j' _ _ => ?_) (fun c' j' _ _ => ?_), HE.out.2⟩
              · simp only [St.lists, St.touch, hls, if_true, Bool.false_eq_true, false_and, if_false]
              · simp only [St.lists, St.touch, hls, if_true, Bool.false_eq_true, if_false]
              · simp only [St.lists, St.touch, hls, if_true]
            case measure => simp [intOf]; omega
        · have q5 : ¬ (q : Int) < 5 := by omega
          have hq5 : q = 5 := by omega
          subst hq5
          have HE := hid (And.intro I K)
          clear I K
          go_wp2
          refine bodyPost_end (results_none rfl _ _ _) rfl ?_
          exact ⟨rfl, HE.out.1, H.out.2.2.1.trans (H.out.2.1.trans HE.out.2)⟩
end Go.Proofs.Ybulkbwok
