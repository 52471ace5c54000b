/- DERIVED. The law's mirror, its steps. -/
import Derived.Test.YbulkbwokK
namespace Go.Proofs.Ybulkbwok
open Go.RowKit Go.MuLone

def f20 : Array Value := #[.bool false, .bool false, .bool false, .bool false, .bool false, .bool false, .bool false, .bool false, .bool false, .bool false, .bool false, .bool false, .bool false, .bool false, .bool false, .bool false, .bool false, .bool false, .bool false, .bool false]
def i20 : Array Value := #[.int .i64 0, .int .i64 0, .int .i64 0, .int .i64 0, .int .i64 0, .int .i64 0, .int .i64 0, .int .i64 0, .int .i64 0, .int .i64 0, .int .i64 0, .int .i64 0, .int .i64 0, .int .i64 0, .int .i64 0, .int .i64 0, .int .i64 0, .int .i64 0, .int .i64 0, .int .i64 0]
def i5 : Array Value := #[.int .i64 0, .int .i64 0, .int .i64 0, .int .i64 0, .int .i64 0]
theorem upto20 {k : Nat} (h : k < 20) : k = 0 ∨ k = 1 ∨ k = 2 ∨ k = 3 ∨ k = 4 ∨ k = 5 ∨ k = 6 ∨ k = 7 ∨ k = 8 ∨ k = 9 ∨ k = 10 ∨ k = 11 ∨ k = 12 ∨ k = 13 ∨ k = 14 ∨ k = 15 ∨ k = 16 ∨ k = 17 ∨ k = 18 ∨ k = 19 := by omega
theorem f20_at {i : Nat} (h : i < 20) : f20[i]? = some (.bool false) := by
  rcases upto20 h with rfl | rfl | rfl | rfl | rfl | rfl | rfl | rfl | rfl | rfl | rfl | rfl | rfl | rfl | rfl | rfl | rfl | rfl | rfl | rfl <;> rfl
theorem i20_at {i : Nat} (h : i < 20) : i20[i]? = some (.int .i64 0) := by
  rcases upto20 h with rfl | rfl | rfl | rfl | rfl | rfl | rfl | rfl | rfl | rfl | rfl | rfl | rfl | rfl | rfl | rfl | rfl | rfl | rfl | rfl <;> rfl
theorem i5_at {i : Nat} (h : i < 5) : i5[i]? = some (.int .i64 0) := by
  have : i = 0 ∨ i = 1 ∨ i = 2 ∨ i = 3 ∨ i = 4 := by omega
  rcases this with rfl | rfl | rfl | rfl | rfl <;> rfl

/-- The mirror as it is made, c of its bounds laid. -/
structure M7 (V c : Nat) (w : World) : Prop where
  hv : w.rowIs V 60 20 (fun _ => .bool false)
  vl : w.rowIs (V + 1) 62 20 (fun _ => .int .i64 0)
  wo : w.rowIs (V + 2) 60 20 (fun _ => .bool false)
  gn : w.rowIs (V + 3) 45 5 (fun i => if i < c then .int .i64 (-9223372036854775808) else .int .i64 0)
def alloc4 (w : World) : World := (((w.alloc (.cells f20 60)).alloc (.cells i20 62)).alloc (.cells f20 60)).alloc (.cells i5 45)
theorem M7.start (w : World) : M7 w.heap.size 0 (alloc4 w) := by
  have a1 := World.rowIs_alloc w f20 60 (fun _ => .bool false) fun i hi => f20_at hi
  have a2 := World.rowIs_alloc (w.alloc (.cells f20 60)) i20 62 (fun _ => .int .i64 0) fun i hi => i20_at hi
  have a3 := World.rowIs_alloc ((w.alloc (.cells f20 60)).alloc (.cells i20 62)) f20 60 (fun _ => .bool false) fun i hi => f20_at hi
  have a4 := World.rowIs_alloc (((w.alloc (.cells f20 60)).alloc (.cells i20 62)).alloc (.cells f20 60)) i5 45 (fun i => if i < 0 then .int .i64 (-9223372036854775808) else .int .i64 0) fun i hi => by
    rw [if_neg (by omega)]; exact i5_at hi
  have s1 : (w.alloc (.cells f20 60)).heap.size = w.heap.size + 1 := by simp
  have s2 : ((w.alloc (.cells f20 60)).alloc (.cells i20 62)).heap.size = w.heap.size + 2 := by simp
  have s3 : (((w.alloc (.cells f20 60)).alloc (.cells i20 62)).alloc (.cells f20 60)).heap.size = w.heap.size + 3 := by simp
  rw [s1] at a2
  rw [s2] at a3
  rw [s3] at a4
  exact ⟨((a1.alloc _).alloc _).alloc _, (a2.alloc _).alloc _, a3.alloc _, a4⟩
theorem below4 (w : World) : Below w.heap.size w (alloc4 w) := ((((Below.refl _ _).alloc (Nat.le_refl _) _).alloc (by simp) _).alloc (by simp; omega) _).alloc (by simp; omega) _
theorem set_same {w : World} {b i : Nat} {cs : Array Value} {t : TypeId} {v : Value} (h : w.heap[b]? = some (.cells cs t)) (hv : cs[i]? = some v) : w.setCell ⟨b, i, none⟩ v = w := by
  have hc : cs.setIfInBounds i v = cs := by
    apply Array.ext_getElem?
    intro k
    rw [Array.getElem?_setIfInBounds]
    split
    · rename_i e; subst e
      split
      · exact hv.symm
      · rename_i hh; rw [Array.getElem?_eq_none (by omega)]
    · rfl
  have hh : (w.setCell ⟨b, i, none⟩ v).heap = w.heap := by
    apply Array.ext_getElem?
    intro k
    by_cases e : k = b
    · subst e
      simp only [World.setCell, Array.getElem?_modify, if_true, h, Option.map_some, Option.isSome_none, Bool.false_eq_true, if_false, hc]
    · exact Below.heap_setCell _ _ _ _ e
  unfold World.setCell at hh ⊢
  simp only at hh ⊢
  rw [hh]
variable {V : Nat} {s : St} {w w4 : World}
theorem M7.put {c : Nat} (h : M7 V c w) : M7 V (c + 1) (w.setCell ⟨V + 3, c, none⟩ (.int .i64 (-9223372036854775808))) := by
  refine ⟨h.hv.setOther (by show V ≠ V + 3; omega) _, h.vl.setOther (by show V + 1 ≠ V + 3; omega) _, h.wo.setOther (by show V + 2 ≠ V + 3; omega) _, (h.gn.set c _).congr fun i hi => ?_⟩
  by_cases e : i = c
  · subst e; simp
  · have : (i < c + 1) = (i < c) := by simp; omega
    simp only [if_neg e, this]
theorem M7.done (h : M7 V 5 w) : MR V s00 w := by
  refine ⟨h.hv.congr fun i hi => by simp [s00], ⟨fun _ => 0, h.vl, fun i hi x hx => by simp [s00] at hx⟩, h.wo.congr fun i hi => by simp [s00], h.gn.congr fun i hi => ?_⟩
  rw [if_pos hi]; rfl

/-- The mirror and the step's copy. -/
structure MS (V S : Nat) (w4 : World) (cs : Array Value) (s : St) (w : World) : Prop where
  mr : MR V s w
  bel : Below V w4 w
  cp : w.heap[S]? = some (.cells cs 25)
  hS : V + 4 ≤ S
variable {S : Nat} {cs : Array Value}
theorem MS.alloc (h : MS V S w4 cs s w) (o : Obj) : MS V S w4 cs s (w.alloc o) :=
  ⟨h.mr.alloc o, h.bel.alloc (by have := h.mr.lt; omega) o, (hp_alloc_lt (lt_of_some h.cp)).trans h.cp, h.hS⟩
theorem MS.drew (h : MS V S w4 cs s w) : MS V S w4 cs s w.drew := ⟨h.mr.drew, h.bel.drew, h.cp, h.hS⟩
theorem MS.gone (h : MS V S w4 cs s w) (id : Int) {c j : Nat} (hj : j < 4) :
    MS V S w4 cs (s.touch id c j true) (((w.setCell ⟨V, c * 4 + j, none⟩ (.bool false)).setCell ⟨V + 3, c, none⟩ (.int .i64 id)).setCell ⟨V + 2, c * 4 + j, none⟩ (.bool true)) := by
  have hS := h.hS
  refine ⟨h.mr.gone id hj, ((h.bel.setCell (p := ⟨V, c * 4 + j, none⟩) (Nat.le_refl _) _).setCell (p := ⟨V + 3, c, none⟩) (by show V ≤ V + 3; omega) _).setCell (p := ⟨V + 2, c * 4 + j, none⟩) (by show V ≤ V + 2; omega) _, ?_, hS⟩
  rw [Below.heap_setCell _ _ _ _ (by show S ≠ V + 2; omega), Below.heap_setCell _ _ _ _ (by show S ≠ V + 3; omega), Below.heap_setCell _ _ _ _ (by show S ≠ V; omega)]
  exact h.cp
theorem MS.came (h : MS V S w4 cs s w) (id : Int) {c j : Nat} (hj : j < 4) :
    MS V S w4 cs (s.touch id c j false) (((w.setCell ⟨V, c * 4 + j, none⟩ (.bool true)).setCell ⟨V + 1, c * 4 + j, none⟩ (.int .i64 id)).setCell ⟨V + 2, c * 4 + j, none⟩ (.bool true)) := by
  have hS := h.hS
  refine ⟨h.mr.came id hj, ((h.bel.setCell (p := ⟨V, c * 4 + j, none⟩) (Nat.le_refl _) _).setCell (p := ⟨V + 1, c * 4 + j, none⟩) (by show V ≤ V + 1; omega) _).setCell (p := ⟨V + 2, c * 4 + j, none⟩) (by show V ≤ V + 2; omega) _, ?_, hS⟩
  rw [Below.heap_setCell _ _ _ _ (by show S ≠ V + 2; omega), Below.heap_setCell _ _ _ _ (by show S ≠ V + 1; omega), Below.heap_setCell _ _ _ _ (by show S ≠ V; omega)]
  exact h.cp

theorem two_fields {fs : List Field} {a b : TypeId} {oa ob : Nat} (hm : fs.map (fun f => (f.name == "_", f.type, f.offset)) = [(false, a, oa), (false, b, ob)]) :
    ∃ f g : Field, fs = [f, g] ∧ (f.name ≠ "_") ∧ (g.name ≠ "_") ∧ f.type = a ∧ g.type = b ∧ f.offset = oa ∧ g.offset = ob := by
  rcases fs with _ | ⟨f, _ | ⟨g, _ | ⟨h, fs⟩⟩⟩
  · simp at hm
  · simp at hm
  · simp at hm
    exact ⟨f, g, rfl, hm.1.1, hm.2.1, hm.1.2.1, hm.2.2.1, hm.1.2.2, hm.2.2.2⟩
  · simp at hm
theorem eq31 (x : Int) (s : ByteArray) (w : World) : (Op.equalIn 9999 31 (.agg #[.int .u8 x, .string s]) (.agg #[.int .u8 x, .string s])).run Yba.prog w = .ok true w := by
  have hf : Yba.prog.underlying 31 = some (.struct (Yba.prog.fieldsOf 31)) := by kernel_rfl
  have hs : Yba.prog.stoodInHeld 31 = false := by kernel_rfl
  rw [run_equalIn_agg _ 9998 31 _ _ hf hs]
  have p0 : (part 29 #[.int .u8 x, .string s] 0).run Yba.prog w = .ok (.int .u8 x) w := by kernel_rfl
  have p1 : (part 9 #[.int .u8 x, .string s] 1).run Yba.prog w = .ok (.string s) w := by kernel_rfl
  have e0 : (Op.equalIn 9998 29 (.int .u8 x) (.int .u8 x)).run Yba.prog w = .ok (x == x) w := run_equalIn_int w 9997 29 .u8 .u8 x x (by kernel_rfl)
  have e1 : (Op.equalIn 9998 9 (.string s) (.string s)).run Yba.prog w = .ok (s.toList == s.toList) w := run_equalIn_string w 9997 9 s s Yba.underlying9
  obtain ⟨f, g, hfg, n1, n2, t1, t2, o1, o2⟩ := two_fields (fs := (Yba.prog.fieldsOf 31).toList) (a := 29) (b := 9) (oa := 0) (ob := 1) (by kernel_rfl)
  rw [hfg]
  simp [Op.eqFields, if_pos n1, if_pos n2, t1, t2, o1, o2, Sem.run_bind, p0, p1, Result.andThen_ok, e0, e1]
/-- A touch equals itself. -/
theorem eq54 (x : Int) (s : ByteArray) (b : Bool) (w : World) : (Op.equalIn 10000 54 (.agg #[.int .u8 x, .string s, .bool b]) (.agg #[.int .u8 x, .string s, .bool b])).run Yba.prog w = .ok true w := by
  have hf : Yba.prog.underlying 54 = some (.struct (Yba.prog.fieldsOf 54)) := by kernel_rfl
  have hs : Yba.prog.stoodInHeld 54 = false := by kernel_rfl
  rw [run_equalIn_agg _ 9999 54 _ _ hf hs]
  have p0 : (part 31 #[.int .u8 x, .string s, .bool b] 0).run Yba.prog w = .ok (.agg #[.int .u8 x, .string s]) w := by kernel_rfl
  have p1 : (part 4 #[.int .u8 x, .string s, .bool b] 2).run Yba.prog w = .ok (.bool b) w := by kernel_rfl
  have e1 : (Op.equalIn 9999 4 (.bool b) (.bool b)).run Yba.prog w = .ok (b == b) w := run_equalIn_bool' w 9998 4 b b (by kernel_rfl)
  obtain ⟨f, g, hfg, n1, n2, t1, t2, o1, o2⟩ := two_fields (fs := (Yba.prog.fieldsOf 54).toList) (a := 31) (b := 4) (oa := 0) (ob := 2) (by kernel_rfl)
  rw [hfg]
  simp [Op.eqFields, if_pos n1, if_pos n2, t1, t2, o1, o2, Sem.run_bind, p0, p1, Result.andThen_ok, eq31, e1]

theorem zero47 (w : World) : (zeroValue 33).run Yba.prog w = .ok (.slice none 0 0) w := by kernel_rfl
theorem wait_look {N B W wt : Nat} {M : Nat → Nat} {Bl Ch : Nat → Nat → Nat} {lk atv fl : Int} {G : Nat → Int} {sp : Value} {F : Nat → Nat → Option Int} {wk : Nat → Nat → Bool} {w : World} (I : WI N B W wt M Bl Ch lk atv fl G sp F wk w) {c j : Nat} (hc : c < 5) (hj : j < 4) :
    ∀ q, (Instr.lookup 46 (.map (some wt)) (.agg #[.int .u8 c, .string (ids j)]) true).run Yba.prog (w.drewN q) = .ok (.tuple #[if wk c j = true then .slice none 0 0 else .slice (some ⟨Bl c j, 0, none⟩) 1 1, .bool (!wk c j)]) (w.drewN q) := fun q => by
  have h := lookup_is keyT Yba.underlying46 (zero47 _) (I.wait.drewN q) (c, j) ⟨hc, hj⟩ true
  refine Eq.trans h ?_
  cases hw : wk c j <;> simp [wT, hw]
end Go.Proofs.Ybulkbwok
