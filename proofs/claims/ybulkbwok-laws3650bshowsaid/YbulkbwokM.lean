/- DERIVED. Maps whose keys are told by a small index, for this seat's walks. -/
import Derived.Test.YbulkbwokLocks
import Derived.WalkKit
import Derived.Below
import Derived.Laws.StructEq
import Derived.Deep.OwnRows
import Derived.Deep.DrawnRows
namespace Go.Proofs.Ybulkbwok
open Go.RowKit

theorem hid {p : Prop} (h : p) : Hid p := h

theorem keys_modify {κ : Type} (v : Value) : ∀ (l : List (κ × Value × Nat)) (n : Nat), (l.modify n fun x => (x.1, v, x.2.2)).map (·.1) = l.map (·.1)
  | [], n => by cases n <;> rfl
  | y :: l, 0 => rfl
  | y :: l, n + 1 => by simp [List.modify_succ_cons, keys_modify v l n]
theorem map_erase {α β : Type} (f : α → β) : ∀ (l : List α) (n : Nat), (l.eraseIdx n).map f = (l.map f).eraseIdx n
  | [], n => by cases n <;> rfl
  | y :: l, 0 => rfl
  | y :: l, n + 1 => by simp [List.eraseIdx_cons_succ, map_erase f l n]

section plain
variable {κ : Type} [DecidableEq κ]
def pos (k : κ) : List (κ × Value × Nat) → Option (Nat × Value)
  | [] => none
  | x :: l => if x.1 = k then some (0, x.2.1) else (pos k l).map fun a => (a.1 + 1, a.2)
def look (k : κ) (l : List (κ × Value × Nat)) : Option Value := (pos k l).map (·.2)
theorem look_nil (k : κ) : look k [] = none := rfl
theorem look_cons (k : κ) (x : κ × Value × Nat) (l) : look k (x :: l) = if x.1 = k then some x.2.1 else look k l := by
  simp only [look, pos]
  split
  · rfl
  · rw [Option.map_map]; rfl
theorem pos_none {k : κ} : ∀ {l : List (κ × Value × Nat)}, pos k l = none → ∀ x ∈ l, x.1 ≠ k
  | [], _ => by simp
  | y :: l, h => by
    intro x hx
    simp only [pos] at h
    split at h
    · cases h
    · rename_i hy
      rcases List.mem_cons.1 hx with rfl | hx
      · exact hy
      · exact pos_none (l := l) (by simpa using h) x hx
theorem look_free {k : κ} : ∀ {l : List (κ × Value × Nat)}, (∀ x ∈ l, x.1 ≠ k) → look k l = none
  | [], _ => rfl
  | y :: l, h => by
    rw [look_cons, if_neg (h y (by simp))]
    exact look_free fun x hx => h x (by simp [hx])
theorem look_modify {k : κ} (v : Value) (k' : κ) : ∀ {l : List (κ × Value × Nat)} {n : Nat} {v0 : Value}, pos k l = some (n, v0) → look k' (l.modify n fun x => (x.1, v, x.2.2)) = if k' = k then some v else look k' l
  | [], _, _, h => by cases h
  | y :: l, n, v0, h => by
    simp only [pos] at h
    split at h
    · rename_i hy
      injection h with h; injection h with h _; subst h
      simp only [List.modify_zero_cons, look_cons]
      by_cases e : k' = k
      · subst e; simp [hy]
      · simp [e, hy, Ne.symm e]
    · rename_i hy
      obtain ⟨a, ha, hb⟩ := Option.map_eq_some_iff.1 h
      injection hb with hb hb2
      subst hb
      obtain ⟨a1, a2⟩ := a
      have ih := look_modify v k' ha
      simp only [List.modify_succ_cons, look_cons, ih]
      by_cases e : k' = k
      · subst e; simp [hy]
      · simp [e]
theorem look_erase {k : κ} (k' : κ) : ∀ {l : List (κ × Value × Nat)} {n : Nat} {v0 : Value}, (l.map (·.1)).Nodup → pos k l = some (n, v0) → look k' (l.eraseIdx n) = if k' = k then none else look k' l
  | [], _, _, _, h => by cases h
  | y :: l, n, v0, hn, h => by
    simp only [List.map_cons, List.nodup_cons] at hn
    simp only [pos] at h
    split at h
    · rename_i hy
      injection h with h; injection h with h _; subst h
      simp only [List.eraseIdx_cons_zero, look_cons]
      by_cases e : k' = k
      · subst e
        rw [if_pos rfl]
        refine look_free fun x hx he => hn.1 ?_
        rw [hy, ← he]
        exact List.mem_map.2 ⟨x, hx, rfl⟩
      · have : ¬ y.1 = k' := by rw [hy]; exact Ne.symm e
        simp [e, this]
    · rename_i hy
      obtain ⟨a, ha, hb⟩ := Option.map_eq_some_iff.1 h
      injection hb with hb hb2
      subst hb
      obtain ⟨a1, a2⟩ := a
      have ih := look_erase k' hn.2 ha
      simp only [List.eraseIdx_cons_succ, look_cons, ih]
      by_cases e : k' = k
      · subst e; simp [hy]
      · simp [e]
theorem look_push {k : κ} (k' : κ) (v : Value) (c : Nat) : ∀ {l : List (κ × Value × Nat)}, pos k l = none → look k' (l ++ [(k, v, c)]) = if k' = k then some v else look k' l
  | [], _ => by
    simp only [List.nil_append, look_cons, look_nil]
    by_cases e : k' = k
    · simp [e]
    · simp [e, Ne.symm e]
  | y :: l, h => by
    have h0 := pos_none h
    have h1 : pos k l = none := by
      simp only [pos, if_neg (h0 y (by simp))] at h
      simpa using h
    rw [List.cons_append, look_cons, look_push k' v c h1, look_cons]
    by_cases e : k' = k
    · subst e; simp [h0 y (by simp)]
    · simp [e]
theorem pos_lt {k : κ} : ∀ {l : List (κ × Value × Nat)} {n : Nat} {v : Value}, pos k l = some (n, v) → ∃ x, l[n]? = some x ∧ x.1 = k
  | [], _, _, h => by cases h
  | y :: l, n, v, h => by
    simp only [pos] at h
    split at h
    · rename_i hy
      injection h with h; injection h with h _; subst h
      exact ⟨y, rfl, hy⟩
    · obtain ⟨a, ha, hb⟩ := Option.map_eq_some_iff.1 h
      injection hb with hb hb2
      subst hb
      obtain ⟨a1, a2⟩ := a
      obtain ⟨x, hx, he⟩ := pos_lt ha
      exact ⟨x, by simpa using hx, he⟩
end plain

def setB (w : World) (r : Nat) (o : Obj) : World := { w with heap := w.heap.setIfInBounds r o }
theorem hp_setB_ne {w : World} {r k : Nat} {o : Obj} (h : k ≠ r) : (setB w r o).heap[k]? = w.heap[k]? := by
  simp only [setB, Array.getElem?_setIfInBounds]; rw [if_neg (by omega)]
theorem hp_setB_at {w : World} {r : Nat} {o : Obj} (h : r < w.heap.size) : (setB w r o).heap[r]? = some o := by
  simp [setB, h]
theorem setB_size (w : World) (r : Nat) (o : Obj) : (setB w r o).heap.size = w.heap.size := by simp [setB]
theorem lt_of_some {w : World} {r : Nat} {o : Obj} (h : w.heap[r]? = some o) : r < w.heap.size := (Array.getElem?_eq_some_iff.1 h).1
theorem run_getObj_map {P : Program} {w : World} {r : Nat} {es : Array MapEntry} {c : Nat} (h : w.heap[r]? = some (.map es c)) : (Go.getObj r).run P w = .ok (.map es c) w := by
  simp [Go.getObj, Sem.run, h]
theorem run_setObj_map {P : Program} {w : World} {r : Nat} {es : Array MapEntry} {c : Nat} (h : w.heap[r]? = some (.map es c)) (o' : Obj) : (Go.setObj r o').run P w = .ok () (setB w r o') := by
  simp [Go.setObj, Sem.run, h, setB]

def ent {κ : Type} (K : κ → Value) (x : κ × Value × Nat) : MapEntry := { key := K x.1, val := x.2.1, born := x.2.2 }

/-- What is asked of a kind of keys. -/
structure KeyL (P : Program) (kt : TypeId) {κ : Type} [DecidableEq κ] (K : κ → Value) (ok : κ → Prop) : Prop where
  check : ∀ b k w, ok k → (Instr.checkKey b 10000 kt (K k)).run P w = .ok () w
  find : ∀ k (l : List (κ × Value × Nat)) w, ok k → (∀ x ∈ l, ok x.1) → (Instr.findKey kt (K k) (l.map (ent K))).run P w = .ok (pos k l) w
  same : ∀ k, Instr.sameBits 10000 (K k) (K k) = true

section maps
variable {κ : Type} [DecidableEq κ]
/-- Block b is a map that holds f. -/
def MapIs (K : κ → Value) (ok : κ → Prop) (w : World) (b : Nat) (f : κ → Option Value) : Prop :=
  ∃ (l : List (κ × Value × Nat)) (clock : Nat), w.heap[b]? = some (.map (l.map (ent K)).toArray clock) ∧ (l.map (·.1)).Nodup ∧ (∀ x ∈ l, ok x.1) ∧ ∀ k, ok k → look k l = f k

variable {K : κ → Value} {ok : κ → Prop} {P : Program} {kt et mt : TypeId}

theorem MapIs.of_block {w w' : World} {b : Nat} {f : κ → Option Value} (h : MapIs K ok w b f) (e : w'.heap[b]? = w.heap[b]?) : MapIs K ok w' b f := by
  obtain ⟨l, c, hb, r⟩ := h
  exact ⟨l, c, by rw [e]; exact hb, r⟩
theorem MapIs.lt {w : World} {b : Nat} {f : κ → Option Value} (h : MapIs K ok w b f) : b < w.heap.size := by
  obtain ⟨l, c, hb, r⟩ := h
  exact lt_of_some hb
theorem MapIs.congr {w : World} {b : Nat} {f g : κ → Option Value} (h : MapIs K ok w b f) (e : ∀ k, ok k → f k = g k) : MapIs K ok w b g := by
  obtain ⟨l, c, hb, h1, h2, h3⟩ := h
  exact ⟨l, c, hb, h1, h2, fun k hk => by rw [h3 k hk, e k hk]⟩

theorem lookup_is (KL : KeyL P kt K ok) (ht : P.underlying mt = some (.map kt et)) {z : Value} {w : World} (hz : (zeroValue et).run P w = .ok z w) {b : Nat} {f : κ → Option Value} (h : MapIs K ok w b f) (k : κ) (hk : ok k) (co : Bool) :
    (Instr.lookup mt (.map (some b)) (K k) co).run P w = .ok (if co then .tuple #[(f k).getD z, .bool (f k).isSome] else (f k).getD z) w := by
  obtain ⟨l, c, hb, hn, ho, hf⟩ := h
  have hfind := KL.find k l w hk ho
  have hkk := hf k hk
  simp only [look] at hkk
  rw [← hkk]
  cases hp : pos k l with
  | none =>
    rw [hp] at hfind
    simp [Instr.lookup, run_underlying ht, run_getObj_map hb, KL.check _ k w hk, hfind, hz, Result.andThen]
  | some a =>
    obtain ⟨a1, a2⟩ := a
    rw [hp] at hfind
    simp [Instr.lookup, run_underlying ht, run_getObj_map hb, KL.check _ k w hk, hfind, Result.andThen]

theorem update_is (KL : KeyL P kt K ok) (ht : P.underlying mt = some (.map kt et)) {w : World} {b : Nat} {f : κ → Option Value} (h : MapIs K ok w b f) (k : κ) (hk : ok k) (v : Value) :
    ∃ o, (∀ w', w'.heap = w.heap → (Instr.mapUpdate mt (.map (some b)) (K k) v).run P w' = .ok () (setB w' b o)) ∧ MapIs K ok (setB w b o) b (fun k' => if k' = k then some v else f k') := by
  obtain ⟨l, c, hb, hn, ho, hf⟩ := h
  have hfind := fun w' => KL.find k l w' hk ho
  have hlt := lt_of_some hb
  cases hp : pos k l with
  | none =>
    simp only [hp] at hfind
    refine ⟨.map ((l ++ [(k, v, c)]).map (ent K)).toArray (c + 1), ?_, l ++ [(k, v, c)], c + 1, hp_setB_at hlt, ?_, ?_, ?_⟩
    · intro w' hw'
      rw [← hw'] at hb
      simp [Instr.mapUpdate, run_underlying ht, run_getObj_map hb, KL.check _ k w' hk, hfind w', Result.andThen, run_setObj_map hb, ent]
    · rw [List.map_append, List.map_cons, List.map_nil]
      refine List.nodup_append.2 ⟨hn, by simp, ?_⟩
      intro a ha b' hb' e
      simp at hb'
      subst e hb'
      obtain ⟨x, hx, rfl⟩ := List.mem_map.1 ha
      exact pos_none hp x hx rfl
    · intro x hx
      rcases List.mem_append.1 hx with hx | hx
      · exact ho x hx
      · simp at hx; subst hx; exact hk
    · intro k' hk'
      rw [look_push k' v c hp, hf k' hk']
  | some a =>
    obtain ⟨n, v0⟩ := a
    simp only [hp] at hfind
    obtain ⟨x, hx, hxk⟩ := pos_lt hp
    have hold : (((l.map (ent K)).toArray[n]?).map (·.key)).getD (K k) = K k := by
      simp [hx, ent, hxk]
    have hmod : (l.map (ent K)).toArray.modify n (fun e => { e with key := K k, val := v }) = ((l.modify n fun x => (x.1, v, x.2.2)).map (ent K)).toArray := by
      apply Array.ext'
      simp only [Array.toList_modify]
      have : ∀ (l : List (κ × Value × Nat)) (n : Nat), (∀ y, l[n]? = some y → y.1 = k) → (l.map (ent K)).modify n (fun e => { e with key := K k, val := v }) = (l.modify n fun x => (x.1, v, x.2.2)).map (ent K) := by
        intro l
        induction l with
        | nil => intro n _; cases n <;> rfl
        | cons y l ih =>
          intro n hy
          cases n with
          | zero => simp [List.modify_zero_cons, ent, hy y rfl]
          | succ n => simp only [List.map_cons, List.modify_succ_cons]; rw [ih n (fun z hz => hy z (by simpa using hz))]
      exact this l n (fun y hy => by rw [hx] at hy; injection hy with hy; rw [← hy]; exact hxk)
    refine ⟨.map ((l.modify n fun x => (x.1, v, x.2.2)).map (ent K)).toArray c, ?_, l.modify n fun x => (x.1, v, x.2.2), c, hp_setB_at hlt, by rw [keys_modify]; exact hn, ?_, ?_⟩
    · intro w' hw'
      rw [← hw'] at hb
      simp only [Instr.mapUpdate, Sem.run_bind, run_underlying ht, run_getObj_map hb, KL.check _ k w' hk, hfind w', Result.andThen_ok, Instr.keyThatStays, hold, KL.same k, if_true, Sem.run_pure, run_setObj_map hb, hmod]
    · intro y hy
      have : y.1 ∈ (l.modify n fun x => (x.1, v, x.2.2)).map (·.1) := List.mem_map.2 ⟨y, hy, rfl⟩
      rw [keys_modify] at this
      obtain ⟨z, hz, he⟩ := List.mem_map.1 this
      rw [← he]
      exact ho z hz
    · intro k' hk'
      rw [look_modify v k' hp, hf k' hk']

theorem delete_is (KL : KeyL P kt K ok) (ht : P.underlying mt = some (.map kt et)) {w : World} {b : Nat} {f : κ → Option Value} (h : MapIs K ok w b f) (k : κ) (hk : ok k) (kt' tt : TypeId) :
    ∃ o, (∀ w', w'.heap = w.heap → (Builtin.delete_ #[mt, kt'] tt #[.map (some b), K k]).run P w' = .ok (.tuple #[]) (setB w' b o)) ∧ MapIs K ok (setB w b o) b (fun k' => if k' = k then none else f k') := by
  obtain ⟨l, c, hb, hn, ho, hf⟩ := h
  have hfind := fun w' => KL.find k l w' hk ho
  have hlt := lt_of_some hb
  cases hp : pos k l with
  | none =>
    simp only [hp] at hfind
    refine ⟨.map (l.map (ent K)).toArray c, ?_, l, c, hp_setB_at hlt, hn, ho, ?_⟩
    · intro w' hw'
      rw [← hw'] at hb
      simp [Builtin.delete_, run_underlying ht, run_getObj_map hb, KL.check _ k w' hk, hfind w', Result.andThen, run_setObj_map hb]
    · intro k' hk'
      show look k' l = if k' = k then none else f k'
      by_cases e : k' = k
      · subst e; rw [if_pos rfl, look_free (pos_none hp)]
      · rw [if_neg e]; exact hf k' hk'
  | some a =>
    obtain ⟨n, v0⟩ := a
    simp only [hp] at hfind
    have her : (l.map (ent K)).toArray.eraseIdxIfInBounds n = ((l.eraseIdx n).map (ent K)).toArray := by
      simp [map_erase]
    refine ⟨.map ((l.eraseIdx n).map (ent K)).toArray c, ?_, l.eraseIdx n, c, hp_setB_at hlt, ?_, fun x hx => ho x (List.mem_of_mem_eraseIdx hx), ?_⟩
    · intro w' hw'
      rw [← hw'] at hb
      simp [Builtin.delete_, run_underlying ht, run_getObj_map hb, KL.check _ k w' hk, hfind w', Result.andThen, run_setObj_map hb, map_erase]
    · rw [map_erase]
      exact hn.sublist (List.eraseIdx_sublist _ _)
    · intro k' hk'
      rw [look_erase k' hn hp, hf k' hk']
end maps

/-- The four ids of the law. -/
def ids (j : Nat) : ByteArray := if j = 0 then ⟨#[]⟩ else if j = 1 then ⟨#[97]⟩ else if j = 2 then ⟨#[98]⟩ else ⟨#[99]⟩
theorem ids_beq : ∀ j, j < 4 → ∀ k, k < 4 → (ids j == ids k) = decide (k = j) := by decide
def kS (j : Nat) : Value := .string (ids j)
def okS (j : Nat) : Prop := j < 4
def kT (t : Nat × Nat) : Value := .agg #[.int .u8 t.1, .string (ids t.2)]
def okT (t : Nat × Nat) : Prop := t.1 < 5 ∧ t.2 < 4

theorem keyS : KeyL Yba.prog 9 kS okS where
  check := fun b k w _ => by kernel_rfl
  find := fun k l w hk ho => by
    have h : ∀ (l : List (Nat × Value × Nat)) (i : Nat), (∀ x ∈ l, okS x.1) → Instr.findNow .string (kS k) (l.map (ent kS)) i = some ((pos k l).map fun a => (a.1 + i, a.2)) := by
      intro l
      induction l with
      | nil => intro i _; rfl
      | cons y l ih =>
        intro i ho
        have hy := ids_beq k hk y.1 (ho y (by simp))
        simp only [List.map_cons, Instr.findNow, ent, kS, Instr.sameNow, hy, pos]
        by_cases e : y.1 = k
        · simp [e]
        · have := ih (i + 1) (fun x hx => ho x (by simp [hx]))
          simp only [kS] at this
          simp [e, this, Option.map_map]
          congr 1
          funext a
          simp
          omega
    have h0 := h l 0 ho
    simp only [Instr.findKey, Sem.run_bind, run_underlying Yba.underlying9, Result.andThen_ok, h0, Sem.run_pure]
    simp
  same := fun k => by simp [kS, Instr.sameBits, beq_toListBytes]

theorem eqT (a b : Nat × Nat) (ha : okT a) (hb : okT b) (w : World) : (Op.equal 31 (kT a) (kT b)).run Yba.prog w = .ok (decide (b = a)) w := by
  have h1 : ((a.1 : Int) == (b.1 : Int)) = decide (b.1 = a.1) := by
    by_cases e : b.1 = a.1
    · simp [e]
    · have : ¬ (a.1 : Int) = (b.1 : Int) := by omega
      simp [e, this]
  have h2 := ids_beq a.2 ha.2 b.2 hb.2
  rw [beq_toListBytes] at h2
  have h3 : decide (b = a) = (decide (b.1 = a.1) && decide (b.2 = a.2)) := by
    obtain ⟨a1, a2⟩ := a
    obtain ⟨b1, b2⟩ := b
    simp
  rw [h3, ← h1, ← h2]
  have hf : Yba.prog.underlying 31 = some (.struct (Yba.prog.fieldsOf 31)) := by kernel_rfl
  have hs : Yba.prog.stoodInHeld 31 = false := by kernel_rfl
  simp only [Op.equal, Op.maxDepth, kT]
  rw [run_equalIn_agg _ 9999 31 _ _ hf hs]
  have p0 : ∀ (x : Int) (s : ByteArray), (part 29 #[.int .u8 x, .string s] 0).run Yba.prog w = .ok (.int .u8 x) w := fun x s => by kernel_rfl
  have p1 : ∀ (x : Int) (s : ByteArray), (part 9 #[.int .u8 x, .string s] 1).run Yba.prog w = .ok (.string s) w := fun x s => by kernel_rfl
  have e0 : ∀ x y : Int, (Op.equalIn 9999 29 (.int .u8 x) (.int .u8 y)).run Yba.prog w = .ok (x == y) w := fun x y => run_equalIn_int w 9998 29 .u8 .u8 x y (by kernel_rfl)
  have e1 : ∀ x y : ByteArray, (Op.equalIn 9999 9 (.string x) (.string y)).run Yba.prog w = .ok (x.toList == y.toList) w := fun x y => run_equalIn_string w 9998 9 x y Yba.underlying9
  have hm : (Yba.prog.fieldsOf 31).toList.map (fun f => (f.name == "_", f.type, f.offset)) = [(false, 29, 0), (false, 9, 1)] := by kernel_rfl
  have hl : ∃ f g : Field, (Yba.prog.fieldsOf 31).toList = [f, g] ∧ (f.name ≠ "_") ∧ (g.name ≠ "_") ∧ f.type = 29 ∧ g.type = 9 ∧ f.offset = 0 ∧ g.offset = 1 := by
    generalize (Yba.prog.fieldsOf 31).toList = fs at hm
    rcases fs with _ | ⟨f, _ | ⟨g, _ | ⟨h, fs⟩⟩⟩
    · simp at hm
    · simp at hm
    · simp at hm
      exact ⟨f, g, rfl, hm.1.1, hm.2.1, hm.1.2.1, hm.2.2.1, hm.1.2.2, hm.2.2.2⟩
    · simp at hm
  obtain ⟨f, g, hfg, n1, n2, t1, t2, o1, o2⟩ := hl
  rw [hfg]
  simp only [Op.eqFields, if_pos n1, if_pos n2, t1, t2, o1, o2, Sem.run_bind, p0, Result.andThen_ok, e0]
  cases ((a.1 : Int) == (b.1 : Int)) <;> cases hb2 : ((ids a.2).toList == (ids b.2).toList) <;> simp [p1, e1, hb2]

theorem keyT : KeyL Yba.prog 31 kT okT where
  check := fun b k w _ => by kernel_rfl
  find := fun k l w hk ho => by
    have h : ∀ (l : List ((Nat × Nat) × Value × Nat)) (i : Nat), (∀ x ∈ l, okT x.1) → (Instr.findAsking 31 (kT k) (l.map (ent kT)) i).run Yba.prog w = .ok ((pos k l).map fun a => (a.1 + i, a.2)) w := by
      intro l
      induction l with
      | nil => intro i _; rfl
      | cons y l ih =>
        intro i ho
        have hy := eqT k y.1 hk (ho y (by simp)) w
        have := ih (i + 1) (fun x hx => ho x (by simp [hx]))
        simp only [List.map_cons, Instr.findAsking, Sem.run_bind]
        have e1 : (ent kT y).key = kT y.1 := rfl
        rw [e1, hy, Result.andThen_ok]
        by_cases e : y.1 = k
        · simp [e, pos, ent]
        · simp only [decide_eq_false e]
          simp only [pos, if_neg e]
          simp [this, Option.map_map]
          congr 1
          funext a
          simp
          omega
    cases l with
    | nil => simp [Instr.findKey, run_underlying Yba.underlying31, Instr.findNow, pos]
    | cons y l =>
      have h0 := h (y :: l) 0 ho
      have hn : ∀ fs, Instr.findNow (.struct fs) (kT k) ((y :: l).map (ent kT)) 0 = none := fun fs => rfl
      simp only [Instr.findKey, Sem.run_bind, run_underlying Yba.underlying31, Result.andThen_ok, hn, h0]
      simp
  same := fun k => by simp [kT, Instr.sameBits, beq_toListBytes]
end Go.Proofs.Ybulkbwok
