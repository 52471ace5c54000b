/- DERIVED. Bytes that the call owns; what a step keeps; the small functions. -/
import Derived.Test.YbulkbwqoChecked
import Derived.WalkKit
import Derived.WalkSpells
import Derived.WalkLawsBesides
import Derived.Below
import Derived.Lib.AppendStr
import Derived.Maps.AppendAt
import Derived.Laws.OwnMore
import Derived.Laws.IdiomStrings
import Derived.Deep.OwnRows
import Derived.Deep.AppendLies
import Derived.Deep.RegionHeld3
import Derived.Deep.QuietTactic
import Derived.BigQuiet
import Derived.Deep.RegionLaw
import Derived.BigRegion
namespace Go.Proofs.Ybulkbwqo
open Go.RowKit

def Hid (p : Prop) : Prop := p
theorem hid {p : Prop} (h : p) : Hid p := h
theorem Hid.out {p : Prop} (h : Hid p) : p := h
theorem info_parts {P : Program} {e : TypeId} {z : Value} {sz by_ : Nat} (h : (P.info? e).map (fun i => (i.zero, i.size, i.bytes)) = some (some z, sz, by_)) : ∃ i, P.info? e = some i ∧ i.zero = some z ∧ i.size = sz ∧ i.bytes = by_ := by
  obtain ⟨i, hi, hzz⟩ := Option.map_eq_some_iff.1 h
  simp only [Prod.mk.injEq] at hzz
  exact ⟨i, hi, hzz.1, hzz.2.1, hzz.2.2⟩
theorem info5 : (Yba.prog.info? 5).map (fun i => (i.zero, i.size, i.bytes)) = some (some (.int .u8 0), 1, 1) := by kernel_rfl
theorem info3 : (Yba.prog.info? 3).map (fun i => (i.zero, i.size, i.bytes)) = some (some (.int .i64 0), 1, 8) := by kernel_rfl
theorem lt_of_some {w : World} {b : Nat} {o : Obj} (h : w.heap[b]? = some o) : b < w.heap.size := by
  rcases Nat.lt_or_ge b w.heap.size with h' | h'
  · exact h'
  · rw [Array.getElem?_eq_none h'] at h; cases h
theorem hp_alloc_lt {w : World} {o : Obj} {k : Nat} (h : k < w.heap.size) : (w.alloc o).heap[k]? = w.heap[k]? := Below.heap_alloc w o k h

/-- Nothing below B has turned, and no block of cells but those of the types ts. -/
structure Stp (B : Nat) (ts : List TypeId) (w w' : World) : Prop where
  bel : Below B w w'
  fr : ∀ (k : Nat) (c : Array Value) (t : TypeId), t ∉ ts → w.heap[k]? = some (.cells c t) → w'.heap[k]? = some (.cells c t)
theorem Stp.refl (B : Nat) (ts : List TypeId) (w : World) : Stp B ts w w := ⟨Below.refl _ _, fun _ _ _ _ h => h⟩
theorem Stp.trans {B : Nat} {ts : List TypeId} {a b c : World} (h : Stp B ts a b) (k : Stp B ts b c) : Stp B ts a c := ⟨h.bel.trans k.bel, fun i d t ht hh => k.fr i d t ht (h.fr i d t ht hh)⟩
theorem Stp.mono {B B' : Nat} {ts ts' : List TypeId} {a b : World} (h : Stp B ts a b) (hB : B' ≤ B) (hs : ∀ t, t ∈ ts → t ∈ ts') : Stp B' ts' a b := ⟨h.bel.mono hB, fun i d t ht hh => h.fr i d t (fun e => ht (hs t e)) hh⟩
theorem Stp.alloc {B : Nat} {ts : List TypeId} {a w : World} (h : Stp B ts a w) (hB : B ≤ a.heap.size) (o : Obj) : Stp B ts a (w.alloc o) :=
  ⟨h.bel.alloc (Nat.le_trans hB h.bel.size) o, fun i d t ht hh => (hp_alloc_lt (lt_of_some (h.fr i d t ht hh))).trans (h.fr i d t ht hh)⟩
theorem Stp.drew {B : Nat} {ts : List TypeId} {a w : World} (h : Stp B ts a w) : Stp B ts a w.drew := ⟨h.bel.drew, h.fr⟩
theorem Stp.drewN {B : Nat} {ts : List TypeId} {a w : World} (h : Stp B ts a w) (q : Nat) : Stp B ts a (w.drewN q) := ⟨⟨h.bel.os, h.bel.tape, h.bel.output, h.bel.size, h.bel.block⟩, h.fr⟩
theorem Stp.ofBelow {B : Nat} {ts : List TypeId} {a w : World} (h : Below a.heap.size a w) (hB : B ≤ a.heap.size) : Stp B ts a w := ⟨h.mono hB, fun i _ _ _ hh => (h.block i (lt_of_some hh)).trans hh⟩
theorem Stp.setCell {B : Nat} {ts : List TypeId} {a w : World} (h : Stp B ts a w) {b o : Nat} {cs : Array Value} {t : TypeId} (hb : w.heap[b]? = some (.cells cs t)) (ht : t ∈ ts) (hB : B ≤ b) (v : Value) : Stp B ts a (w.setCell ⟨b, o, none⟩ v) :=
  ⟨h.bel.setCell (p := ⟨b, o, none⟩) hB v, fun i d u hu hh => by
    have h1 := h.fr i d u hu hh
    have : i ≠ b := by rintro rfl; rw [hb] at h1; injection h1 with h1; injection h1 with _ h1; exact hu (h1 ▸ ht)
    exact (Below.heap_setCell _ _ _ _ this).trans h1⟩

/-- The bytes as cells. -/
def cs (l : List UInt8) : List Value := l.map fun b => Value.int .u8 b.toNat
theorem cs_len (l : List UInt8) : (cs l).length = l.length := by simp [cs]
theorem cs_app (l m : List UInt8) : cs (l ++ m) = cs l ++ cs m := by simp [cs]
/-- v owns the bytes l, in a block from B on. -/
def Own (B : Nat) (w : World) (v : Value) (l : List UInt8) : Prop := w.ownsRow B 5 1 v l.length (cs l)
theorem Own.nil (B : Nat) (w : World) : Own B w (.slice none 0 0) [] := World.ownsRow_nil _ _ _ _
theorem owns_row {w : World} {base : Nat} {e : TypeId} {v : Value} {n : Nat} {xs : List Value} (h : w.ownsRow base e 1 v n xs) {g : Nat} (hg : v.ownBlock = some g) : base ≤ g ∧ ∃ c, w.heap[g]? = some (.cells c e) := by
  rcases h.2 with ⟨rfl, _⟩ | ⟨g', cap, cur, rfl, hb, hh, r⟩
  · cases hg
  · injection hg with hg; subst hg; exact ⟨hb, cur, hh⟩
theorem owns_moved {w w' : World} {base : Nat} {e : TypeId} {size : Nat} {v : Value} {n : Nat} {xs : List Value} (h : w.ownsRow base e size v n xs) (hk : ∀ g, v.ownBlock = some g → w'.heap[g]? = w.heap[g]?) : w'.ownsRow base e size v n xs := by
  refine ⟨h.1, ?_⟩
  rcases h.2 with h2 | ⟨g', cap, cur, rfl, hb, hh, r⟩
  · exact Or.inl h2
  · exact Or.inr ⟨g', cap, cur, rfl, hb, by rw [hk g' rfl]; exact hh, r⟩
theorem owns_stp {w w' : World} {base B : Nat} {e : TypeId} {v : Value} {n : Nat} {xs : List Value} {ts : List TypeId} (h : w.ownsRow base e 1 v n xs) (hs : Stp B ts w w') (he : e ∉ ts) : w'.ownsRow base e 1 v n xs :=
  owns_moved h fun g hg => by
    obtain ⟨_, c, hc⟩ := owns_row h hg
    rw [hs.fr g c e he hc, hc]
theorem Own.below {B : Nat} {w w' : World} {v : Value} {l : List UInt8} (h : Own B w v l) (hb : Below w.heap.size w w') : Own B w' v l :=
  owns_moved h fun g hg => by
    obtain ⟨_, c, hc⟩ := owns_row h hg
    exact hb.block g (lt_of_some hc)
theorem Own.alloc {B : Nat} {w : World} {v : Value} {l : List UInt8} (h : Own B w v l) (o : Obj) : Own B (w.alloc o) v l := h.below ((Below.refl _ _).alloc (Nat.le_refl _) _)
theorem Own.drew {B : Nat} {w : World} {v : Value} {l : List UInt8} (h : Own B w v l) : Own B w.drew v l := h.below ((Below.refl _ _).drew)
theorem Own.setCell {B : Nat} {w : World} {v : Value} {l : List UInt8} (h : Own B w v l) {b o : Nat} {c : Array Value} {t : TypeId} (hb : w.heap[b]? = some (.cells c t)) (ht : t ≠ 5) (u : Value) : Own B (w.setCell ⟨b, o, none⟩ u) v l :=
  owns_moved h fun g hg => by
    obtain ⟨_, c', hc⟩ := owns_row h hg
    refine Below.heap_setCell _ _ _ _ ?_
    rintro rfl
    rw [hc] at hb; injection hb with hb; injection hb with _ hb; exact ht hb.symm
theorem Own.form {B : Nat} {w : World} {v : Value} {l : List UInt8} (h : Own B w v l) : ∃ x c, v = .slice x l.length c := by
  rcases h.2 with ⟨rfl, h0⟩ | ⟨g', cap, cur, rfl, _⟩
  · exact ⟨none, 0, by rw [h0]⟩
  · exact ⟨_, _, rfl⟩
theorem grown_stp {B : Nat} {ts : List TypeId} {a w w' : World} {e : TypeId} {v : Value} {n : Nat} {xs : List Value} (h : Stp B ts a w) (hB : B ≤ a.heap.size) (ho : w.ownsRow B e 1 v n xs) (he : e ∈ ts) (hg : w.grownBy w' v.ownBlock) : Stp B ts a w' := by
  refine ⟨h.bel.grown hg (Nat.le_trans hB h.bel.size) fun k hk => (owns_row ho hk).1, fun i d t ht hh => ?_⟩
  have h1 := h.fr i d t ht hh
  refine (hg.block i (lt_of_some h1) fun hk => ?_).trans h1
  obtain ⟨_, c, hc⟩ := owns_row ho hk.symm
  rw [hc] at h1; injection h1 with h1; injection h1 with _ h1; exact ht (h1 ▸ he)

section
variable {P : Program} {w : World}
theorem wp_append_run {o : Oper} {a : Act} {K : Act → World → Prop} {Q : Exit → Act → World → Prop} (s x : Operand) (t u : TypeId)
    (ho : o.op = .call { callee := .builtin .append, args := #[s, x], argTypes := #[t, u] }) (vs vx v' : Value) (w' : World) (hs : a.eval s = vs) (hx : a.eval x = vx)
    (hr : (Builtin.append_ #[t, u] o.type #[vs, vx]).run P w = .ok v' w') (h : K (a.put o.dst v') w') : o.wp P a w K Q := by
  unfold Oper.wp execOp
  simp only [ho, resolve, invoke, builtin, Sem.run_bind, Sem.run_pure, Result.andThen_ok, List.map_toArray, List.map_cons, List.map_nil, hs, hx, hr]
  exact h
theorem wpList_append_run {ops : Array Oper} {rest : List Oper} {o : Oper} {a : Act} {Q : Exit → Act → World → Prop} (hgd : o.guard = none) (s x : Operand) (t u : TypeId)
    (ho : o.op = .call { callee := .builtin .append, args := #[s, x], argTypes := #[t, u] }) (vs vx v' : Value) (w' : World) (hs : a.eval s = vs) (hx : a.eval x = vx)
    (hr : (Builtin.append_ #[t, u] o.type #[vs, vx]).run P w = .ok v' w') (h : wpList P ops Q rest (a.put o.dst v') w') : wpList P ops Q (o :: rest) a w :=
  wpList_plain hgd fun _ hK => wp_append_run s x t u ho vs vx v' w' hs hx hr (hK _ _ h)
theorem step_append_run {ops : Array Oper} {o : Oper} {a : Act} {K : Act → World → Prop} {Q : Exit → Act → World → Prop} {E : Prop} (hgd : o.guard = none) (s x : Operand) (t u : TypeId)
    (ho : o.op = .call { callee := .builtin .append, args := #[s, x], argTypes := #[t, u] }) (vs vx v' : Value) (w' : World) (hs : a.eval s = vs) (hx : a.eval x = vx)
    (hr : (Builtin.append_ #[t, u] o.type #[vs, vx]).run P w = .ok v' w') (h : K (a.put o.dst v') w') : if Region.wanted o (yielded ops a.tmps) = true then Oper.wp P o a w K Q else E := by
  have hw : Region.wanted o (yielded ops a.tmps) = true := by simp [Region.wanted, hgd]
  rw [if_pos hw]
  exact wp_append_run s x t u ho vs vx v' w' hs hx hr h
end

/-- The bytes m, laid by the text itself, appended. -/
theorem app_lit (B : Nat) (v : Value) (l m : List UInt8) (ca : Array Value) (hca : ca.toList = cs m) (hm : 0 < m.length) (w : World) (hB : B ≤ w.heap.size) (ho : Own B w v l) (hl : l.length + m.length ≤ 100000000) :
    ∃ g cap w', (Builtin.append_ #[22, 22] 22 #[v, .slice (some ⟨w.heap.size, 0, none⟩) m.length m.length]).run Yba.prog (w.alloc (.cells ca 5)) = .ok (.slice (some ⟨g, 0, none⟩) (l.length + m.length) cap) w' ∧
      Own B w' (.slice (some ⟨g, 0, none⟩) (l.length + m.length) cap) (l ++ m) ∧ Stp B [5] w w' := by
  obtain ⟨i5, hi5, hz5, hs5, hb5⟩ := info_parts info5
  have hmem : ∀ u ∈ cs m, u.oneCell' = true := fun u hu => by
    simp [cs] at hu; obtain ⟨a, _, rfl⟩ := hu; rfl
  obtain ⟨v', w', hr, ho', hg, _, _⟩ := run_append_own_at (P := Yba.prog) (w.alloc (.cells ca 5)) B 22 22 5 i5 _ 1 1 Yba.underlying22 hi5 hz5 hs5 hb5 rfl (by omega) v l.length (cs l) (ho.alloc _) ⟨w.heap.size, 0, none⟩ m.length m.length (cs m) (by rw [cs_len]; omega)
    (by rw [← hca]; exact World.news_of_block (cs := ca) (t := 5) (fr := (0, 0)) (heap_alloc_new w _)) hmem (by unfold maxLen; omega) (by omega) (by simp; omega)
  have hst : Stp B [5] w w' := grown_stp ((Stp.refl B [5] w).alloc hB _) hB (ho.alloc _) (by simp) hg
  rcases ho'.2 with ⟨rfl, h0⟩ | ⟨g, cap, cur, rfl, r⟩
  · omega
  · refine ⟨g, cap, w', hr, ?_, hst⟩
    show w'.ownsRow B 5 1 _ (l ++ m).length (cs (l ++ m))
    rw [List.length_append, cs_app]; exact ho'
/-- A string appended. -/
theorem app_str (B : Nat) (v : Value) (l : List UInt8) (s : ByteArray) (w : World) (hB : B ≤ w.heap.size) (ho : Own B w v l) (hl : l.length + s.size ≤ 100000000) :
    ∃ v' w', (Builtin.append_ #[22, 9] 22 #[v, .string s]).run Yba.prog w = .ok v' w' ∧ Own B w' v' (l ++ s.data.toList) ∧ Stp B [5] w w' := by
  obtain ⟨i5, hi5, hz5, hs5, hb5⟩ := info_parts info5
  obtain ⟨v', w', hr, ho', hg, _⟩ := Lib.run_append_own_string (P := Yba.prog) w B 22 9 22 5 i5 Yba.underlying22 Yba.underlying9 hi5 hz5 hs5 hb5 v l.length (cs l) ho s (by unfold maxLen; omega) (by omega) hB
  refine ⟨v', w', hr, ?_, grown_stp (Stp.refl B [5] w) hB ho (by simp) hg⟩
  show w'.ownsRow B 5 1 _ (l ++ s.data.toList).length (cs (l ++ s.data.toList))
  rw [List.length_append, cs_app]; exact ho'

/-- A newline and k spaces. -/
def nl (k : Nat) : List UInt8 := 10 :: List.replicate k 32
def nlS (k : Nat) : ByteArray := ⟨(nl k).toArray⟩
theorem nl_len (k : Nat) : (nl k).length = k + 1 := by simp [nl]

set_option maxRecDepth 100000 in
theorem item_any (X : Option Addr) (n cap : Nat) (S : Nat → ByteArray) (i : Nat) (w : World) (hn : n ≤ 1024) (hi : i ≤ 1000) (h : ∀ k, k < n → ∃ b off, X = some ⟨b, off, none⟩ ∧ w.cell? ⟨b, off + k, none⟩ = some (.string (S k))) :
    Calls Yba.prog 16 #[.slice X n cap, .int .i64 i] w fun e w' => e = .returned (.string (if n = 0 then ⟨#[120]⟩ else S (i % n))) ∧ w' = w := by
  by_cases h0 : n = 0
  · subst h0
    go_enter Yba.func16, Yba.ntmps16
    go_wp2
    go_ret
    exact ⟨rfl, rfl⟩
  · have h1 : ¬ (n : Int) = 0 := by omega
    rw [if_neg h0]
    obtain ⟨j, hj⟩ : ∃ j, i % n = j := ⟨_, rfl⟩
    have hjn : j < n := by rw [← hj]; exact Nat.mod_lt _ (by omega)
    obtain ⟨b, off, rfl, hc⟩ := h j hjn
    have e1 : (i : Int) % (n : Int) = (j : Int) := by rw [← hj]; exact (Int.natCast_emod i n).symm
    have e2 : (i : Int).tmod (n : Int) = (j : Int) := by rw [Int.tmod_eq_emod_of_nonneg (by omega)]; exact e1
    have j1 : (j : Int) < (n : Int) := by omega
    have j0 : (0 : Int) ≤ (j : Int) := by omega
    have HJ := hid hj
    clear hj h
    go_enter Yba.func16, Yba.ntmps16
    go_wp2
    go_ret
    exact ⟨by rw [HJ.out]; rfl, rfl⟩
end Go.Proofs.Ybulkbwqo
