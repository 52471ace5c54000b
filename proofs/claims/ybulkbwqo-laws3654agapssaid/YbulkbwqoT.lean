/- DERIVED. The end of a gap where a blank line stands; what is no cells is kept. -/
import Derived.Test.YbulkbwqoQ
namespace Go.Proofs.Ybulkbwqo
open Go.RowKit

/-- Whatever is no cells lies as it lay. -/
def KO (w w' : World) : Prop := ∀ (k : Nat) (o : Obj), (∀ c t f, o ≠ .cells c t f) → w.heap[k]? = some o → w'.heap[k]? = some o
theorem KO.trans {a b c : World} (h : KO a b) (k : KO b c) : KO a c := fun i o ho hi => k i o ho (h i o ho hi)
theorem KO.alloc (w : World) (o : Obj) : KO w (w.alloc o) := fun _ _ _ hi => (hp_alloc_lt (lt_of_some hi)).trans hi
theorem KO.ofDrew {a w : World} (h : KO a.drew w) : KO a w := h
theorem KO.setCell (w : World) (p : Addr) (v : Value) : KO w (w.setCell p v) := fun i o ho hi => by
  by_cases e : i = p.block
  · subst e
    cases o with
    | cells c t f => exact absurd rfl (ho _ _ _)
    | _ => simp only [World.setCell, Array.getElem?_modify, if_true, hi, Option.map_some]
  · exact (Below.heap_setCell _ _ _ _ e).trans hi
theorem KO.grown {w w' : World} {base : Nat} {e : TypeId} {v : Value} {n : Nat} {xs : List Value} (ho : w.ownsRow base e 1 v n xs) (hg : w.grownBy w' v.ownBlock) : KO w w' := fun i o hc hi => by
  refine (hg.block i (lt_of_some hi) fun hk => ?_).trans hi
  obtain ⟨_, c, hcc⟩ := owns_row ho hk.symm
  rw [hi] at hcc; injection hcc with hcc; exact absurd hcc (hc _ _ _)
theorem app_litK (B : Nat) (v : Value) (l m : List UInt8) (ca : Array Value) (hca : ca.toList = cs m) (hm : 0 < m.length) (w : World) (hB : B ≤ w.heap.size) (ho : Own B w v l) (hl : l.length + m.length ≤ 100000000) :
    ∃ g cap w', (Builtin.append_ #[22, 22] 22 #[v, .slice (some ⟨w.heap.size, 0, none⟩) m.length m.length]).run Yba.prog (w.alloc (.cells ca 5)) = .ok (.slice (some ⟨g, 0, none⟩) (l.length + m.length) cap) w' ∧
      Own B w' (.slice (some ⟨g, 0, none⟩) (l.length + m.length) cap) (l ++ m) ∧ Stp B [5] w w' ∧ KO w w' := by
  obtain ⟨i5, hi5, hz5, hs5, hb5⟩ := info_parts info5
  have hmem : ∀ u ∈ cs m, u.oneCell' = true := fun u hu => by
    simp [cs] at hu; obtain ⟨a, _, rfl⟩ := hu; rfl
  obtain ⟨v', w', hr, ho', hg, _, _⟩ := run_append_own_at (P := Yba.prog) (w.alloc (.cells ca 5)) B 22 22 5 i5 _ 1 1 Yba.underlying22 hi5 hz5 hs5 hb5 rfl (by omega) v l.length (cs l) (ho.alloc _) ⟨w.heap.size, 0, none⟩ m.length m.length (cs m) (by rw [cs_len]; omega)
    (by rw [← hca]; exact World.news_of_block (cs := ca) (t := 5) (fr := (0, 0)) (heap_alloc_new w _)) hmem (by unfold maxLen; omega) (by omega) (by simp; omega)
  have hst : Stp B [5] w w' := grown_stp ((Stp.refl B [5] w).alloc hB _) hB (ho.alloc _) (by simp) hg
  rcases ho'.2 with ⟨rfl, h0⟩ | ⟨g, cap, cur, rfl, r⟩
  · omega
  · refine ⟨g, cap, w', hr, ?_, hst, (KO.alloc w _).trans (KO.grown (ho.alloc _) hg)⟩
    show w'.ownsRow B 5 1 _ (l ++ m).length (cs (l ++ m))
    rw [List.length_append, cs_app]; exact ho'
theorem app_strK (B : Nat) (v : Value) (l : List UInt8) (s : ByteArray) (w : World) (hB : B ≤ w.heap.size) (ho : Own B w v l) (hl : l.length + s.size ≤ 100000000) :
    ∃ v' w', (Builtin.append_ #[22, 9] 22 #[v, .string s]).run Yba.prog w = .ok v' w' ∧ Own B w' v' (l ++ s.data.toList) ∧ Stp B [5] w w' ∧ KO w w' := by
  obtain ⟨i5, hi5, hz5, hs5, hb5⟩ := info_parts info5
  obtain ⟨v', w', hr, ho', hg, _⟩ := Lib.run_append_own_string (P := Yba.prog) w B 22 9 22 5 i5 Yba.underlying22 Yba.underlying9 hi5 hz5 hs5 hb5 v l.length (cs l) ho s (by unfold maxLen; omega) (by omega) hB
  refine ⟨v', w', hr, ?_, grown_stp (Stp.refl B [5] w) hB ho (by simp) hg, KO.grown ho hg⟩
  show w'.ownsRow B 5 1 _ (l ++ s.data.toList).length (cs (l ++ s.data.toList))
  rw [List.length_append, cs_app]; exact ho'
theorem app1K (B : Nat) (v : Value) (l : List UInt8) (c : Int) (b : UInt8) (hc : c = b.toNat) (w : World) (hB : B ≤ w.heap.size) (ho : Own B w v l) (hl : l.length ≤ 20000000) :
    ∃ v' w', (Builtin.append_ #[22, 22] 22 #[v, .slice (some ⟨w.heap.size, 0, none⟩) 1 1]).run Yba.prog (w.alloc (.cells #[.int .u8 c] 5)) = .ok v' w' ∧ Own B w' v' (l ++ [b]) ∧ Stp B [5] w w' ∧ KO w w' := by
  subst hc
  obtain ⟨g, cap, w', h1, h2, h3, h4⟩ := app_litK B v l [b] #[.int .u8 b.toNat] rfl (by simp) w hB ho (by simp; omega)
  exact ⟨_, w', h1, h2, h3, h4⟩
set_option maxRecDepth 100000 in
theorem appendNewlineK (B Bb wd lv : Nat) (v : Value) (l : List UInt8) (w : World) (hwd : wd ≤ 4) (hlv : lv ≤ 1000) (hB : B ≤ w.heap.size) (h1 : w.cell? ⟨Bb, 1, none⟩ = some (.string (nlS (16 * wd)))) (h2 : w.cell? ⟨Bb, 2, none⟩ = some (.int .i64 wd))
    (ho : Own B w v l) (hl : l.length ≤ 10000000) :
    Calls Yba.prog 22 #[.pointer (some ⟨Bb, 1, none⟩), v, .int .i64 lv] w fun e w' => ∃ v', e = .returned v' ∧ Own B w' v' (l ++ nl (min lv 16 * wd)) ∧ Stp B [5] w w' ∧ KO w w' := by
  obtain ⟨m, hm⟩ : ∃ m, min lv 16 = m := ⟨_, rfl⟩
  have hm16 : m ≤ 16 := by omega
  have hmw : m * wd ≤ 16 * wd := Nat.mul_le_mul_right _ hm16
  have hmi : (if 16 < (lv : Int) then 16 else (lv : Int)) = (m : Int) := by split <;> omega
  obtain ⟨p, hp⟩ : ∃ p, m * wd = p := ⟨_, rfl⟩
  have hpi : (m : Int) * (wd : Int) = (p : Int) := by rw [← hp]; simp
  have hp64 : p ≤ 64 := by omega
  have hw1 : IntKind.i64.wrap (p : Int) = (p : Int) := wrap_small (by omega) (by omega)
  have hw2 : IntKind.i64.wrap (1 + (p : Int)) = 1 + (p : Int) := wrap_small (by omega) (by omega)
  have b1 : (0 : Int) ≤ 1 + (p : Int) := by omega
  have b2 : 1 + (p : Int) ≤ 16 * (wd : Int) + 1 := by omega
  have tn : (1 + (p : Int)).toNat = 1 + p := by omega
  have hcut := nlS_cut (16 * wd) p (by omega)
  obtain ⟨v', w', hr, ho', hs', ko'⟩ := app_strK B v l ((nlS (16 * wd)).extract 0 (1 + p)) w.drew hB ho.drew (by simp [ByteArray.size_extract]; omega)
  rw [hcut] at ho'
  have hsz := nlS_size (16 * wd)
  rw [hm, hp]
  have HO := hid (And.intro ho' (And.intro hs' ko'))
  clear ho' hs' ko' ho hcut hm hp
  go_enter Yba.func22, Yba.ntmps22
  go_wp2
  go_region_law ((refine step_append_run (by rfl) _ _ 22 9 (by rfl) v _ _ w' (by rfl) (by rfl) hr ?_))
  all_goals
    go_wp2
    go_ret
    exact ⟨v', rfl, HO.out.1, HO.out.2.1.ofDrew, HO.out.2.2.ofDrew⟩
set_option maxRecDepth 100000 in
theorem newLineK (B Bb wd lv fr : Nat) (gf v : Value) (l : List UInt8) (w : World) (hwd : wd ≤ 4) (hlv : lv ≤ 1000) (hfr : fr ≤ 1) (hb : Buf B Bb wd gf v l w) (hl : l.length ≤ 10000000) :
    Calls Yba.prog 25 #[.pointer (some ⟨Bb, 0, none⟩), v, .int .u8 fr, .int .i64 lv] w fun e w' => ∃ v', e = .returned v' ∧ Own B w' v' (l ++ nl (min lv 16 * wd)) ∧ Stp B [5] w w' ∧ KO w w' := by
  have hne := nl_ne (16 * wd)
  have h1 := hb.c1
  have f2 : ¬ (fr : Int) = 2 := by omega
  have hc := appendNewlineK B Bb wd lv v l w hwd hlv hb.lt hb.c1 hb.c2 hb.own hl
  have HC := hid hc
  clear hc hb
  go_enter Yba.func25, Yba.ntmps25
  go_wp2_with fail
  refine HC.out.mono ?_
  rintro e w' ⟨v', rfl, ho, hs, hko⟩
  go_wp2
  go_ret
  exact ⟨v', rfl, ho, hs, hko⟩
/-- A call by its contract inside a region that draws, the callee told. -/
theorem step_callF {P : Program} {ops : Array Oper} {o : Oper} {a : Act} {w : World} {K : Act → World → Prop} {Q : Exit → Act → World → Prop} {E : Prop} (hg : o.guard = none) (f : FuncId) {xs : Array Operand} {ts : Array TypeId} (_ho : o.op = Op.call { callee := Callee.value (Operand.func f), args := xs, argTypes := ts }) (args : Array Value) (hrun : (execOp a.eval o).run P w = .ok (.enter f args) w)
    {R : Value → World → Prop} (hc : Calls P f args w fun e w' => ∃ v, e = .returned v ∧ R v w') (h : ∀ v w', R v w' → K (a.put o.dst v) w') : if Region.wanted o (yielded ops a.tmps) = true then Oper.wp P o a w K Q else E :=
  step_call hg f args hrun hc h

set_option maxRecDepth 100000 in
theorem blankAllowed_any (M : Nat) (p i : Value) (w : World) (bM : w.heap[M]? = some (.cells #[p, i, .int .u8 0, .bool true, .bool true] 73)) :
    Calls Yba.prog 34 #[.pointer (some ⟨M, 0, none⟩)] w fun e w' => e = .returned (.bool true) ∧ w' = w := by
  have m2 : w.cell? ⟨M, 2, none⟩ = some (.int .u8 0) := by simp [World.cell?, bM]
  have m3 : w.cell? ⟨M, 3, none⟩ = some (.bool true) := by simp [World.cell?, bM]
  have m4 : w.cell? ⟨M, 4, none⟩ = some (.bool true) := by simp [World.cell?, bM]
  clear bM
  go_enter Yba.func34, Yba.ntmps34
  go_wp2
  go_ret
  exact ⟨rfl, rfl⟩
set_option maxRecDepth 100000 in
theorem edge_any (M : Nat) (p i : Value) (w : World) (bM : w.heap[M]? = some (.cells #[p, i, .int .u8 0, .bool true, .bool true] 73)) :
    Calls Yba.prog 35 #[.pointer (some ⟨M, 0, none⟩)] w fun e w' => e = .returned (.int .u8 0) ∧ w' = w := by
  have m4 : w.cell? ⟨M, 4, none⟩ = some (.bool true) := by simp [World.cell?, bM]
  clear bM
  go_enter Yba.func35, Yba.ntmps35
  go_wp2
  go_ret
  exact ⟨rfl, rfl⟩

set_option maxRecDepth 100000 in
set_option maxHeartbeats 4000000 in
theorem linesEnd_blank (B Bb Lb Pb Ib wd : Nat) (gf v lg : Value) (l : List UInt8) (k : Nat) (X : Option Addr) (n cap : Nat) (M : Nat) (i : Value) (mx next : Nat) (w : World) (h : Run B Bb Lb Pb Ib wd gf v lg l k X n cap w) (hl : l.length ≤ 9000000)
    (hwd : wd ≤ 4) (hnx : next ≤ 1000) (hm : 2 ≤ mx) (bM : w.heap[M]? = some (.cells #[.pointer (some ⟨Bb, 0, none⟩), i, .int .u8 0, .bool true, .bool true] 73)) :
    Calls Yba.prog 30 #[.pointer (some ⟨M, 0, none⟩), .int .i64 mx, .int .u8 0, .int .i64 next] w
      fun e w' => e = .returned (.tuple #[]) ∧ ∃ v', Run B Bb Lb Pb Ib wd gf v' lg (l ++ [10] ++ nl (min next 16 * wd)) k X n cap w' ∧ Stp B [5, 37] w w' ∧ KO w w' := by
  have m0 : w.cell? ⟨M, 0, none⟩ = some (.pointer (some ⟨Bb, 0, none⟩)) := by simp [World.cell?, bM]
  have hm0 : ¬ (mx : Int) = 0 := by omega
  have hm2 : (2 : Int) ≤ (mx : Int) := by omega
  have c0 := h.buf.c0
  have hba := blankAllowed_any M _ _ w bM
  obtain ⟨va, wa, hra, oa, Sa, koa⟩ := app1K B v l 10 10 rfl w h.buf.lt h.buf.own (by omega)
  obtain ⟨xa, ma, qa, rfl, ca, fa, ra, sa⟩ := h.nl Sa oa
  have bMa := sa.fr _ _ _ (by decide) bM
  have kob : KO w (wa.setCell ⟨Bb, 0, none⟩ (.slice xa ma qa)) := koa.trans (KO.setCell wa _ _)
  generalize hwb : wa.setCell ⟨Bb, 0, none⟩ (.slice xa ma qa) = wb at *
  have cb := ra.buf.c0
  have hed := edge_any M _ _ wb.drew bMa
  have hnl := newLineK B Bb wd next 0 gf _ _ wb.drew hwd hnx (by omega) (ra.buf.below (Below.refl _ _).drew) (by simp; omega)
  have hed2 : Calls Yba.prog 35 #[.pointer (some ⟨M, 0, none⟩)] wb.drew fun e w' => ∃ u, e = .returned u ∧ (u = .int .u8 0 ∧ w' = wb.drew) := hed.mono fun e w' h => ⟨_, h.1, rfl, h.2⟩
  have hnl2 := hnl.mono (R' := fun e w' => ∃ v', e = .returned v' ∧ ∃ x m q, v' = .slice x m q ∧ w'.cell? ⟨Bb, 0, none⟩ = some (.slice xa ma qa) ∧ w'.frozen? ⟨Bb, 0, none⟩ = false ∧ Run B Bb Lb Pb Ib wd gf v' lg (l ++ [10] ++ nl (min next 16 * wd)) k X n cap (w'.setCell ⟨Bb, 0, none⟩ v') ∧ Stp B [5, 37] w (w'.setCell ⟨Bb, 0, none⟩ v') ∧ KO w (w'.setCell ⟨Bb, 0, none⟩ v')) (fun e w' hh => by
    obtain ⟨v', rfl, ho, hs, hko⟩ := hh
    obtain ⟨x, m, q, e1, e2, e3, r, s⟩ := ra.nl hs.ofDrew ho
    exact ⟨v', rfl, x, m, q, e1, e2, e3, r, sa.trans s, kob.trans (hko.ofDrew.trans (KO.setCell w' _ _))⟩)
  have HB := hid hba
  have HE := hid hed2
  have HN := hid hnl2
  clear koa kob hba hed hed2 hnl hnl2 ra sa bMa bM oa Sa h
  go_enter Yba.func30, Yba.ntmps30
  go_wp2_with fail
  refine HB.out.mono ?_
  rintro e wx ⟨rfl, rfl⟩
  go_wp2_with (at_builtin; refine wpList_append_run (by rfl) _ _ 22 22 (by rfl) v _ _ wa (by rfl) (by rfl) hra ?_)
  go_region_law (first | (refine step_callF (by rfl) 35 (by rfl) _ (by first | kernel_rfl | simp [go_sem]) HE.out ?_; rintro vg wg ⟨rfl, rfl⟩) | (refine step_callF (by rfl) 25 (by rfl) _ (by first | kernel_rfl | simp [go_sem]) HN.out ?_; rintro v9 w9 ⟨x9, m9, q9, rfl, c9, f9, hfin⟩))
  all_goals
    go_wp2
    exact bodyPost_end (results_none rfl _ _ _) rfl ⟨rfl, _, hfin⟩
end Go.Proofs.Ybulkbwqo
