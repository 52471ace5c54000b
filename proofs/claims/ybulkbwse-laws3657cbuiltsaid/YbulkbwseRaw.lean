/- DERIVED. The walk of LawS3657CRaw. -/
import Derived.Test.YbulkbwseB
namespace Go.Proofs.Ybulkbwse
open Go.RowKit

theorem hid {p : Prop} (h : p) : Hid p := h
theorem info9 : (Yba.prog.info? 9).map (fun i => (i.zero, i.size, i.bytes)) = some (some (.string ⟨#[]⟩), 1, 16) := by kernel_rfl
def strV (l : List ByteArray) : List Value := l.map Value.string

theorem owns_cell {w : World} {base : Nat} {e : TypeId} {v : Value} {n : Nat} {xs : List Value} (h : w.ownsRow base e 1 v n xs) (hn : 0 < n) : ∃ g cap, v = .slice (some ⟨g, 0, none⟩) n cap ∧ base ≤ g ∧ g < w.heap.size ∧ n ≤ cap ∧ ∀ j, j < n → w.cell? ⟨g, j, none⟩ = xs[j]? := by
  rcases h.2 with ⟨_, h0⟩ | ⟨g, cap, cur, rfl, hb, hh, h1, _, h3, h4⟩
  · omega
  · refine ⟨g, cap, rfl, hb, ?_, h1, fun j hj => ?_⟩
    · rcases Nat.lt_or_ge g w.heap.size with h' | h'
      · exact h'
      · rw [Array.getElem?_eq_none h'] at hh; cases hh
    · have hc : w.cell? ⟨g, j, none⟩ = cur[j]? := by simp [World.cell?, hh]
      rw [hc, ← h4, List.getElem?_take]
      simp [hj]

section
variable {P : Program} {w : World}
/-- An append whose run is known. -/
theorem wp_append_run {o : Oper} {a : Act} {K : Act → World → Prop} {Q : Exit → Act → World → Prop} (s x : Operand) (t : TypeId)
    (ho : o.op = .call { callee := .builtin .append, args := #[s, x], argTypes := #[t, t] }) (vs vx v' : Value) (w' : World) (hs : a.eval s = vs) (hx : a.eval x = vx)
    (hr : (Builtin.append_ #[t, t] o.type #[vs, vx]).run P w = .ok v' w') (h : K (a.put o.dst v') w') : o.wp P a w K Q := by
  unfold Oper.wp execOp
  simp only [ho, resolve, invoke, builtin, Sem.run_bind, Sem.run_pure, Result.andThen_ok, List.map_toArray, List.map_cons, List.map_nil, hs, hx, hr]
  exact h
theorem wpList_append_run {ops : Array Oper} {rest : List Oper} {o : Oper} {a : Act} {Q : Exit → Act → World → Prop} (hgd : o.guard = none) (s x : Operand) (t : TypeId)
    (ho : o.op = .call { callee := .builtin .append, args := #[s, x], argTypes := #[t, t] }) (vs vx v' : Value) (w' : World) (hs : a.eval s = vs) (hx : a.eval x = vx)
    (hr : (Builtin.append_ #[t, t] o.type #[vs, vx]).run P w = .ok v' w') (h : wpList P ops Q rest (a.put o.dst v') w') : wpList P ops Q (o :: rest) a w :=
  wpList_plain hgd fun _ hK => wp_append_run s x t ho vs vx v' w' hs hx hr (hK _ _ h)
end

/-- One string appended to a row of the call's own. -/
theorem app_str (B n : Nat) (v : Value) (l : List ByteArray) (s : ByteArray) (w0 w : World) (hB : B = w0.heap.size) (hown : w.ownsRow B 9 1 v n (strV l)) (hb : Below B w0 w) (hn : n ≤ 100000) :
    ∃ g cap w', (Builtin.append_ #[24, 24] 24 #[v, .slice (some ⟨w.heap.size, 0, none⟩) 1 1]).run Yba.prog (w.alloc (.cells #[.string s] 9)) = .ok (.slice (some ⟨g, 0, none⟩) (n + 1) cap) w' ∧
      w'.ownsRow B 9 1 (.slice (some ⟨g, 0, none⟩) (n + 1) cap) (n + 1) (strV (l ++ [s])) ∧ Below B w0 w' := by
  obtain ⟨i9, hi9, hz9, hs9, hb9⟩ := info_parts info9
  obtain ⟨v', w', hr, ho, hg, _, _⟩ := run_append_own_at (P := Yba.prog) (w.alloc (.cells #[.string s] 9)) B 24 24 9 i9 _ 1 16 Yba.underlying24 hi9 hz9 hs9 hb9 rfl (by omega) v n (strV l) (hown.alloc _) ⟨w.heap.size, 0, none⟩ 1 1 [.string s] rfl
    (World.news_of_block (cs := #[.string s]) (t := 9) (fr := (0, 0)) (heap_alloc_new w _)) (by simp [Value.oneCell']) (by unfold maxLen; omega) (by omega) (by have := hb.size; simp; omega)
  obtain ⟨g, cap, rfl, _⟩ := owns_cell ho (by omega)
  refine ⟨g, cap, w', hr, by simpa [strV] using ho, ?_⟩
  refine (hb.alloc (by have := hb.size; omega) _).grown hg (by have := hb.size; simp; omega) fun k hk => ?_
  rcases hown.2 with ⟨rfl, _⟩ | ⟨g', c', _, rfl, hg', _⟩
  · cases hk
  · injection hk with hk; simp at hk; omega

set_option maxRecDepth 100000 in
set_option maxHeartbeats 800000 in
theorem raw_law (x : Option Addr) (n cap : Nat) (ss : List ByteArray) (ev : ByteArray) (k : Int) (w : World) (hss : ss.length = n) (hn : n ≤ 1024) (he : ev.size ≤ 4096) (k0 : 0 ≤ k) (k1 : k ≤ 255)
    (hx : ∀ j p, ss[j]? = some p → ∃ b off, x = some ⟨b, off, none⟩ ∧ b < w.heap.size ∧ w.cell? ⟨b, off + j, none⟩ = some (.string p)) (hs : ∀ p ∈ ss, p.size ≤ 9223372036854775807) :
    Calls Yba.prog 4 #[.slice x n cap, .string ev, .int .u8 k] w fun e w' => e = .returned (.bool true) ∧ Below w.heap.size w w' := by
  have n1 : ¬ (1024 : Int) < (n : Int) := by omega
  have e1 : ¬ (4096 : Int) < (ev.size : Int) := by omega
  have hmk : ∀ W : World, (Instr.makeSlice 24 (.int .i64 0) (.int .i64 ((n : Int) + 1))).run Yba.prog W = .ok (.slice (some ⟨W.heap.size, 0, none⟩) 0 (n + 1)) (W.alloc (.cells (madeCells #[.string ⟨#[]⟩] (n + 1)) 9)) := by
    intro W
    obtain ⟨i9, hi9, hz9, hs9, hb9⟩ := info_parts info9
    have := run_make (P := Yba.prog) W 24 9 i9 _ Yba.underlying24 hi9 hz9 .i64 .i64 0 ((n : Int) + 1) (by omega) (by omega) (by rw [hb9]; omega) (by omega)
    rw [show ((n : Int) + 1).toNat = n + 1 by omega] at this
    simpa [hs9, Value.cells] using this
  have HX := hid (And.intro hx (And.intro hs hss))
  clear hx hs hss
  go_enter Yba.func4, Yba.ntmps4
  go_wp2
  clear hmk
  go_loopw [7, 8] (fun v iv wr => ∃ i : Nat, i ≤ n ∧ iv = .int .i64 i ∧ wr.ownsRow w.heap.size 9 1 v i (strV (ss.take i)) ∧ Below w.heap.size w wr) (fun _ iv _ => n - (intOf iv).toNat)
  case atStart => exact ⟨0, Nat.zero_le _, rfl, World.ownsRow_made w _ (n + 1) (Nat.le_refl _) (by unfold maxLen; omega) (by simp [size_madeCells]), (Below.refl _ _).alloc (Nat.le_refl _) _⟩
  case round =>
    obtain ⟨i, hi, rfl, ho, hb⟩ := hrel
    have H := hid (And.intro ho hb)
    clear ho hb
    by_cases hlt : i < n
    · obtain ⟨p, hp⟩ : ∃ p, ss[i]? = some p := ⟨_, List.getElem?_eq_getElem (by rw [HX.out.2.2]; omega)⟩
      obtain ⟨b, off, hxe, hbl, hc⟩ := HX.out.1 i p hp
      subst hxe
      have hcr : wr.cell? ⟨b, off + i, none⟩ = some (.string p) := by rw [H.out.2.cell (p := ⟨b, off + i, none⟩) hbl]; exact hc
      obtain ⟨g, cp, w', hr, ho', hb'⟩ := app_str w.heap.size i u7 (ss.take i) p w wr rfl H.out.1 H.out.2 (by omega)
      rw [← take_snoc' ss i p hp] at ho'
      have H' := hid (And.intro ho' hb')
      have i1 : (i : Int) < (n : Int) := by omega
      clear hc hp ho' hb' hbl H
      go_wp2_with (at_builtin; refine wpList_append_run (by rfl) _ _ 24 (by rfl) u7 _ _ w' (by rfl) (by rfl) hr ?_)
      go_roundw
      case rel => exact ⟨i + 1, by omega, by go_num, H'.out⟩
      case measure => simp [intOf]; omega
    · have i1 : ¬ (i : Int) < (n : Int) := by omega
      obtain ⟨cut, hcut⟩ : ∃ cut : Nat, k % ((ev.size : Int) + 1) = cut := ⟨(k % ((ev.size : Int) + 1)).toNat, by have := Int.emod_nonneg k (show ((ev.size : Int) + 1) ≠ 0 by omega); omega⟩
      have hc1 : (cut : Int) < (ev.size : Int) + 1 := by rw [← hcut]; exact Int.emod_lt_of_pos k (by omega)
      have hc2 : (cut : Int) ≤ (ev.size : Int) := by omega
      have hc0 : (0 : Int) ≤ (cut : Int) := by omega
      have hin : i = n := by omega
      have ht : ss.take i = ss := by rw [List.take_of_length_le]; have := HX.out.2.2; omega
      obtain ⟨ho, hb⟩ := H.out
      rw [ht] at ho
      obtain ⟨g, cp, w', hr, ho', hb'⟩ := app_str w.heap.size i u7 ss (ev.extract 0 cut) w wr rfl ho hb (by omega)
      have H' := hid (And.intro ho' (And.intro hb' hin))
      clear ho hb ho' hb' ht hin H
      go_wp2_with (at_builtin; refine wpList_append_run (by rfl) _ _ 24 (by rfl) u7 _ _ w' (by rfl) (by rfl) hr ?_)
      clear hr
      obtain ⟨ho', hb', hin⟩ := H'.out
      have hlen : (ss ++ [ev.extract 0 cut]).length = i + 1 := by have := HX.out.2.2; simp; omega
      obtain ⟨g2, cp2, hv2, hg2, hgl, _, hrow⟩ := owns_cell ho' (by omega)
      injection hv2 with hv2 _ hcp2
      injection hv2 with hv2
      injection hv2 with hv2 _
      subst hv2
      have hcell : ∀ j p, (ss ++ [ev.extract 0 cut])[j]? = some p → w'.cell? ⟨g, j, none⟩ = some (.string p) := fun j p hj => by
        have hjl : j < i + 1 := by rw [← hlen]; exact (List.getElem?_eq_some_iff.1 hj).1
        rw [hrow j hjl, strV, List.getElem?_map, hj]; rfl
      have hsz : ∀ p ∈ ss ++ [ev.extract 0 cut], p.size ≤ 9223372036854775807 := fun p hp => by
        rcases List.mem_append.1 hp with h | h
        · exact HX.out.2.1 p h
        · simp at h; subst h; simp; omega
      have HC := hid (And.intro hcell (And.intro hsz (And.intro hlen (And.intro hb' (And.intro hgl hin)))))
      clear ho' hb' hin hlen hcp2 hg2 hgl hrow hcell hsz H'
      refine (matches_any g (i + 1) cp (.slice none 0 0) (ss ++ [ev.extract 0 cut]) ev _ HC.out.2.2.1 (by omega) (by have := HC.out.2.2.2.2.1; simp; omega)
        (fun j p hj => by rw [World.cell?_alloc_past _ _ _ HC.out.2.2.2.2.1]; exact HC.out.1 j p hj)).mono ?_
      rintro e w3 ⟨rfl, hb3⟩
      have hb3' : Below w'.heap.size w' w3 := ((Below.refl _ _).alloc (Nat.le_refl _) _).trans (hb3.mono (by simp))
      have HB3 := hid hb3'
      clear hb3 hb3'
      have HC3 : Hid (∀ j p, (ss ++ [ev.extract 0 cut])[j]? = some p → w3.cell? ⟨g, j, none⟩ = some (.string p)) := fun j p hj => by rw [HB3.out.cell (p := ⟨g, j, none⟩) HC.out.2.2.2.2.1]; exact HC.out.1 j p hj
      go_wp2_with fail
      refine (model_any g (i + 1) cp (ss ++ [ev.extract 0 cut]) ev _ HC.out.2.2.1 (by omega) HC3.out HC.out.2.1 (by omega)).mono ?_
      rintro e w4 ⟨rfl, q, rfl⟩
      have hin2 := HC.out.2.2.2.2.2
      subst hin2
      have HE : Hid (Below w.heap.size w w3) := HC.out.2.2.2.1.trans (HB3.out.mono HC.out.2.2.2.1.size)
      go_wp2_with fail
      go_loopw [12] (fun jv wz => ∃ j z : Nat, j ≤ i ∧ jv = .int .i64 j ∧ wz = w3.drewN z) (fun jv _ => i - (intOf jv).toNat)
      case atStart => exact ⟨0, q, Nat.zero_le _, rfl, rfl⟩
      case round =>
        obtain ⟨j, z, hj, rfl, rfl⟩ := hrel
        by_cases hjl : j < i
        · obtain ⟨p, hp⟩ : ∃ p, ss[j]? = some p := ⟨_, List.getElem?_eq_getElem (by rw [HX.out.2.2]; omega)⟩
          obtain ⟨b, off, hxe, hbl, hc⟩ := HX.out.1 j p hp
          subst hxe
          have hcr : w3.cell? ⟨b, off + j, none⟩ = some (.string p) := by rw [HE.out.cell (p := ⟨b, off + j, none⟩) hbl]; exact hc
          have hcg : w3.cell? ⟨g, j, none⟩ = some (.string p) := HC3.out j p (by rw [List.getElem?_append_left (by rw [HX.out.2.2]; omega)]; exact hp)
          have j1 : (j : Int) < (i : Int) := by omega
          have j2 : (j : Int) < (i : Int) + 1 := by omega
          have j0 : (0 : Int) ≤ (j : Int) := by omega
          clear hc hp hbl
          go_wp2
          go_quiet (fail)
          go_wp2
          go_roundw
          case rel => exact ⟨j + 1, z + nq, by omega, by go_num, rfl⟩
          case measure => simp [intOf]; omega
        · have j1 : ¬ (j : Int) < (i : Int) := by omega
          have hcg : w3.cell? ⟨g, i, none⟩ = some (.string (ev.extract 0 cut)) := HC3.out i _ (by rw [List.getElem?_append_right (by rw [HX.out.2.2]; omega), HX.out.2.2]; simp)
          have j2 : (i : Int) < (i : Int) + 1 := by omega
          have j0 : (0 : Int) ≤ (i : Int) := by omega
          go_wp2
          go_quiet (fail)
          go_wp2
          go_ret
          exact ⟨rfl, HE.out.os, HE.out.tape, HE.out.output, HE.out.size, HE.out.block⟩

set_option maxRecDepth 100000 in
set_option maxHeartbeats 400000 in
theorem raw_long (x : Option Addr) (n cap : Nat) (ev : ByteArray) (k : Int) (w : World) (h : (1024 : Int) < (n : Int)) :
    Calls Yba.prog 4 #[.slice x n cap, .string ev, .int .u8 k] w fun e w' => e = .returned (.bool true) ∧ Below w.heap.size w w' := by
  go_enter Yba.func4, Yba.ntmps4
  go_wp2
  go_ret
  exact ⟨rfl, Below.refl _ _⟩
set_option maxRecDepth 100000 in
set_option maxHeartbeats 400000 in
theorem raw_long2 (x : Option Addr) (n cap : Nat) (ev : ByteArray) (k : Int) (w : World) (h : ¬ (1024 : Int) < (n : Int)) (h2 : (4096 : Int) < (ev.size : Int)) :
    Calls Yba.prog 4 #[.slice x n cap, .string ev, .int .u8 k] w fun e w' => e = .returned (.bool true) ∧ Below w.heap.size w w' := by
  go_enter Yba.func4, Yba.ntmps4
  go_wp2
  go_ret
  exact ⟨rfl, Below.refl _ _⟩
end Go.Proofs.Ybulkbwse
