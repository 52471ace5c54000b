/- DERIVED. The walk of LawS3650CQueue. -/
import Derived.Test.YbulkbwokFmtQl
namespace Go.Proofs.YbulkbwokFmt
open Go.RowKit Go.Extern.Stop Go.Stop Go.Extern

set_option maxRecDepth 100000 in
set_option maxHeartbeats 1600000 in
theorem queue_law (F : Interp) (x : Option Addr) (len cap : Nat) (zs : Nat → Int) (w : World) (hF : F.answers w.tape) (hlen : len ≤ 300)
    (hx : ∀ j, j < len → ∃ b off, x = some ⟨b, off, none⟩ ∧ b < w.heap.size ∧ w.cell? ⟨b, off + j, none⟩ = some (.int .u8 (zs j))) (hz : ∀ j, 0 ≤ zs j ∧ zs j ≤ 255)
    (htab : Lib.TabBelow Ybaf.prog w.heap.size w tabName .u64 Lib.pow10Tab) :
    Calls Ybaf.prog 3 #[.slice x len cap] w fun e w' => e = .returned (.bool true) ∧ Below w.heap.size w w' := by
  have hl0 : ¬ (300 : Int) < (len : Int) := by omega
  have hmk : ∀ W : World, (Instr.makeSlice 27 (.int .i64 0) (.int .i64 len)).run Ybaf.prog W = .ok (.slice (some ⟨W.heap.size, 0, none⟩) 0 len) (W.alloc (.cells (madeCells #[.pointer none] len) 28)) := by
    intro W
    obtain ⟨i28, hi28, hz28, hs28, hb28⟩ := info_parts info28
    have := run_make (P := Ybaf.prog) W 27 28 i28 _ Ybaf.underlying27 hi28 hz28 .i64 .i64 0 len (by omega) (by omega) (by rw [hb28]; omega) (by omega)
    simpa [hs28, Value.cells] using this
  go_enter Ybaf.func3, Ybaf.ntmps3
  go_wp2_with fail
  refine (new_made _).mono ?_
  rintro e w1 ⟨S, m0, m6, m8, rfl, hS, hb1, hS1⟩
  have H := hid (And.intro hS (And.intro hb1 hS1))
  clear hS hb1 hS1
  go_wp2_with fail
  refine (newApp_made _ _ _).mono ?_
  rintro e w2 ⟨A, M, rfl, hA, hM, hb2, hA2, hM2⟩
  obtain ⟨hS, hb1, hS1⟩ := H.out
  clear H
  have I2 := inv_start (base := w.heap.size) hA2 hM2 (below_hp hb2 hS1) (Nat.le_trans hb1.size hb2.size)
  have B2 : Below w.heap.size w w2 := hb1.trans (hb2.mono hb1.size)
  have hA' : w.heap.size ≤ A := Nat.le_trans hb1.size hA
  have hM' : w.heap.size ≤ M := Nat.le_trans hb1.size hM
  have H := hid (And.intro I2 (And.intro B2 (And.intro hS (And.intro hA' hM'))))
  have HX := hid (And.intro hx (And.intro hz htab))
  clear hS hb1 hS1 hA hM hb2 hA2 hM2 I2 B2 hA' hM' hx hz htab
  go_wp2_with fail
  clear hmk
  go_loopw [5, 6, 7, 25] (fun qv tv lv iv wr => ∃ i total listed : Nat, ∃ Ns rv av pv nv aks ps ns, i ≤ len ∧ iv = .int .i64 i ∧ tv = .int .i64 total ∧ lv = .int .i64 listed ∧ QL w.heap.size S A M m0 m6 m8 w i total listed qv Ns rv av pv nv aks ps ns wr) (fun _ _ _ iv _ => len - (intOf iv).toNat)
  case atStart =>
    obtain ⟨I2, B2, hS, hA, hM⟩ := H.out
    refine ⟨0, 0, 0, [], .slice none 0 0, .slice none 0 0, .slice none 0 0, .slice none 0 0, [], [], [], Nat.zero_le _, rfl, rfl, rfl, ?_⟩
    have hb : Below w2.heap.size w2 (w2.alloc (.cells (madeCells #[.pointer none] len) 28)) := (Below.refl _ _).alloc (Nat.le_refl _) _
    refine ⟨I2.below hb, ?_, (apart_nil _).symm, (apart_nil _).symm, (apart_nil _).symm, B2.alloc B2.size _, by omega, by omega⟩
    exact World.ownsRow_made w2 _ len B2.size (by unfold maxLen; omega) (by simp [size_madeCells])
  case round =>
    obtain ⟨i, total, listed, Ns, rv, av, pv, nv, aks, ps, ns, hi, rfl, rfl, rfl, hQ0⟩ := hrel
    have HQ0 := hid hQ0
    clear hQ0
    by_cases hlt : i < len
    · have hQ := HQ0.out
      clear HQ0
      obtain ⟨b, off, hxe, hb, hcell⟩ := HX.out.1 i hlt
      obtain ⟨n, hn⟩ : ∃ n : Nat, zs i % 8 = n := ⟨(zs i % 8).toNat, by have := HX.out.2.1 i; omega⟩
      have hn7 : n ≤ 7 := by have := HX.out.2.1 i; omega
      have hz0 := (HX.out.2.1 i).1
      have hz1 := (HX.out.2.1 i).2
      have hc : wr.cell? ⟨b, off + i, none⟩ = some (.int .u8 (zs i)) := by rw [hQ.below.cell (p := ⟨b, off + i, none⟩) hb]; exact hcell
      subst hxe
      have ib0 : (0 : Int) ≤ (i : Int) := by omega
      have ib1 : (i : Int) < (len : Int) := by omega
      have hitoa := itoa_any i (by omega) wr (HX.out.2.2.on hQ.below).here
      have HQ := hid hQ
      have HI := hid hitoa
      clear hQ hcell hitoa
      go_wp2_with fail
      refine Calls.mono HI.out ?_
      rintro e w3 ⟨rfl, hb3⟩
      have HB := hid hb3
      clear hb3 HI hc
      go_wp2_with fail
      have hQ := HQ.out
      have hb3 := HB.out
      have I3 := hQ.inv.below hb3
      have hF3 : F.answers w3.tape := by rw [hb3.tape, hQ.below.tape]; exact hF
      clear hQ hb3
      refine (newRequest_any F A n _ _ hF3 (by omega)).mono ?_
      rintro e w4 ⟨rfl, mk4⟩
      have hQ := HQ.out
      have hb3 := HB.out
      obtain ⟨hI2, hB2, hS, hA, hM⟩ := H.out
      have I4 := I3.below mk4.below
      have q4 := below_owns mk4.below (below_owns hb3 hQ.qo)
      have hln := hQ.ln
      have hnt := hQ.nt
      have hnl := hQ.nl
      have hfr : ∀ e ∈ (entL Ns).toArray.toList, ∃ s, e.key = .string s ∧ (itoaB i == s) = false := by have := entL_free Ns; rw [hln] at this; exact this
      have hadd := add_full w.heap.size S A M w3.heap.size n m0 m6 m8 i total listed 0 0 (itoaB i) _ _ 0 rv av pv nv none (total : Int) 0 0 (total : Int) (total : Int) (entL Ns).toArray i _ aks ps ns _ w4 I4 mk4.reqAt I3.av_far (by omega) (by omega) (by omega) (by omega) (by omega) (by omega) (by omega) (by omega) (by omega) (by omega) hfr
      have hN : w.heap.size ≤ w3.heap.size := Nat.le_trans hQ.below.size hb3.size
      have B4 : Below w.heap.size w w4 := (hQ.below.trans (hb3.mono hQ.below.size)).trans (mk4.below.mono hN)
      have H4 := hid (And.intro I4 (And.intro mk4.reqAt (And.intro B4 (And.intro q4 hadd))))
      clear hQ hb3 hI2 hB2 I3 I4 q4 hfr hadd B4 hF3 mk4 HB
      go_wp2_with fail
      refine Calls.mono H4.out.2.2.2.2 ?_
      rintro e w5 ⟨rfl, rv', av', pv', nv', I5, R5, f5, lr, lp, lnn⟩
      obtain ⟨I4, R4, B4, q4, -⟩ := H4.out
      have hQ := HQ.out
      have B5 := step_below I4 hS hA hM hN B4 f5
      have q5 := row_kept I4 R4 q4 f5 hQ.qr hQ.qp hQ.qn
      have qr5 : Apart u5 rv' := (hQ.qr.symm.moved q4 (Nat.le_refl _) lr).symm
      have qp5 : Apart u5 pv' := (hQ.qp.symm.moved q4 (Nat.le_refl _) lp).symm
      have qn5 : Apart u5 nv' := (hQ.qn.symm.moved q4 (Nat.le_refl _) lnn).symm
      have hst : stOf 0 ((total : Int) + (n : Int)) 0 = 0 := by simp [stOf]
      rw [hst, ← hln, entL_snoc] at I5
      rw [hln] at I5
      clear I4 R4 B4 q4 H4 lr lp lnn hst f5 hQ hA hM hS
      obtain ⟨xa, ca, hva⟩ := owns_form I5.avo
      subst hva
      obtain ⟨xq, cq, hvq⟩ := owns_form q5
      subst hvq
      obtain ⟨xp, cp, hvp⟩ := owns_form I5.pvo
      subst hvp
      obtain ⟨xn, cn, hvn⟩ := owns_form I5.nvo
      subst hvn
      have r11 : w5.cell? ⟨w3.heap.size, 11, none⟩ = some (.int .i64 ((total : Int) + 1)) := by rw [cells_of R5.req]; rfl
      have r10 : w5.cell? ⟨w3.heap.size, 10, none⟩ = some (.slice (some ⟨w3.heap.size + 1, 0, none⟩) n n) := by rw [cells_of R5.req]; rfl
      have r12 : w5.cell? ⟨w3.heap.size, 12, none⟩ = some (.bool (decide (0 < n))) := by rw [cells_of R5.req]; rfl
      have a4 : w5.cell? ⟨A, 4, none⟩ = some (.slice xa (total + n) ca) := by rw [cells_of I5.app]; rfl
      have s11 : w5.cell? ⟨S, 11, none⟩ = some (.slice xp (listed + one n) cp) := by rw [cells_of I5.st]; rfl
      have s14 : w5.cell? ⟨S, 14, none⟩ = some (.slice xn (listed + one n) cn) := by rw [cells_of I5.st]; rfl
      have HI5 := hid (And.intro I5 (And.intro R5 (And.intro B5 (And.intro q5 (And.intro qr5 (And.intro qp5 qn5))))))
      clear I5 R5 B5 q5 qr5 qp5 qn5
      have hq28 := neq28
      have hq45 := neq45
      go_wp2_with fail
      go_loop [73] (fun t => ∃ j : Nat, j ≤ n ∧ t = .int .i64 j) (fun t => n - (intOf t).toNat)
      case atStart => exact ⟨0, Nat.zero_le _, rfl⟩
      case round =>
        obtain ⟨j, hj, rfl⟩ := hrel
        by_cases hjn : j < n
        · obtain ⟨I5, R5, -⟩ := HI5.out
          obtain ⟨ga, hga, hrowa⟩ := owns_at I5.avo (by omega)
          subst hga
          have e1 := hrowa (total + j) (by omega)
          have hal : aks.length = total := by have := I5.avo.1; simp [rowL] at this; omega
          rw [List.getElem?_append_right (by omega)] at e1
          rw [show total + j - aks.length = j by omega] at e1
          simp only [rowL, List.getElem?_map, List.getElem?_range hjn, Option.map_some, ptr] at e1
          have pj : w5.cell? ⟨w3.heap.size + 1, j, none⟩ = some (.pointer (some ⟨w3.heap.size + 3 + 2 * j, 0, none⟩)) := by rw [cells_of R5.pb, askRow_at _ _ _ _ hjn, if_pos hjn]; rfl
          have aj : w5.cell? ⟨w3.heap.size + 3 + 2 * j, 4, none⟩ = some (.int .i64 ((total : Int) + (j : Int) + 1)) := by rw [cells_of (R5.asks j hjn)]; rfl
          have j0 : (0 : Int) ≤ (total : Int) + (j : Int) := by omega
          have j1 : (total : Int) + (j : Int) < (total : Int) + (n : Int) := by omega
          clear I5 R5 hrowa hal
          go_wp2
          go_round
          case rel => exact ⟨j + 1, by omega, by go_num⟩
          case measure => simp [intOf]; omega
        · have HJ := hid hj
          clear hj
          obtain ⟨I5, R5, B5, q5, qr5, qp5, qn5⟩ := HI5.out
          clear HI5
          obtain ⟨i28, hi28, hz28, hs28, hb28⟩ := info_parts info28
          obtain ⟨qv6, w6, hr6, ho6, hg6, _, hat6⟩ := run_append_own_at (P := Ybaf.prog) (w5.alloc (.cells #[.pointer (some ⟨w3.heap.size, 0, none⟩)] 28)) w.heap.size 27 27 28 i28 _ 1 8 Ybaf.underlying27 hi28 hz28 hs28 hb28 rfl (by omega) (.slice xq i cq) i (Ns.map ptr) (q5.alloc _) ⟨w5.heap.size, 0, none⟩ 1 1 [ptr w3.heap.size] rfl
            (World.news_of_block (cs := #[ptr w3.heap.size]) (t := 28) (fr := (0, 0)) (heap_alloc_new w5 _)) (by simp [Value.oneCell', ptr]) (by unfold maxLen; omega) (by omega) (by have := I5.bas; simp; omega)
          obtain ⟨x6, c6, rfl⟩ := owns_form ho6
          have I6 := I5.grown q5 hg6 qr5 qp5 qn5
          have loc6 : Loc w5 (.slice xq i cq) (.slice x6 (i + 1) c6) := fun g hg => by
            rcases hat6 with e | e
            · left; rw [← e]; exact hg
            · right; rw [e] at hg; injection hg with hg; simp at hg; omega
          have B6 : Below w.heap.size w w6 := B5.trans ⟨hg6.os, hg6.tape, hg6.output, by have := hg6.size; simp at this; omega, fun k hk => by
            have hs5 := B5.size
            rw [hg6.block k (by simp; omega) (fun e => by have := owns_ge q5 e; omega), hp_alloc_lt (by omega)]⟩
          have QN : QL w.heap.size S A M m0 m6 m8 w (i + 1) (total + n) (listed + one n) (.slice x6 (i + 1) c6) (Ns ++ [w3.heap.size]) rv' (.slice xa (total + n) ca) (.slice xp (listed + one n) cp) (.slice xn (listed + one n) cn) (aks ++ rowL w3.heap.size n) (ps ++ onel n (ptr w3.heap.size)) (ns ++ onel n (ptr w3.heap.size)) w6 := by
            refine ⟨?_, ?_, qr5.moved I5.rvo (Nat.le_refl _) loc6, qp5.moved I5.pvo (Nat.le_refl _) loc6, qn5.moved I5.nvo (Nat.le_refl _) loc6, B6, by omega, ?_⟩
            · simpa using I6
            · simpa using ho6
            · unfold one; split <;> omega
          have hjn' : ¬ (j : Int) < (n : Int) := by omega
          by_cases hn0 : 0 < n
          · have e1n : one n = 1 := by simp [one, hn0]
            have e2n : onel n (ptr w3.heap.size) = [ptr w3.heap.size] := by simp [onel, hn0]
            have pc := owns_at I5.pvo (by omega)
            have nc := owns_at I5.nvo (by omega)
            have pl5 := I5.pvo.1
            have nl5 := I5.nvo.1
            rw [e1n, e2n] at pc nc pl5 nl5
            simp at pl5 nl5
            obtain ⟨gp, hgp, hrowp⟩ := pc
            obtain ⟨gn, hgn, hrown⟩ := nc
            subst hgp
            subst hgn
            have ep := hrowp listed (by omega)
            have en := hrown listed (by omega)
            rw [List.getElem?_append_right (by omega), show listed - ps.length = 0 by omega] at ep
            rw [List.getElem?_append_right (by omega), show listed - ns.length = 0 by omega] at en
            simp only [List.getElem?_cons_zero, ptr] at ep en
            rw [e1n] at s11 s14 QN
            have hd : decide (0 < n) = true := decide_eq_true hn0
            rw [hd] at r12
            have hn0' : (0 : Int) < (n : Int) := by omega
            have l0 : (0 : Int) ≤ (listed : Int) := by omega
            have l1 : (listed : Int) < (listed : Int) + 1 := by omega
            have HQN := hid QN
            clear I5 R5 B5 q5 qr5 qp5 qn5 ho6 hg6 hat6 I6 loc6 B6 QN hrowp hrown pl5 nl5 e1n e2n hd HQ
            go_wp2_with (at_builtin; refine wpList_append_run (by rfl) _ _ 27 (by rfl) (.slice xq i cq) _ _ w6 (by rfl) (by rfl) hr6 ?_)
            go_roundw
            case rel => exact ⟨i + 1, total + n, listed + 1, _, _, _, _, _, _, _, _, by omega, by go_num, by go_num, by go_num, HQN.out⟩
            case measure => simp [intOf]; omega
          · have hz : n = 0 := by omega
            have e1n : one n = 0 := by simp [one, hz]
            rw [e1n] at s11 s14 QN
            have hd : decide (0 < n) = false := decide_eq_false hn0
            rw [hd] at r12
            have hn0' : ¬ (0 : Int) < (n : Int) := by omega
            have HQN := hid QN
            clear I5 R5 B5 q5 qr5 qp5 qn5 ho6 hg6 hat6 I6 loc6 B6 QN e1n hd HQ hz
            go_wp2_with (at_builtin; refine wpList_append_run (by rfl) _ _ 27 (by rfl) (.slice xq i cq) _ _ w6 (by rfl) (by rfl) hr6 ?_)
            go_roundw
            case rel => exact ⟨i + 1, total + n, listed + 0, _, _, _, _, _, _, _, _, by omega, by go_num, by go_num, by go_num, HQN.out⟩
            case measure => simp [intOf]; omega
    · have hil : i = len := by omega
      have hQ := HQ0.out
      obtain ⟨xr, cr, hvr⟩ := owns_form hQ.inv.rvo
      subst hvr
      obtain ⟨xa, ca, hva⟩ := owns_form hQ.inv.avo
      subst hva
      obtain ⟨xq, cq, hvq⟩ := owns_form hQ.qo
      subst hvq
      obtain ⟨xp, cp, hvp⟩ := owns_form hQ.inv.pvo
      subst hvp
      obtain ⟨xn, cn, hvn⟩ := owns_form hQ.inv.nvo
      subst hvn
      subst hil
      have a2 := cells_of hQ.inv.app 2
      have a3 := cells_of hQ.inv.app 3
      have a4 := cells_of hQ.inv.app 4
      have a6 := cells_of hQ.inv.app 6
      have a7 := cells_of hQ.inv.app 7
      have s11 := cells_of hQ.inv.st 11
      have s13 := cells_of hQ.inv.st 13
      have s14 := cells_of hQ.inv.st 14
      have s15 := cells_of hQ.inv.st 15
      have hlm := run_len_map M i _ wr hQ.inv.map
      rw [show (entL Ns).toArray.size = i by rw [List.size_toArray, entL_length, hQ.ln]] at hlm
      simp [appCells, stCells] at a2 a3 a4 a6 a7 s11 s13 s14 s15
      have HQ := hid hQ
      clear hQ HQ0
      go_wp2_with fail
      clear a4 a7 s11 s13 s14 s15 hlm
      rename World => w9
      go_loopw [229] (fun t wz => ∃ j : Nat, j ≤ i ∧ t = .int .i64 j ∧ Below w9.heap.size w9 wz) (fun t _ => i - (intOf t).toNat)
      case atStart => exact ⟨0, Nat.zero_le _, rfl, Below.refl _ _⟩
      case round =>
        obtain ⟨j, hj, rfl, hbz0⟩ := hrel
        have HZ := hid hbz0
        clear hbz0
        by_cases hjn : j < i
        · have hQ := HQ.out
          have hbz := HZ.out
          clear HZ
          obtain ⟨gr, hgr, hrowr⟩ := owns_at hQ.inv.rvo (by omega)
          obtain ⟨gq, hgq, hrowq⟩ := owns_at hQ.qo (by omega)
          subst hgr
          subst hgq
          obtain ⟨N, hN⟩ : ∃ N, Ns[j]? = some N := ⟨_, List.getElem?_eq_getElem (by rw [hQ.ln]; exact hjn)⟩
          have er := hrowr j hjn
          have eq := hrowq j hjn
          rw [List.getElem?_map, hN] at er eq
          have hs : ∀ wy, Below w9.heap.size w9 wy → S44 A M gr gq i j N cr w9 wy := fun wy hb => s44_of hb hN hQ.inv.map a3 a6 er eq
          have htz : ∀ wy, Below w9.heap.size w9 wy → Lib.TabIs Ybaf.prog wy tabName .u64 Lib.pow10Tab := fun wy hb => (HX.out.2.2.on (hQ.below.trans (hb.mono hQ.below.size))).here
          have hb9 := hbz.drew
          have hi9 := itoa_any j (by omega) wr.drew (htz _ hb9)
          have h9 : S44 A M gr gq i j N cr w9 wr.drew := hs _ hb9
          have j0 : (0 : Int) ≤ (j : Int) := by omega
          have j1 : (j : Int) < (i : Int) := by omega
          obtain ⟨-, c3, cr3, cq3, c6, clk⟩ := hs _ hbz
          have hq28 := neq28
          have HS := hid hs
          have HI9 := hid hi9
          have HB := hid hbz
          clear hQ hs htz hi9 h9 hb9 hbz hrowr hrowq er eq HQ H HX a2 a3 a6
          go_wp2_with fail
          go_region_held3 (fun w' => w'.cell? ⟨A, 3, none⟩ = some (.slice (some ⟨gr, 0, none⟩) i cr) ∧ w'.cell? ⟨gr, j, none⟩ = some (.pointer (some ⟨N, 0, none⟩)) ∧ w'.cell? ⟨gq, j, none⟩ = some (.pointer (some ⟨N, 0, none⟩)) ∧
            w'.cell? ⟨A, 6, none⟩ = some (.map (some M)) ∧ (Instr.lookup 42 (.map (some M)) (.string (itoaB j)) false).run Ybaf.prog w' = .ok (.pointer (some ⟨N, 0, none⟩)) w')
            (first | exact (HS.out _ HB.out.drew).2 | exact (HS.out _ (HB.out.drew.trans (hb10.mono (by have := HB.out.size; simpa using this)))).2)
            ((go_at_call 8; refine Calls.mono HI9.out ?_; rintro e w10 ⟨rfl, hb10⟩))
          go_wp2
          go_roundw
          case rel => exact ⟨j + 1, by omega, by go_num, HB.out.drew.trans (hb10.mono (by have := HB.out.size; simpa using this))⟩
          case measure => simp [intOf]; omega
        · have hQ := HQ.out
          have hbz := HZ.out
          have a2z : wr.cell? ⟨A, 2, none⟩ = some (.int .i64 0) := by rw [hbz.cell (World.block_lt_of_cell? _ _ a2)]; exact a2
          have hj1 : ¬ (j : Int) < (i : Int) := by omega
          have hfin : Below w.heap.size w wr := hQ.below.trans (hbz.mono hQ.below.size)
          have HFin := hid hfin
          clear hQ hbz hfin HQ HZ H HX a2 a3 a6
          go_wp2
          go_ret
          exact ⟨rfl, HFin.out⟩
end Go.Proofs.YbulkbwokFmt
