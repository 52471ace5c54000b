/- DERIVED. The law's walk. -/
import Derived.Test.YbulkbwokL
namespace Go.Proofs.Ybulkbwok
open Go.RowKit Go.MuLone
attribute [local go_sem ↓] Go.wp_at_zero Go.wp_at_succ

set_option maxRecDepth 100000 in
set_option maxHeartbeats 40000000 in
theorem law_any (at0 : Int) (X : Option Addr) (n cap : Nat) (idf : Nat → Int) (A : Nat → Option Addr) (L C : Nat → Nat) (lst : Nat → Nat) (tc tj : Nat → Nat → Nat) (tg : Nat → Nat → Bool) (w : World) (hn : n ≤ 300) (h : Inp X n idf A L C lst tc tj tg w) :
    Calls Yba.prog 3 #[.int .i64 at0, .slice X n cap] w fun e w' => e = .returned (.bool true) ∧ Below w.heap.size w w' := by
  have HX := hid h
  clear h
  have n3 : ¬ (300 : Int) < n := by omega
  go_enter Yba.func3, Yba.ntmps3
  go_wp2
  go_loop [5] (fun i => ∃ k : Nat, k ≤ n ∧ i = .int .i64 k ∧ ∀ i, i < k → L i ≤ 1024) (fun i => n - (intOf i).toNat)
  case atStart => exact ⟨0, Nat.zero_le _, rfl, fun i hi => by omega⟩
  case round =>
    obtain ⟨k, hk, rfl, hL⟩ := hrel
    have HL := hid hL
    clear hL
    by_cases hlt : k < n
    · as_aux_lemma =>
        have k1 : (k : Int) < (n : Int) := by omega
        have k0 : (0 : Int) ≤ (k : Int) := by omega
        obtain ⟨b, off, rfl, hb, c0, c1, c2⟩ := HX.out.outer k hlt
        clear c0 c2
        by_cases hlong : (1024 : Int) < (L k : Int)
        · go_wp2
          go_ret
          exact ⟨rfl, Below.refl _ _⟩
        · go_wp2
          go_round
          case rel => exact ⟨k + 1, by omega, by go_num, fun i hi => by
            by_cases e : i = k
            · subst e; omega
            · exact HL.out i (by omega)⟩
          case measure => simp [intOf]; omega
    · have k1 : ¬ (k : Int) < (n : Int) := by omega
      have hkn : k = n := by omega
      subst hkn
      have bI : (w.alloc (.cells idCells 26)).heap[w.heap.size]? = some (.cells idCells 26) := Go.Deep.blk_alloc_new _ _
      have B0 : Below w.heap.size w (w.alloc (.cells idCells 26)) := (Below.refl _ _).alloc (Nat.le_refl _) _
      have s0 : (w.alloc (.cells idCells 26)).heap.size = w.heap.size + 1 := by simp
      generalize hw0 : w.alloc (.cells idCells 26) = w0 at *
      unfold idCells at hw0
      generalize hIB : w.heap.size = IB at *
      go_wp2_with fail
      refine (newWatch_any at0 w0).mono ?_
      rintro e w1 ⟨rfl, hI, hb1, hs1⟩
      rw [s0] at hI hb1 hs1 ⊢
      have bI1 : w1.heap[IB]? = some (.cells idCells 26) := (hb1.block IB (by omega)).trans bI
      have hB1 : Below IB w w1 := B0.trans (hb1.mono (by omega))
      have hWF := WF.start hI hs1 bI1 rfl
      have hB2 := hB1.alloc (by omega) (.cells #[.pointer (some ⟨IB + 1 + 1, 0, none⟩)] 27)
      clear hI hb1 bI bI1 hB1 B0 hw0 s0
      generalize hw2 : w1.alloc (.cells #[.pointer (some ⟨IB + 1 + 1, 0, none⟩)] 27) = w2 at *
      have H := hid (And.intro hWF hB2)
      clear hWF hB2
      go_wp2
      clear hw2
      have hNp : 0 < IB + 1 := by omega
      have hIN : IB + 1 - 1 = IB := by omega
      generalize hNN : IB + 1 = N at *
      go_loopw [8] (fun cv wr => ∃ c : Nat, c ≤ 5 ∧ cv = .int .i64 c ∧ WF N at0 (4 * c) wr ∧ Below IB w wr) (fun cv _ => 5 - (intOf cv).toNat)
      case atStart => exact ⟨0, Nat.zero_le _, rfl, H.out.1, H.out.2⟩
      case round =>
        obtain ⟨c, hc5, rfl, I, hb⟩ := hrel
        clear H
        by_cases hlt : c < 5
        · as_aux_lemma =>
            have c5 : (c : Int) < 5 := by omega
            have c0 : (0 : Int) ≤ c := by omega
            have H := hid (And.intro I hb)
            clear I hb
            go_wp2
            rename World => w9
            go_loopw [9] (fun jv wr => ∃ j : Nat, j ≤ 4 ∧ jv = .int .i64 j ∧ WF N at0 (4 * c + j) wr ∧ Below IB w wr) (fun jv _ => 4 - (intOf jv).toNat)
            case atStart => exact ⟨0, Nat.zero_le _, rfl, H.out.1, H.out.2⟩
            case round =>
              obtain ⟨j, hj4, rfl, I, hb⟩ := hrel
              clear H
              by_cases hjt : j < 4
              · have j4 : (j : Int) < 4 := by omega
                have j0 : (0 : Int) ≤ j := by omega
                have hs := I.size
                have ci : wr.cell? ⟨IB, j, none⟩ = some (.string (ids j)) := by
                  have := I.idb
                  rw [hIN] at this
                  simp only [World.cell?, this]
                  exact idCells_get hjt
                obtain ⟨o, hput, I2⟩ := I.put hNp hlt hjt #[.int .u8 c, .string (ids j)]
                have l1 : N + 8 < wr.heap.size := by omega
                have l2 : N + 1 < wr.heap.size := by omega
                have bV := I.var
                have rW := I.row
                have e1 : (wr.alloc (.cells #[.int .u8 c, .string (ids j)] 31)).heap.size = chB N c j := by simp [hs, chB]
                have e2 : ((wr.alloc (.cells #[.int .u8 c, .string (ids j)] 31)).alloc (.chan 0 #[] false 0 0 false)).heap.size = slB N c j := by simp [hs, slB]
                have b3V : (wr.alloc (.cells #[.int .u8 c, .string (ids j)] 31)).heap[N + 8]? = _ := (hp_alloc_lt l1).trans bV
                have b3T : (wr.alloc (.cells #[.int .u8 c, .string (ids j)] 31)).heap[wr.heap.size]? = some (.cells #[.int .u8 c, .string (ids j)] 31) := Go.Deep.blk_alloc_new _ _
                have r3 := rW.alloc (.cells #[.int .u8 c, .string (ids j)] 31)
                have hb3 := hb.alloc (by omega) (.cells #[.int .u8 c, .string (ids j)] 31)
                generalize hw3 : wr.alloc (.cells #[.int .u8 c, .string (ids j)] 31) = w3 at *
                have b4V : (w3.alloc (.chan 0 #[] false 0 0 false)).heap[N + 8]? = _ := (hp_alloc_lt (lt_of_some b3V)).trans b3V
                have b4T : (w3.alloc (.chan 0 #[] false 0 0 false)).heap[wr.heap.size]? = _ := (hp_alloc_lt (lt_of_some b3T)).trans b3T
                have r4 := r3.alloc (.chan 0 #[] false 0 0 false)
                have hb4 := hb3.alloc (by have := hb.size; have := lt_of_some b3T; omega) (.chan 0 #[] false 0 0 false)
                generalize hw4 : w3.alloc (.chan 0 #[] false 0 0 false) = w4 at *
                have b5V : (w4.alloc (.cells #[.chan (some (chB N c j))] 32)).heap[N + 8]? = _ := (hp_alloc_lt (lt_of_some b4V)).trans b4V
                have b5T : (w4.alloc (.cells #[.chan (some (chB N c j))] 32)).heap[wr.heap.size]? = _ := (hp_alloc_lt (lt_of_some b4T)).trans b4T
                have r5 := r4.alloc (.cells #[.chan (some (chB N c j))] 32)
                have hb5 := hb4.alloc (by have := hb.size; have := lt_of_some b4T; omega) (.cells #[.chan (some (chB N c j))] 32)
                generalize hw5 : w4.alloc (.cells #[.chan (some (chB N c j))] 32) = w5 at *
                generalize hY : wr.heap.size = Y at *
                have hmc3 : (Instr.makeChan 32 (.int .i64 0)).run Yba.prog w3.drew = .ok (.chan (some (chB N c j))) w4.drew := by
                  rw [makeChan_any w3.drew, ← hw4, ← e1]
                  rfl
                have v3 : w3.cell? ⟨N + 8, 0, none⟩ = some (.pointer (some ⟨N + 1, 0, none⟩)) := by simp [World.cell?, b3V]
                have v4 : w4.cell? ⟨N + 8, 0, none⟩ = some (.pointer (some ⟨N + 1, 0, none⟩)) := by simp [World.cell?, b4V]
                have v5 : w5.cell? ⟨N + 8, 0, none⟩ = some (.pointer (some ⟨N + 1, 0, none⟩)) := by simp [World.cell?, b5V]
                have m3 : w3.cell? ⟨N + 1, 21, none⟩ = some (.map (some N)) := r3.cell (by omega)
                have m4 : w4.cell? ⟨N + 1, 21, none⟩ = some (.map (some N)) := r4.cell (by omega)
                have m5 : w5.cell? ⟨N + 1, 21, none⟩ = some (.map (some N)) := r5.cell (by omega)
                have t3 : w3.cell? ⟨Y, 0, none⟩ = some (.int .u8 c) := by simp [World.cell?, b3T]
                have t4 : w4.cell? ⟨Y, 0, none⟩ = some (.int .u8 c) := by simp [World.cell?, b4T]
                have t5 : w5.cell? ⟨Y, 0, none⟩ = some (.int .u8 c) := by simp [World.cell?, b5T]
                have q3 : w3.cell? ⟨Y, 1, none⟩ = some (.string (ids j)) := by simp [World.cell?, b3T]
                have q4 : w4.cell? ⟨Y, 1, none⟩ = some (.string (ids j)) := by simp [World.cell?, b4T]
                have q5 : w5.cell? ⟨Y, 1, none⟩ = some (.string (ids j)) := by simp [World.cell?, b5T]
                have hb6 : Below IB w (setB w5.drew N o) := hb5.trans ⟨rfl, rfl, rfl, by rw [setB_size]; exact Nat.le_refl _, fun k hk => hp_setB_ne (w := w5.drew) (by omega)⟩
                have H := hid (And.intro hb6 I2)
                clear I hb I2 hs bV rW b3V b3T b4V b4T b5V b5T r3 r4 r5 hb3 hb4 hb5 hb6 l1 l2
                go_wp2
                go_region
                go_wp2
                go_roundw
                case rel => exact ⟨j + 1, by omega, by go_num, H.out.2, H.out.1⟩
                case measure => simp [intOf]; omega
              · have j4 : ¬ (j : Int) < 4 := by omega
                have hj : j = 4 := by omega
                subst hj
                have H := hid (And.intro I hb)
                clear I hb
                go_wp2
                go_roundw
                case rel => exact ⟨c + 1, by omega, by go_num, H.out.1, H.out.2⟩
                case measure => simp [intOf]; omega
        · have c5 : ¬ (c : Int) < 5 := by omega
          have hc : c = 5 := by omega
          subst hc
          have hdone := I.done
          have bV := I.var
          have bI := I.idb
          have hs := I.size
          rw [hIN] at bI
          have H := hid (And.intro hdone (And.intro hb (And.intro bV (And.intro bI hs))))
          clear I hb hdone bV bI hs
          have hmk1 := make50 k hn wr
          have r1 := made7 k wr idf (fun _ => 0) L (fun q c => lsb (lst q) c)
          have b1 : Below wr.heap.size wr (wr.alloc (.cells (madeCells #[.int .i64 0, .slice none 0 0, .bool false, .bool false, .bool false, .bool false, .bool false] (k * 7)) 57)) := (Below.refl _ _).alloc (Nat.le_refl _) _
          have s1 : (wr.alloc (.cells (madeCells #[.int .i64 0, .slice none 0 0, .bool false, .bool false, .bool false, .bool false, .bool false] (k * 7)) 57)).heap.size = wr.heap.size + 1 := by simp
          generalize hw3 : wr.alloc (.cells (madeCells #[.int .i64 0, .slice none 0 0, .bool false, .bool false, .bool false, .bool false, .bool false] (k * 7)) 57) = w3 at *
          have hmk2 := run_make_row' (P := Yba.prog) 47 34 (.slice none 0 0) 24 Yba.underlying47 info34 rfl .i64 .i64 k (by omega) (by omega) w3
          have r2 := World.rowIs_made w3 (.slice none 0 0) k 34
          have b2 : Below w3.heap.size w3 (w3.alloc (.cells (madeCells #[.slice none 0 0] k) 34)) := (Below.refl _ _).alloc (Nat.le_refl _) _
          generalize hw4 : w3.alloc (.cells (madeCells #[.slice none 0 0] k) 34) = w4 at *
          have b12 : Below wr.heap.size wr w4 := b1.trans (b2.mono (by omega))
          generalize hCB : wr.heap.size = CB at *
          rw [s1] at hmk2 r2 b2
          have hLB : LB N CB (CB + 1) k at0 idf L (fun q c => lsb (lst q) c) (fun q i => (tc q i % 5, tj q i % 4, tg q i)) (fun _ => 0) (fun _ => 0) 0 w4 := by
            obtain ⟨hdone, hb, bV, bI, hs⟩ := H.out
            rw [← hIN] at bI
            exact ⟨hdone.same fun b _ _ hlt => b12.block b (by omega), (b12.block _ (by omega)).trans bV, (b12.block _ (by omega)).trans bI, r1.of_block (b2.block _ (by omega)), r2.congr fun i hi => by simp, fun q hq => by omega, fun q hq => by omega, fun q hq => by omega, fun q hq => by omega, fun q q' hq => by omega, fun q q' hq => by omega, by omega, by omega⟩
          have hB4 : Below IB w w4 := H.out.2.1.trans (b12.mono (by have := H.out.2.2.2.2; omega))
          have H2 := hid (And.intro hLB hB4)
          clear hLB hB4 r1 r2 b1 b2 b12 s1 H
          go_wp2
          clear hmk1 hmk2
          rename World => w9
          go_loopw [13] (fun kv wz => ∃ (q : Nat) (T O : Nat → Nat), q ≤ k ∧ kv = .int .i64 q ∧ LB N CB (CB + 1) k at0 idf L (fun q c => lsb (lst q) c) (fun q i => (tc q i % 5, tj q i % 4, tg q i)) T O q wz ∧ Below IB w wz) (fun kv _ => k - (intOf kv).toNat)
          case atStart => exact ⟨0, _, _, Nat.zero_le _, rfl, H2.out.1, H2.out.2⟩
          case round =>
            obtain ⟨q, T, O, hq, rfl, I, hb⟩ := hrel
            clear H2
            rename World => wq
            by_cases hlt : q < k
            · skip
              have q1 : (q : Int) < (k : Int) := by omega
              have q0 : (0 : Int) ≤ (q : Int) := by omega
              obtain ⟨b, off, rfl, hbl, c0, c1, c2⟩ := HX.out.outer q hlt
              have d0 : wq.cell? ⟨b, off + q * 3, none⟩ = some (.int .i64 (idf q)) := by rw [hb.cell (p := ⟨b, off + q * 3, none⟩) (by show b < IB; omega)]; exact c0
              have d1 : wq.cell? ⟨b, off + q * 3 + 1, none⟩ = some (.slice (A q) (L q) (C q)) := by rw [hb.cell (p := ⟨b, off + q * 3 + 1, none⟩) (by show b < IB; omega)]; exact c1
              have d2 : wq.cell? ⟨b, off + q * 3 + 2, none⟩ = some (.int .u8 (lst q)) := by rw [hb.cell (p := ⟨b, off + q * 3 + 2, none⟩) (by show b < IB; omega)]; exact c2
              have hLq := HL.out q hlt
              have hlq := HX.out.lstb q hlt
              have hsz : N + 69 ≤ wq.heap.size := by have := I.cbB; have := I.ch.lt; omega
              have bS : (wq.alloc (.cells #[.int .i64 (idf q), .slice (A q) (L q) (C q), .int .u8 (lst q)] 25)).heap[wq.heap.size]? = some (.cells #[.int .i64 (idf q), .slice (A q) (L q) (C q), .int .u8 (lst q)] 25) := Go.Deep.blk_alloc_new _ _
              have B5 : Below wq.heap.size wq (wq.alloc (.cells #[.int .i64 (idf q), .slice (A q) (L q) (C q), .int .u8 (lst q)] 25)) := (Below.refl _ _).alloc (Nat.le_refl _) _
              have s5 : (wq.alloc (.cells #[.int .i64 (idf q), .slice (A q) (L q) (C q), .int .u8 (lst q)] 25)).heap.size = wq.heap.size + 1 := by simp
              generalize hw5 : wq.alloc (.cells #[.int .i64 (idf q), .slice (A q) (L q) (C q), .int .u8 (lst q)] 25) = w5 at *
              have hm6 := make34 (L q) hLq w5
              have r6 := made3 (L q) w5 (fun i => (tc q i % 5, tj q i % 4, tg q i))
              have bS6 : (w5.alloc (.cells (madeCells #[.int .u8 0, .string ⟨#[]⟩, .bool false] (L q * 3)) 54)).heap[wq.heap.size]? = _ := (hp_alloc_lt (lt_of_some bS)).trans bS
              have B6 : Below wq.heap.size wq (w5.alloc (.cells (madeCells #[.int .u8 0, .string ⟨#[]⟩, .bool false] (L q * 3)) 54)) := B5.alloc (by omega) _
              have s6 : (w5.alloc (.cells (madeCells #[.int .u8 0, .string ⟨#[]⟩, .bool false] (L q * 3)) 54)).heap.size = wq.heap.size + 2 := by simp [s5]
              generalize hw6 : w5.alloc (.cells (madeCells #[.int .u8 0, .string ⟨#[]⟩, .bool false] (L q * 3)) 54) = w6 at *
              have hm7 := make34 (L q) hLq w6
              have r7 := made3 (L q) w6 (fun i => (tc q i % 5, tj q i % 4, tg q i))
              have r67 := r6.alloc (.cells (madeCells #[.int .u8 0, .string ⟨#[]⟩, .bool false] (L q * 3)) 54)
              have bS7 : (w6.alloc (.cells (madeCells #[.int .u8 0, .string ⟨#[]⟩, .bool false] (L q * 3)) 54)).heap[wq.heap.size]? = _ := (hp_alloc_lt (lt_of_some bS6)).trans bS6
              have B7 : Below wq.heap.size wq (w6.alloc (.cells (madeCells #[.int .u8 0, .string ⟨#[]⟩, .bool false] (L q * 3)) 54)) := B6.alloc (by omega) _
              have s7 : (w6.alloc (.cells (madeCells #[.int .u8 0, .string ⟨#[]⟩, .bool false] (L q * 3)) 54)).heap.size = wq.heap.size + 3 := by simp [s6]
              generalize hw7 : w6.alloc (.cells (madeCells #[.int .u8 0, .string ⟨#[]⟩, .bool false] (L q * 3)) 54) = w7 at *
              generalize hZ : wq.heap.size = Z at *
              rw [s5] at hm6 r6 r67
              rw [s6] at hm7 r7
              have x5 : w5.cell? ⟨Z, 1, none⟩ = some (.slice (A q) (L q) (C q)) := by simp [World.cell?, bS]
              have x6 : w6.cell? ⟨Z, 1, none⟩ = some (.slice (A q) (L q) (C q)) := by simp [World.cell?, bS6]
              have x7 : w7.cell? ⟨Z, 1, none⟩ = some (.slice (A q) (L q) (C q)) := by simp [World.cell?, bS7]
              have HI := hid (And.intro I hb)
              have H := hid (And.intro B7 (And.intro s7 (And.intro bS7 (And.intro r67 r7))))
              clear I hb c0 c1 c2 bS bS6 bS7 B5 B6 B7 s5 s6 s7 r6 r7 r67
              go_wp2
              clear hw5 hw6 hw7 hm6 hm7 d0 d1 d2 x5 x6 x7
              go_loopw [17] (fun iv wz => ∃ i : Nat, i ≤ L q ∧ iv = .int .i64 i ∧ Below Z wq wz ∧ Z + 3 ≤ wz.heap.size ∧ wz.heap[Z]? = some (.cells #[.int .i64 (idf q), .slice (A q) (L q) (C q), .int .u8 (lst q)] 25) ∧ wz.rowIs (Z + 1) 54 (L q * 3) (pF i (fun i => (tc q i % 5, tj q i % 4, tg q i))) ∧ wz.rowIs (Z + 2) 54 (L q * 3) (pF i (fun i => (tc q i % 5, tj q i % 4, tg q i)))) (fun iv _ => L q - (intOf iv).toNat)
              case atStart =>
                obtain ⟨B7, s7, bS7, r67, r7⟩ := H.out
                exact ⟨0, Nat.zero_le _, rfl, B7, by omega, bS7, r67, r7⟩
              case round =>
                obtain ⟨i, hi, rfl, B8, hs8, bS, rT, rO⟩ := hrel
                clear H
                have x1 : wr.cell? ⟨Z, 1, none⟩ = some (.slice (A q) (L q) (C q)) := by simp [World.cell?, bS]
                by_cases hil : i < L q
                · skip
                  have i1 : (i : Int) < (L q : Int) := by omega
                  have i0 : (0 : Int) ≤ (i : Int) := by omega
                  obtain ⟨ba, oa, hA, hla, a0, a1, a2⟩ := HX.out.inner q hlt i hil
                  obtain ⟨tb1, tb2⟩ := HX.out.tb q hlt i hil
                  have BW : Below IB w wr := HI.out.2.trans (B8.mono (by omega))
                  have u0 : wr.cell? ⟨ba, oa + i * 3, none⟩ = some (.int .u8 (tc q i)) := by rw [BW.cell (p := ⟨ba, oa + i * 3, none⟩) (by show ba < IB; omega)]; exact a0
                  have u1 : wr.cell? ⟨ba, oa + i * 3 + 1, none⟩ = some (.int .u8 (tj q i)) := by rw [BW.cell (p := ⟨ba, oa + i * 3 + 1, none⟩) (by show ba < IB; omega)]; exact a1
                  have u2 : wr.cell? ⟨ba, oa + i * 3 + 2, none⟩ = some (.bool (tg q i)) := by rw [BW.cell (p := ⟨ba, oa + i * 3 + 2, none⟩) (by show ba < IB; omega)]; exact a2
                  have bIr : wr.heap[IB]? = some (.cells idCells 26) := by
                    have := HI.out.1.idb
                    rw [hIN] at this
                    exact (B8.block _ (by omega)).trans this
                  rw [hA] at x1
                  generalize hc5 : tc q i % 5 = c at *
                  generalize hj4 : tj q i % 4 = j at *
                  have hc : c < 5 := by omega
                  have hj : j < 4 := by omega
                  have e5 : (tc q i : Int) % 5 = (c : Int) := by omega
                  have e5' : (tc q i : Int).tmod 5 = (c : Int) := by rw [Int.tmod_eq_emod_of_nonneg (by omega)]; exact e5
                  have e4 : (tj q i : Int) % 4 = (j : Int) := by omega
                  have e4' : (tj q i : Int).tmod 4 = (j : Int) := by rw [Int.tmod_eq_emod_of_nonneg (by omega)]; exact e4
                  have j4 : (j : Int) < 4 := by omega
                  have j0 : (0 : Int) ≤ j := by omega
                  have bX : (wr.alloc (.cells #[.int .u8 (tc q i), .int .u8 (tj q i), .bool (tg q i)] 52)).heap[wr.heap.size]? = some (.cells #[.int .u8 (tc q i), .int .u8 (tj q i), .bool (tg q i)] 52) := Go.Deep.blk_alloc_new _ _
                  have bI2 : (wr.alloc (.cells #[.int .u8 (tc q i), .int .u8 (tj q i), .bool (tg q i)] 52)).heap[IB]? = _ := (hp_alloc_lt (lt_of_some bIr)).trans bIr
                  have bS2 : (wr.alloc (.cells #[.int .u8 (tc q i), .int .u8 (tj q i), .bool (tg q i)] 52)).heap[Z]? = _ := (hp_alloc_lt (lt_of_some bS)).trans bS
                  have rT2 := rT.alloc (.cells #[.int .u8 (tc q i), .int .u8 (tj q i), .bool (tg q i)] 52)
                  have rO2 := rO.alloc (.cells #[.int .u8 (tc q i), .int .u8 (tj q i), .bool (tg q i)] 52)
                  have B9 := B8.alloc (by omega) (.cells #[.int .u8 (tc q i), .int .u8 (tj q i), .bool (tg q i)] 52)
                  have s9 : (wr.alloc (.cells #[.int .u8 (tc q i), .int .u8 (tj q i), .bool (tg q i)] 52)).heap.size = wr.heap.size + 1 := by simp
                  generalize hw10 : wr.alloc (.cells #[.int .u8 (tc q i), .int .u8 (tj q i), .bool (tg q i)] 52) = w10 at *
                  have bV : (w10.alloc (.cells #[.int .u8 c, .string (ids j), .bool (tg q i)] 54)).heap[w10.heap.size]? = some (.cells #[.int .u8 c, .string (ids j), .bool (tg q i)] 54) := Go.Deep.blk_alloc_new _ _
                  have bS3 : (w10.alloc (.cells #[.int .u8 c, .string (ids j), .bool (tg q i)] 54)).heap[Z]? = _ := (hp_alloc_lt (lt_of_some bS2)).trans bS2
                  have rT3 := rT2.alloc (.cells #[.int .u8 c, .string (ids j), .bool (tg q i)] 54)
                  have rO3 := rO2.alloc (.cells #[.int .u8 c, .string (ids j), .bool (tg q i)] 54)
                  have B10 := B9.alloc (by omega) (.cells #[.int .u8 c, .string (ids j), .bool (tg q i)] 54)
                  have s10 : (w10.alloc (.cells #[.int .u8 c, .string (ids j), .bool (tg q i)] 54)).heap.size = wr.heap.size + 2 := by simp [s9]
                  generalize hw11 : w10.alloc (.cells #[.int .u8 c, .string (ids j), .bool (tg q i)] 54) = w11 at *
                  generalize hY : wr.heap.size = Y at *
                  rw [s9] at bV
                  have y0 : w10.cell? ⟨Y, 0, none⟩ = some (.int .u8 (tc q i)) := by simp [World.cell?, bX]
                  have y1 : w10.cell? ⟨Y, 1, none⟩ = some (.int .u8 (tj q i)) := by simp [World.cell?, bX]
                  have y2 : w10.cell? ⟨Y, 2, none⟩ = some (.bool (tg q i)) := by simp [World.cell?, bX]
                  have ci : w10.cell? ⟨IB, j, none⟩ = some (.string (ids j)) := by
                    simp only [World.cell?, bI2]
                    exact idCells_get hj
                  have lI : IB < Y + 1 := by omega
                  have lI2 : IB < w10.heap.size := by omega
                  have lY2 : Y < w10.heap.size := by omega
                  have v0 : w11.cell? ⟨Y + 1, 0, none⟩ = some (.int .u8 c) := by simp [World.cell?, bV]
                  have v1 : w11.cell? ⟨Y + 1, 1, none⟩ = some (.string (ids j)) := by simp [World.cell?, bV]
                  have v2 : w11.cell? ⟨Y + 1, 2, none⟩ = some (.bool (tg q i)) := by simp [World.cell?, bV]
                  have tc0 := rT3.cell (i := i * 3) (by omega)
                  have tc1 := rT3.cell (i := i * 3 + 1) (by omega)
                  have tc2 := rT3.cell (i := i * 3 + 2) (by omega)
                  have tf0 := rT3.frozen (i * 3)
                  have tf1 := rT3.frozen (i * 3 + 1)
                  have tf2 := rT3.frozen (i * 3 + 2)
                  have oc0 := rO3.cell (i := i * 3) (by omega)
                  have oc1 := rO3.cell (i := i * 3 + 1) (by omega)
                  have oc2 := rO3.cell (i := i * 3 + 2) (by omega)
                  have of0 := rO3.frozen (i * 3)
                  have of1 := rO3.frozen (i * 3 + 1)
                  have of2 := rO3.frozen (i * 3 + 2)
                  have H := hid (And.intro bS3 (And.intro rT3 (And.intro rO3 (And.intro B10 s10))))
                  clear bS bS2 bS3 rT rT2 rT3 rO rO2 rO3 B8 B9 B10 s10 bX bI2 bIr bV BW a0 a1 a2
                  go_wp2
                  go_region
                  go_wp2
                  go_roundw
                  case rel =>
                    obtain ⟨bS3, rT3, rO3, B10, s10⟩ := H.out
                    have hz : Z + 3 ≤ w11.heap.size := by rw [s10]; exact Nat.le_trans hs8 (Nat.le_add_right _ _)
                    have hfin := touch_rel (ts := fun i => (tc q i % 5, tj q i % 4, tg q i)) (c := c) (j := j) (g := tg q i) (by show (tc q i % 5, tj q i % 4, tg q i) = _; rw [hc5, hj4]) hil bS3 rT3 rO3 B10 hz
                    unfold put6 at hfin
                    exact hfin
                  case measure => simp [intOf]; omega
                · rename World => w18
                  have i1 : ¬ (i : Int) < (L q : Int) := by omega
                  have hiL : i = L q := by omega
                  subst hiL
                  have s0 : w18.cell? ⟨Z, 0, none⟩ = some (.int .i64 (idf q)) := by simp [World.cell?, bS]
                  have s2 : w18.cell? ⟨Z, 2, none⟩ = some (.int .u8 (lst q)) := by simp [World.cell?, bS]
                  have tT := pF_done rT fun i _ => ⟨Nat.mod_lt _ (by omega), Nat.mod_lt _ (by omega)⟩
                  have tO := pF_done rO fun i _ => ⟨Nat.mod_lt _ (by omega), Nat.mod_lt _ (by omega)⟩
                  have H := hid (And.intro B8 (And.intro hs8 (And.intro bS (And.intro tT tO))))
                  clear B8 hs8 bS tT tO rT rO
                  have rL := lists_new w18 (lst q)
                  have BL : Below w18.heap.size w18 (w18.alloc (.cells #[.bool false, .bool false, .bool false, .bool false, .bool false] 35)) := (Below.refl _ _).alloc (Nat.le_refl _) _
                  generalize hw20 : w18.alloc (.cells #[.bool false, .bool false, .bool false, .bool false, .bool false] 35) = w20 at *
                  generalize hX : w18.heap.size = Xb at *
                  have HL2 := hid (And.intro rL BL)
                  clear rL BL
                  go_wp2
                  clear hw20
                  have z0 := s0
                  clear s0 s2
                  go_loopw [21] (fun cv wz => ∃ c : Nat, c ≤ 5 ∧ cv = .int .i64 c ∧ Below Xb w18 wz ∧ wz.rowIs Xb 35 5 (lsF c (lst q))) (fun cv _ => 5 - (intOf cv).toNat)
                  case atStart => exact ⟨0, Nat.zero_le _, rfl, HL2.out.2, HL2.out.1⟩
                  case round =>
                    obtain ⟨c, hc5, rfl, B21, rL⟩ := hrel
                    clear HL2
                    have LX : Z < Xb := by have := H.out.2.1; omega
                    have s2 : wr.cell? ⟨Z, 2, none⟩ = some (.int .u8 (lst q)) := by
                      rw [B21.cell (p := ⟨Z, 2, none⟩) LX]
                      simp [World.cell?, H.out.2.2.1]
                    by_cases hct : c < 5
                    · have c1 : (c : Int) < 5 := by omega
                      have c0 : (0 : Int) ≤ (c : Int) := by omega
                      have fz := rL.frozen c
                      have rc := rL.cell (i := c) hct
                      have H6 := hid (And.intro B21 rL)
                      clear B21 rL
                      go_wp2
                      go_roundw
                      case rel => exact ⟨c + 1, by omega, by go_num, H6.out.1.setCell (p := ⟨Xb, c, none⟩) (Nat.le_refl _) _, lists_put H6.out.2⟩
                      case measure => simp [intOf]; omega
                    · have c1 : ¬ (c : Int) < 5 := by omega
                      have hc : c = 5 := by omega
                      subst hc
                      have e0 := lists_read (c := 0) rL (by omega)
                      have e1 := lists_read (c := 1) rL (by omega)
                      have e2 := lists_read (c := 2) rL (by omega)
                      have e3 := lists_read (c := 3) rL (by omega)
                      have e4 := lists_read (c := 4) rL (by omega)
                      obtain ⟨I, hb⟩ := HI.out
                      obtain ⟨B8, hs8, bS, tT, tO⟩ := H.out
                      have BW : Below Z wq wr := B8.trans (B21.mono (by omega))
                      have s0 : wr.cell? ⟨Z, 0, none⟩ = some (.int .i64 (idf q)) := by
                        rw [B21.cell (p := ⟨Z, 0, none⟩) LX]
                        simp [World.cell?, bS]
                      have hIB' : IB ≤ N := by omega
                      have hCZ : CB + 1 < Z := by have := I.og.lt; omega
                      have tT2 := tT.of_block (B21.block _ (by omega))
                      have tO2 := tO.of_block (B21.block _ (by omega))
                      have hfin := round4 (w := w) I hb hIB' hlt hZ BW tT2 tO2
                      have rC := I.ch.of_block (BW.block _ (by omega))
                      have rO := I.og.of_block (BW.block _ (by omega))
                      have g0 := rC.cell (i := q * 7) (by omega)
                      have g1 := rC.cell (i := q * 7 + 1) (by omega)
                      have g2 := rC.cell (i := q * 7 + 2) (by omega)
                      have g3 := rC.cell (i := q * 7 + 3) (by omega)
                      have g4 := rC.cell (i := q * 7 + 4) (by omega)
                      have g5 := rC.cell (i := q * 7 + 5) (by omega)
                      have g6 := rC.cell (i := q * 7 + 6) (by omega)
                      have fz0 := rC.frozen (q * 7)
                      have fz1 := rC.frozen (q * 7 + 1)
                      have fz2 := rC.frozen (q * 7 + 2)
                      have fz3 := rC.frozen (q * 7 + 3)
                      have fz4 := rC.frozen (q * 7 + 4)
                      have fz5 := rC.frozen (q * 7 + 5)
                      have fz6 := rC.frozen (q * 7 + 6)
                      have og := rO.cell (i := q) (by omega)
                      have of := rO.frozen q
                      have HF := hid hfin
                      clear hfin rC rO tT tO tT2 tO2 BW B8 bS I hb B21 rL H HI
                      go_wp2
                      go_roundw
                      case rel =>
                        have hfin := HF.out
                        unfold put7 at hfin
                        exact hfin
                      case measure => simp [intOf]; omega
            · have q1 : ¬ (q : Int) < (k : Int) := by omega
              have hqk : k = q := by omega
              subst hqk
              have h3 := three (wq := wq) (K := wq.heap.size) rfl rfl
              have B3 : Below wq.heap.size wq (((wq.alloc (.cells #[.int .i64 0] 3)).alloc (.cells #[.int .i64 0] 2)).alloc (.cells #[.int .i64 (-1)] 3)) := (((Below.refl _ _).alloc (Nat.le_refl _) _).alloc (by simp) _).alloc (by simp; omega) _
              generalize hw3 : ((wq.alloc (.cells #[.int .i64 0] 3)).alloc (.cells #[.int .i64 0] 2)).alloc (.cells #[.int .i64 (-1)] 3) = w3 at *
              generalize hK : wq.heap.size = K at *
              have hvar : w3.heap[N + 8]? = some (.cells #[.pointer (some ⟨N + 1, 0, none⟩)] 27) := (h3.old _ (hK ▸ lt_of_some I.var)).trans I.var
              have v8 : w3.cell? ⟨N + 8, 0, none⟩ = some (.pointer (some ⟨N + 1, 0, none⟩)) := by simp [World.cell?, hvar]
              have HI := hid (And.intro I (And.intro hb (And.intro h3 (And.intro B3 hvar))))
              clear I hb h3 B3 hvar
              go_wp2_with fail
              obtain ⟨I, hb, h3, B3, hvar⟩ := HI.out
              have hcb := I.cbB
              have hcl : CB < K := hK ▸ I.ch.lt
              have hsi := I.si (hK.symm ▸ B3) w3.heap.size
              refine (show_any at0 CB k k idf T L (fun q c => lsb (lst q) c) (fun q i => (tc q i % 5, tj q i % 4, tg q i)) s00 K (N + 8) (K + 1) (K + 2) _ _ w3 hsi hn HL.out (by have := h3.size; omega) I.tb I.inj hcb (by omega) (by omega) (by omega) (by omega) (by omega) (by omega) (by omega) (by omega) (row1_back h3.b0) hvar (row1_back h3.b1) (row1_back h3.b2)).mono ?_
              rintro e w4 ⟨rfl, spv, hS, hF⟩
              obtain ⟨hPS, a1, a2, a3⟩ := after_show I hb (by omega) hNp hK (h3.set (by omega) at0) hS hF
              clear hS hF hsi I hb h3 B3 hvar HI hw3 v8
              generalize w3.heap.size = base at *
              have HP := hid hPS
              clear hPS
              go_wp2
              have hM := M7.start w4
              have hB4 := below4 w4
              have hIV : IB ≤ w4.heap.size := by have := lt_of_some HP.out.idb; omega
              unfold alloc4 f20 i20 i5 at hM hB4
              generalize hV : w4.heap.size = V at *
              go_loopw [29] (fun cv wz => ∃ c : Nat, c ≤ 5 ∧ cv = .int .i64 c ∧ M7 V c wz ∧ Below V w4 wz) (fun cv _ => 5 - (intOf cv).toNat)
              case atStart => exact ⟨0, Nat.zero_le _, rfl, hM, hB4⟩
              case round =>
                obtain ⟨c, hc5, rfl, hM7, B5⟩ := hrel
                clear hM hB4
                by_cases hct : c < 5
                · as_aux_lemma =>
                    have c1 : (c : Int) < 5 := by omega
                    have c0 : (0 : Int) ≤ (c : Int) := by omega
                    have fz := hM7.gn.frozen c
                    have rc := hM7.gn.cell (i := c) hct
                    have H7 := hid (And.intro hM7 B5)
                    clear hM7 B5
                    go_wp2
                    go_roundw
                    case rel => exact ⟨c + 1, by omega, by go_num, H7.out.1.put, H7.out.2.setCell (p := ⟨V + 3, c, none⟩) (by show V ≤ V + 3; omega) _⟩
                    case measure => simp [intOf]; omega
                · have c1 : ¬ (c : Int) < 5 := by omega
                  have hc : c = 5 := by omega
                  subst hc
                  have hmr := hM7.done
                  have H7 := hid (And.intro hmr B5)
                  clear hmr hM7 B5
                  go_wp2
                  go_loopw [30, 31] (fun av kv wz => ∃ q : Nat, q ≤ k ∧ kv = .int .i64 q ∧ av = .int .i64 (atOf at0 idf q) ∧ MR V (St.run idf (fun q i => (tc q i % 5, tj q i % 4, tg q i)) L (fun q c => lsb (lst q) c) s00 q) wz ∧ Below V w4 wz) (fun _ kv _ => k - (intOf kv).toNat)
                  case atStart => exact ⟨0, Nat.zero_le _, rfl, rfl, H7.out.1, H7.out.2⟩
                  case round =>
                    obtain ⟨q, hq, rfl, rfl, hmr, B8⟩ := hrel
                    clear H7
                    rename World => w8
                    by_cases hqt : q < k
                    · as_aux_lemma =>
                        have q1 : (q : Int) < (k : Int) := by omega
                        have q0 : (0 : Int) ≤ (q : Int) := by omega
                        obtain ⟨b, off, rfl, hbl, c0, c1, c2⟩ := HX.out.outer q hqt
                        have B8w : Below IB w w8 := HP.out.bel.trans (B8.mono hIV)
                        have d0 : w8.cell? ⟨b, off + q * 3, none⟩ = some (.int .i64 (idf q)) := by rw [B8w.cell (p := ⟨b, off + q * 3, none⟩) (by show b < IB; omega)]; exact c0
                        have d1 : w8.cell? ⟨b, off + q * 3 + 1, none⟩ = some (.slice (A q) (L q) (C q)) := by rw [B8w.cell (p := ⟨b, off + q * 3 + 1, none⟩) (by show b < IB; omega)]; exact c1
                        have d2 : w8.cell? ⟨b, off + q * 3 + 2, none⟩ = some (.int .u8 (lst q)) := by rw [B8w.cell (p := ⟨b, off + q * 3 + 2, none⟩) (by show b < IB; omega)]; exact c2
                        have hlq := HX.out.lstb q hqt
                        have hms : MS V w8.heap.size w4 #[.int .i64 (idf q), .slice (A q) (L q) (C q), .int .u8 (lst q)] (St.touches (idf q) (fun i => (tc q i % 5, tj q i % 4, tg q i)) (St.run idf (fun q i => (tc q i % 5, tj q i % 4, tg q i)) L (fun q c => lsb (lst q) c) s00 q) 0) (w8.alloc (.cells #[.int .i64 (idf q), .slice (A q) (L q) (C q), .int .u8 (lst q)] 25)) :=
                          ⟨hmr.alloc _, B8.alloc (by have := hmr.lt; omega) _, Go.Deep.blk_alloc_new _ _, by have := hmr.lt; omega⟩
                        generalize hSb : w8.heap.size = S at *
                        generalize hw9 : w8.alloc (.cells #[.int .i64 (idf q), .slice (A q) (L q) (C q), .int .u8 (lst q)] 25) = w9a at *
                        have x0 : w9a.cell? ⟨S, 0, none⟩ = some (.int .i64 (idf q)) := by simp [World.cell?, hms.cp]
                        have HM := hid hms
                        clear hms hmr B8 B8w c0 c1 c2
                        go_wp2
                        clear hw9 d0 d1 d2 x0
                        go_loopw [33] (fun iv wz => ∃ i : Nat, i ≤ L q ∧ iv = .int .i64 i ∧ MS V S w4 #[.int .i64 (idf q), .slice (A q) (L q) (C q), .int .u8 (lst q)] (St.touches (idf q) (fun i => (tc q i % 5, tj q i % 4, tg q i)) (St.run idf (fun q i => (tc q i % 5, tj q i % 4, tg q i)) L (fun q c => lsb (lst q) c) s00 q) i) wz) (fun iv _ => L q - (intOf iv).toNat)
                        case atStart => exact ⟨0, Nat.zero_le _, rfl, HM.out⟩
                        case round =>
                          obtain ⟨i, hi, rfl, hms⟩ := hrel
                          clear HM
                          have x1 : wr.cell? ⟨S, 1, none⟩ = some (.slice (A q) (L q) (C q)) := by simp [World.cell?, hms.cp]
                          by_cases hil : i < L q
                          · as_aux_lemma =>
                              have i1 : (i : Int) < (L q : Int) := by omega
                              have i0 : (0 : Int) ≤ (i : Int) := by omega
                              obtain ⟨ba, oa, hA, hla, a0, a1, a2⟩ := HX.out.inner q hqt i hil
                              obtain ⟨tb1, tb2⟩ := HX.out.tb q hqt i hil
                              have hLq := HL.out q hqt
                              have BW : Below IB w wr := HP.out.bel.trans (hms.bel.mono hIV)
                              have u0 : wr.cell? ⟨ba, oa + i * 3, none⟩ = some (.int .u8 (tc q i)) := by rw [BW.cell (p := ⟨ba, oa + i * 3, none⟩) (by show ba < IB; omega)]; exact a0
                              have u1 : wr.cell? ⟨ba, oa + i * 3 + 1, none⟩ = some (.int .u8 (tj q i)) := by rw [BW.cell (p := ⟨ba, oa + i * 3 + 1, none⟩) (by show ba < IB; omega)]; exact a1
                              have u2 : wr.cell? ⟨ba, oa + i * 3 + 2, none⟩ = some (.bool (tg q i)) := by rw [BW.cell (p := ⟨ba, oa + i * 3 + 2, none⟩) (by show ba < IB; omega)]; exact a2
                              rw [hA] at x1
                              have hstep : St.touches (idf q) (fun i => (tc q i % 5, tj q i % 4, tg q i)) (St.run idf (fun q i => (tc q i % 5, tj q i % 4, tg q i)) L (fun q c => lsb (lst q) c) s00 q) (i + 1) = (St.touches (idf q) (fun i => (tc q i % 5, tj q i % 4, tg q i)) (St.run idf (fun q i => (tc q i % 5, tj q i % 4, tg q i)) L (fun q c => lsb (lst q) c) s00 q) i).touch (idf q) (tc q i % 5) (tj q i % 4) (tg q i) := rfl
                              generalize St.touches (idf q) (fun i => (tc q i % 5, tj q i % 4, tg q i)) (St.run idf (fun q i => (tc q i % 5, tj q i % 4, tg q i)) L (fun q c => lsb (lst q) c) s00 q) i = st at *
                              generalize hc5 : tc q i % 5 = c at *
                              generalize hj4 : tj q i % 4 = j at *
                              have hc : c < 5 := by omega
                              have hj : j < 4 := by omega
                              have e5 : (tc q i : Int) % 5 = (c : Int) := by omega
                              have e5' : (tc q i : Int).tmod 5 = (c : Int) := by rw [Int.tmod_eq_emod_of_nonneg (by omega)]; exact e5
                              have e4 : (tj q i : Int) % 4 = (j : Int) := by omega
                              have e4' : (tj q i : Int).tmod 4 = (j : Int) := by rw [Int.tmod_eq_emod_of_nonneg (by omega)]; exact e4
                              have j1 : (j : Int) < 4 := by omega
                              have j0 : (0 : Int) ≤ j := by omega
                              have c1 : (c : Int) < 5 := by omega
                              have c0 : (0 : Int) ≤ c := by omega
                              have bX : (wr.alloc (.cells #[.int .u8 (tc q i), .int .u8 (tj q i), .bool (tg q i)] 52)).heap[wr.heap.size]? = some (.cells #[.int .u8 (tc q i), .int .u8 (tj q i), .bool (tg q i)] 52) := Go.Deep.blk_alloc_new _ _
                              have hm2 := hms.alloc (.cells #[.int .u8 (tc q i), .int .u8 (tj q i), .bool (tg q i)] 52)
                              generalize hw10 : wr.alloc (.cells #[.int .u8 (tc q i), .int .u8 (tj q i), .bool (tg q i)] 52) = w10 at *
                              generalize hY : wr.heap.size = Y at *
                              have y0 : w10.cell? ⟨Y, 0, none⟩ = some (.int .u8 (tc q i)) := by simp [World.cell?, bX]
                              have y1 : w10.cell? ⟨Y, 1, none⟩ = some (.int .u8 (tj q i)) := by simp [World.cell?, bX]
                              have y2 : w10.cell? ⟨Y, 2, none⟩ = some (.bool (tg q i)) := by simp [World.cell?, bX]
                              have z0 : w10.cell? ⟨S, 0, none⟩ = some (.int .i64 (idf q)) := by simp [World.cell?, hm2.cp]
                              obtain ⟨vf, hvr, -⟩ := hm2.mr.vl
                              have p0 := hm2.mr.hv.cell (i := c * 4 + j) (by omega)
                              have p1 := hvr.cell (i := c * 4 + j) (by omega)
                              have p2 := hm2.mr.wo.cell (i := c * 4 + j) (by omega)
                              have p3 := hm2.mr.gn.cell (i := c) (by omega)
                              have r0 := hm2.mr.hv.frozen (c * 4 + j)
                              have r1 := hvr.frozen (c * 4 + j)
                              have r2 := hm2.mr.wo.frozen (c * 4 + j)
                              have r3 := hm2.mr.gn.frozen c
                              have hS4 := hm2.hS
                              have hSY : S < Y := by rw [← hY]; exact lt_of_some hms.cp
                              have ns0 : S ≠ V := by omega
                              have ns1 : S ≠ V + 1 := by omega
                              have ns2 : S ≠ V + 2 := by omega
                              have ns3 : S ≠ V + 3 := by omega
                              have HM := hid hm2
                              clear hm2 hms BW a0 a1 a2 hvr
                              cases htg : tg q i with
                              | true =>
                                rw [htg] at u2 y2 hstep hw10
                                have HST := hid hstep
                                clear hstep bX
                                go_wp2
                                go_roundw
                                case rel => exact ⟨i + 1, by omega, by go_num, by rw [HST.out]; exact HM.out.gone (idf q) hj⟩
                                case measure => simp [intOf]; omega
                              | false =>
                                rw [htg] at u2 y2 hstep hw10 bX
                                have ys : w10.setCell ⟨Y, 2, none⟩ (.bool false) = w10 := set_same bX rfl
                                have yf : w10.frozen? ⟨Y, 2, none⟩ = false := by simp [World.frozen?, bX]
                                have nY0 : V ≠ Y := by omega
                                have nY1 : V + 1 ≠ Y := by omega
                                have nY2 : V + 2 ≠ Y := by omega
                                have nY3 : S ≠ Y := by omega
                                have HST := hid hstep
                                have YS := hid ys
                                clear hstep bX ys
                                go_wp2
                                go_region
                                go_wp2
                                go_roundw
                                case rel => exact ⟨i + 1, by omega, by go_num, by rw [HST.out, YS.out]; exact (HM.out.came (idf q) hj).drew⟩
                                case measure => simp [intOf]; omega
                          · have i1 : ¬ (i : Int) < (L q : Int) := by omega
                            have hiL : i = L q := by omega
                            subst hiL
                            have HM := hid hms
                            clear hms
                            go_wp2
                            generalize hst : St.touches (idf q) (fun i => (tc q i % 5, tj q i % 4, tg q i)) (St.run idf (fun q i => (tc q i % 5, tj q i % 4, tg q i)) L (fun q c => lsb (lst q) c) s00 q) (L q) = st at *
                            go_loopw [37] (fun cv wz => ∃ c : Nat, c ≤ 5 ∧ cv = .int .i64 c ∧ MS V S w4 #[.int .i64 (idf q), .slice (A q) (L q) (C q), .int .u8 (lst q)] (St.lists (idf q) (fun c => lsb (lst q) c) st c) wz) (fun cv _ => 5 - (intOf cv).toNat)
                            case atStart => exact ⟨0, Nat.zero_le _, rfl, HM.out⟩
                            case round =>
                              obtain ⟨c, hc5, rfl, hms⟩ := hrel
                              clear HM x1
                              have x0 : wr.cell? ⟨S, 0, none⟩ = some (.int .i64 (idf q)) := by simp [World.cell?, hms.cp]
                              have x2 : wr.cell? ⟨S, 2, none⟩ = some (.int .u8 (lst q)) := by simp [World.cell?, hms.cp]
                              by_cases hct : c < 5
                              · as_aux_lemma =>
                                  have c1 : (c : Int) < 5 := by omega
                                  have c0 : (0 : Int) ≤ (c : Int) := by omega
                                  obtain ⟨vf, hvr, -⟩ := hms.mr.vl
                                  have p0 := hms.mr.hv.cell (i := c * 4) (by omega)
                                  have p1 := hvr.cell (i := c * 4) (by omega)
                                  have p2 := hms.mr.wo.cell (i := c * 4) (by omega)
                                  have r0 := hms.mr.hv.frozen (c * 4)
                                  have r1 := hvr.frozen (c * 4)
                                  have r2 := hms.mr.wo.frozen (c * 4)
                                  have hS4 := hms.hS
                                  have ns0 : S ≠ V := by omega
                                  have ns1 : S ≠ V + 1 := by omega
                                  have hstep : St.lists (idf q) (fun c => lsb (lst q) c) st (c + 1) = if lsb (lst q) c then (St.lists (idf q) (fun c => lsb (lst q) c) st c).touch (idf q) c 0 false else St.lists (idf q) (fun c => lsb (lst q) c) st c := rfl
                                  have HM := hid hms
                                  clear hms hvr
                                  by_cases hl : bits BinOp.and IntKind.u8 ((lst q : Int) / 2 ^ c) 1 = 1
                                  · have hl2 : lsb (lst q) c = true := by simp [lsb, hl]
                                    rw [if_pos hl2] at hstep
                                    have HST := hid hstep
                                    clear hstep hl2
                                    go_wp2
                                    go_region
                                    go_wp2
                                    go_roundw
                                    case rel => exact ⟨c + 1, by omega, by go_num, by rw [HST.out]; exact (HM.out.came (idf q) (j := 0) (by omega)).drew⟩
                                    case measure => simp [intOf]; omega
                                  · have hl2 : ¬ lsb (lst q) c = true := by simp [lsb, hl]
                                    rw [if_neg hl2] at hstep
                                    have HST := hid hstep
                                    clear hstep hl2
                                    go_wp2
                                    go_roundw
                                    case rel => exact ⟨c + 1, by omega, by go_num, by rw [HST.out]; exact HM.out⟩
                                    case measure => simp [intOf]; omega
                              · have c1 : ¬ (c : Int) < 5 := by omega
                                have hc : c = 5 := by omega
                                subst hc
                                subst hst
                                have HM := hid hms
                                clear hms
                                go_wp2
                                go_roundw
                                case rel => exact ⟨q + 1, by omega, by go_num, rfl, HM.out.mr, HM.out.bel⟩
                                case measure => simp [intOf]; omega
                    · have q1 : ¬ (q : Int) < (k : Int) := by omega
                      have hqk : k = q := by omega
                      subst hqk
                      have hps := HP.out.moved (hV.symm ▸ hIV) (hV.symm ▸ B8)
                      have v8 : w8.cell? ⟨N + 8, 0, none⟩ = some (.pointer (some ⟨N + 1, 0, none⟩)) := by simp [World.cell?, hps.var]
                      have g8 : w8.cell? ⟨N + 1, 8, none⟩ = some (.string ⟨#[105]⟩) := hps.si.wi.cell (by omega)
                      have g9 : w8.cell? ⟨N + 1, 9, none⟩ = some (.int .i64 (atOf at0 idf k)) := hps.si.wi.cell (by omega)
                      have g10 : w8.cell? ⟨N + 1, 10, none⟩ = some (.int .i64 at0) := hps.si.wi.cell (by omega)
                      have HM := hid (And.intro hmr B8)
                      clear hmr B8 hps
                      go_wp2
                      clear v8 g8 g9 g10
                      go_loopw [38] (fun cv wz => ∃ c : Nat, c ≤ 5 ∧ cv = .int .i64 c ∧ MR V (St.run idf (fun q i => (tc q i % 5, tj q i % 4, tg q i)) L (fun q c => lsb (lst q) c) s00 k) wz ∧ Below V w4 wz) (fun cv _ => 5 - (intOf cv).toNat)
                      case atStart => exact ⟨0, Nat.zero_le _, rfl, HM.out.1, HM.out.2⟩
                      case round =>
                        obtain ⟨c, hc5, rfl, hmr, B11⟩ := hrel
                        clear HM
                        rename World => w11
                        by_cases hct : c < 5
                        · as_aux_lemma =>
                            have c1 : (c : Int) < 5 := by omega
                            have c0 : (0 : Int) ≤ (c : Int) := by omega
                            have HM := hid (And.intro hmr B11)
                            clear hmr B11
                            go_wp2
                            go_loopw [39] (fun jv wz => ∃ j : Nat, j ≤ 4 ∧ jv = .int .i64 j ∧ MR V (St.run idf (fun q i => (tc q i % 5, tj q i % 4, tg q i)) L (fun q c => lsb (lst q) c) s00 k) wz ∧ Below V w4 wz) (fun jv _ => 4 - (intOf jv).toNat)
                            case atStart => exact ⟨0, Nat.zero_le _, rfl, HM.out.1, HM.out.2⟩
                            case round =>
                              obtain ⟨j, hj4, rfl, hmr, B12⟩ := hrel
                              clear HM
                              rename World => w12
                              by_cases hjt : j < 4
                              · have j1 : (j : Int) < 4 := by omega
                                have j0 : (0 : Int) ≤ (j : Int) := by omega
                                have hps := HP.out.moved (hV.symm ▸ hIV) (hV.symm ▸ B12)
                                have ci : w12.cell? ⟨IB, j, none⟩ = some (.string (ids j)) := by
                                  have := hps.idb
                                  rw [hIN] at this
                                  simp only [World.cell?, this]
                                  exact idCells_get hjt
                                have li : IB < w12.heap.size := by have := lt_of_some hps.idb; omega
                                have bT : (w12.alloc (.cells #[.int .u8 c, .string (ids j)] 31)).heap[w12.heap.size]? = some (.cells #[.int .u8 c, .string (ids j)] 31) := Go.Deep.blk_alloc_new _ _
                                have hmr2 := hmr.alloc (.cells #[.int .u8 c, .string (ids j)] 31)
                                have B13 := B12.alloc (by have := hmr.lt; omega) (.cells #[.int .u8 c, .string (ids j)] 31)
                                generalize hw13 : w12.alloc (.cells #[.int .u8 c, .string (ids j)] 31) = w13 at *
                                generalize hY : w12.heap.size = Y at *
                                have hps2 := HP.out.moved (hV.symm ▸ hIV) (hV.symm ▸ B13)
                                have hlt2 := hmr2.lt
                                have t0 : w13.cell? ⟨Y, 0, none⟩ = some (.int .u8 c) := by simp [World.cell?, bT]
                                have t1 : w13.cell? ⟨Y, 1, none⟩ = some (.string (ids j)) := by simp [World.cell?, bT]
                                have v8 : w13.cell? ⟨N + 8, 0, none⟩ = some (.pointer (some ⟨N + 1, 0, none⟩)) := by simp [World.cell?, hps2.var]
                                obtain ⟨vf, hvr, hvx⟩ := hmr2.vl
                                have p0 := hmr2.hv.cell (i := c * 4 + j) (by omega)
                                have p1 := hvr.cell (i := c * 4 + j) (by omega)
                                have p3 := hmr2.gn.cell (i := c) (by omega)
                                have ed : (c * 4 + j) / 4 = c := by omega
                                have em : (c * 4 + j) % 4 = j := by omega
                                have hvx := hvx (c * 4 + j) (by omega)
                                simp only [ed, em] at p0 hvx
                                have hcall := changedAt_any hps2.si.wi c j hct hjt
                                have hend : ∀ w14, Below w13.heap.size w13 w14 → MR V (St.run idf (fun q i => (tc q i % 5, tj q i % 4, tg q i)) L (fun q c => lsb (lst q) c) s00 k) w14 ∧ Below V w4 w14 := fun w14 hb => ⟨hmr2.moved fun k _ h2 => hb.block k (by omega), B13.trans (hb.mono (by omega))⟩
                                have HE := hid (And.intro hend bT)
                                clear hend hps hps2 hmr2 hmr B12 B13 bT hvr
                                cases hF : (St.run idf (fun q i => (tc q i % 5, tj q i % 4, tg q i)) L (fun q c => lsb (lst q) c) s00 k).F c j with
                                | some x =>
                                  as_aux_lemma =>
                                    have hch : chAt at0 (St.run idf (fun q i => (tc q i % 5, tj q i % 4, tg q i)) L (fun q c => lsb (lst q) c) s00 k).G (St.run idf (fun q i => (tc q i % 5, tj q i % 4, tg q i)) L (fun q c => lsb (lst q) c) s00 k).F c j = x := by simp [chAt, hF]
                                    have hvx := hvx x hF
                                    rw [hch] at hcall
                                    rw [hF] at p0
                                    rw [hvx] at p1
                                    have HC := hid hcall
                                    clear hcall hch hF hvx
                                    go_wp2_with fail
                                    refine HC.out.mono ?_
                                    rintro e w14 ⟨rfl, B14⟩
                                    obtain ⟨hmr3, B15⟩ := HE.out.1 w14 B14
                                    have hps3 := HP.out.moved (hV.symm ▸ hIV) (hV.symm ▸ B15)
                                    have bT3 := (B14.block Y (lt_of_some HE.out.2)).trans HE.out.2
                                    have t30 : w14.cell? ⟨Y, 0, none⟩ = some (.int .u8 c) := by simp [World.cell?, bT3]
                                    have t31 : w14.cell? ⟨Y, 1, none⟩ = some (.string (ids j)) := by simp [World.cell?, bT3]
                                    have v38 : w14.cell? ⟨N + 8, 0, none⟩ = some (.pointer (some ⟨N + 1, 0, none⟩)) := by simp [World.cell?, hps3.var]
                                    have v321 : w14.cell? ⟨N + 1, 21, none⟩ = some (.map (some N)) := hps3.si.wi.cell (by omega)
                                    have hlk := wait_look hps3.si.wi hct hjt
                                    have p32 := hmr3.wo.cell (i := c * 4 + j) (by omega)
                                    simp only [ed, em] at p32
                                    have HM := hid (And.intro hmr3 B15)
                                    clear HE HC hmr3 B15 hps3 bT3 B14 t0 t1 v8 p0 p1 p3
                                    cases hwk : (St.run idf (fun q i => (tc q i % 5, tj q i % 4, tg q i)) L (fun q c => lsb (lst q) c) s00 k).wk c j with
                                    | true =>
                                      rw [hwk] at hlk p32
                                      have HW := hid hwk
                                      clear hwk
                                      go_wp2
                                      go_quiet (fail)
                                      go_wp2
                                      go_roundw
                                      case rel => exact ⟨j + 1, by omega, by go_num, HM.out.1.moved fun _ _ _ => rfl, HM.out.2.os, HM.out.2.tape, HM.out.2.output, HM.out.2.size, HM.out.2.block⟩
                                      case measure => simp [intOf]; omega
                                    | false =>
                                      rw [hwk] at hlk p32
                                      have HW := hid hwk
                                      clear hwk
                                      go_wp2
                                      go_quiet (fail)
                                      go_wp2
                                      go_roundw
                                      case rel => exact ⟨j + 1, by omega, by go_num, HM.out.1.moved fun _ _ _ => rfl, HM.out.2.os, HM.out.2.tape, HM.out.2.output, HM.out.2.size, HM.out.2.block⟩
                                      case measure => simp [intOf]; omega
                                | none =>
                                  rw [hF] at p0
                                  by_cases hg : at0 < (St.run idf (fun q i => (tc q i % 5, tj q i % 4, tg q i)) L (fun q c => lsb (lst q) c) s00 k).G c
                                  · as_aux_lemma =>
                                      have hch : chAt at0 (St.run idf (fun q i => (tc q i % 5, tj q i % 4, tg q i)) L (fun q c => lsb (lst q) c) s00 k).G (St.run idf (fun q i => (tc q i % 5, tj q i % 4, tg q i)) L (fun q c => lsb (lst q) c) s00 k).F c j = (St.run idf (fun q i => (tc q i % 5, tj q i % 4, tg q i)) L (fun q c => lsb (lst q) c) s00 k).G c := by simp [chAt, hF, hg]
                                      rw [hch] at hcall
                                      have HC := hid hcall
                                      clear hcall hch hF hvx
                                      go_wp2_with fail
                                      refine HC.out.mono ?_
                                      rintro e w14 ⟨rfl, B14⟩
                                      obtain ⟨hmr3, B15⟩ := HE.out.1 w14 B14
                                      have hps3 := HP.out.moved (hV.symm ▸ hIV) (hV.symm ▸ B15)
                                      have bT3 := (B14.block Y (lt_of_some HE.out.2)).trans HE.out.2
                                      have t30 : w14.cell? ⟨Y, 0, none⟩ = some (.int .u8 c) := by simp [World.cell?, bT3]
                                      have t31 : w14.cell? ⟨Y, 1, none⟩ = some (.string (ids j)) := by simp [World.cell?, bT3]
                                      have v38 : w14.cell? ⟨N + 8, 0, none⟩ = some (.pointer (some ⟨N + 1, 0, none⟩)) := by simp [World.cell?, hps3.var]
                                      have v321 : w14.cell? ⟨N + 1, 21, none⟩ = some (.map (some N)) := hps3.si.wi.cell (by omega)
                                      have hlk := wait_look hps3.si.wi hct hjt
                                      have p32 := hmr3.wo.cell (i := c * 4 + j) (by omega)
                                      simp only [ed, em] at p32
                                      have HM := hid (And.intro hmr3 B15)
                                      clear HE HC hmr3 B15 hps3 bT3 B14 t0 t1 v8 p0 p1 p3
                                      cases hwk : (St.run idf (fun q i => (tc q i % 5, tj q i % 4, tg q i)) L (fun q c => lsb (lst q) c) s00 k).wk c j with
                                      | true =>
                                        rw [hwk] at hlk p32
                                        have HW := hid hwk
                                        clear hwk
                                        go_wp2
                                        go_quiet (fail)
                                        go_wp2
                                        go_roundw
                                        case rel => exact ⟨j + 1, by omega, by go_num, HM.out.1.moved fun _ _ _ => rfl, HM.out.2.os, HM.out.2.tape, HM.out.2.output, HM.out.2.size, HM.out.2.block⟩
                                        case measure => simp [intOf]; omega
                                      | false =>
                                        rw [hwk] at hlk p32
                                        have HW := hid hwk
                                        clear hwk
                                        go_wp2
                                        go_quiet (fail)
                                        go_wp2
                                        go_roundw
                                        case rel => exact ⟨j + 1, by omega, by go_num, HM.out.1.moved fun _ _ _ => rfl, HM.out.2.os, HM.out.2.tape, HM.out.2.output, HM.out.2.size, HM.out.2.block⟩
                                        case measure => simp [intOf]; omega
                                  · as_aux_lemma =>
                                      have hch : chAt at0 (St.run idf (fun q i => (tc q i % 5, tj q i % 4, tg q i)) L (fun q c => lsb (lst q) c) s00 k).G (St.run idf (fun q i => (tc q i % 5, tj q i % 4, tg q i)) L (fun q c => lsb (lst q) c) s00 k).F c j = at0 := by simp [chAt, hF, hg]
                                      rw [hch] at hcall
                                      have HC := hid hcall
                                      clear hcall hch hF hvx
                                      go_wp2_with fail
                                      refine HC.out.mono ?_
                                      rintro e w14 ⟨rfl, B14⟩
                                      obtain ⟨hmr3, B15⟩ := HE.out.1 w14 B14
                                      have hps3 := HP.out.moved (hV.symm ▸ hIV) (hV.symm ▸ B15)
                                      have bT3 := (B14.block Y (lt_of_some HE.out.2)).trans HE.out.2
                                      have t30 : w14.cell? ⟨Y, 0, none⟩ = some (.int .u8 c) := by simp [World.cell?, bT3]
                                      have t31 : w14.cell? ⟨Y, 1, none⟩ = some (.string (ids j)) := by simp [World.cell?, bT3]
                                      have v38 : w14.cell? ⟨N + 8, 0, none⟩ = some (.pointer (some ⟨N + 1, 0, none⟩)) := by simp [World.cell?, hps3.var]
                                      have v321 : w14.cell? ⟨N + 1, 21, none⟩ = some (.map (some N)) := hps3.si.wi.cell (by omega)
                                      have hlk := wait_look hps3.si.wi hct hjt
                                      have p32 := hmr3.wo.cell (i := c * 4 + j) (by omega)
                                      simp only [ed, em] at p32
                                      have HM := hid (And.intro hmr3 B15)
                                      clear HE HC hmr3 B15 hps3 bT3 B14 t0 t1 v8 p0 p1 p3
                                      cases hwk : (St.run idf (fun q i => (tc q i % 5, tj q i % 4, tg q i)) L (fun q c => lsb (lst q) c) s00 k).wk c j with
                                      | true =>
                                        rw [hwk] at hlk p32
                                        have HW := hid hwk
                                        clear hwk
                                        go_wp2
                                        go_quiet (fail)
                                        go_wp2
                                        go_roundw
                                        case rel => exact ⟨j + 1, by omega, by go_num, HM.out.1.moved fun _ _ _ => rfl, HM.out.2.os, HM.out.2.tape, HM.out.2.output, HM.out.2.size, HM.out.2.block⟩
                                        case measure => simp [intOf]; omega
                                      | false =>
                                        rw [hwk] at hlk p32
                                        have HW := hid hwk
                                        clear hwk
                                        go_wp2
                                        go_quiet (fail)
                                        go_wp2
                                        go_roundw
                                        case rel => exact ⟨j + 1, by omega, by go_num, HM.out.1.moved fun _ _ _ => rfl, HM.out.2.os, HM.out.2.tape, HM.out.2.output, HM.out.2.size, HM.out.2.block⟩
                                        case measure => simp [intOf]; omega
                              · have j1 : ¬ (j : Int) < 4 := by omega
                                have hj : j = 4 := by omega
                                subst hj
                                have HM := hid (And.intro hmr B12)
                                clear hmr B12
                                go_wp2
                                go_roundw
                                case rel => exact ⟨c + 1, by omega, by go_num, HM.out.1, HM.out.2⟩
                                case measure => simp [intOf]; omega
                        · have c1 : ¬ (c : Int) < 5 := by omega
                          have hc : c = 5 := by omega
                          subst hc
                          have hps := HP.out.moved (hV.symm ▸ hIV) (hV.symm ▸ B11)
                          have v8 : w11.cell? ⟨N + 8, 0, none⟩ = some (.pointer (some ⟨N + 1, 0, none⟩)) := by simp [World.cell?, hps.var]
                          have g23 : w11.cell? ⟨N + 1, 23, none⟩ = some spv := hps.si.wi.cell (by omega)
                          obtain ⟨SA, scap, hspv, hsp⟩ := spare_read hps.si.own
                          rw [hspv] at g23
                          have HS := hid hsp
                          have HM := hid B11
                          clear hsp hps B11 hmr hspv
                          by_cases h64 : 64 < k
                          · as_aux_lemma =>
                              have k64 : (64 : Int) < (k : Int) := by omega
                              have hm : min k 64 = 64 := by omega
                              rw [hm] at g23 HS
                              go_wp2
                              go_loop [45] (fun iv => ∃ i : Nat, i ≤ 64 ∧ iv = .int .i64 i) (fun iv => 64 - (intOf iv).toNat)
                              case atStart => exact ⟨0, Nat.zero_le _, rfl⟩
                              case round =>
                                obtain ⟨i, hi, rfl⟩ := hrel
                                by_cases hil : i < 64
                                · as_aux_lemma =>
                                    have i1 : (i : Int) < (64 : Int) := by omega
                                    have i0 : (0 : Int) ≤ (i : Int) := by omega
                                    obtain ⟨g, rfl, hcell⟩ := HS.out i hil
                                    go_wp2
                                    go_round
                                    case rel => exact ⟨i + 1, by omega, by go_num⟩
                                    case measure => simp [intOf]; omega
                                · have i1 : ¬ (i : Int) < (64 : Int) := by omega
                                  have him : i = 64 := by omega
                                  subst him
                                  go_wp2
                                  clear v8 g23 HS
                                  go_loopw [46] (fun kv wz => ∃ q : Nat, q ≤ k ∧ kv = .int .i64 q ∧ Below V w4 wz) (fun kv _ => k - (intOf kv).toNat)
                                  case atStart => exact ⟨0, Nat.zero_le _, rfl, HM.out⟩
                                  case round =>
                                    obtain ⟨q, hq, rfl, B14⟩ := hrel
                                    clear HM
                                    rename World => w14
                                    by_cases hqt : q < k
                                    · as_aux_lemma =>
                                        have q1 : (q : Int) < (k : Int) := by omega
                                        have q0 : (0 : Int) ≤ (q : Int) := by omega
                                        have hps := HP.out.moved (hV.symm ▸ hIV) (hV.symm ▸ B14)
                                        have hch := (ch_cell hps.si.ch hqt).2.1
                                        have HM := hid B14
                                        clear B14 hps
                                        go_wp2
                                        clear hch
                                        go_loopw [48] (fun iv wz => ∃ i : Nat, i ≤ L q ∧ iv = .int .i64 i ∧ Below V w4 wz) (fun iv _ => L q - (intOf iv).toNat)
                                        case atStart => exact ⟨0, Nat.zero_le _, rfl, HM.out⟩
                                        case round =>
                                          obtain ⟨i, hi, rfl, B15⟩ := hrel
                                          clear HM
                                          rename World => w15
                                          by_cases hil : i < L q
                                          · have i1 : (i : Int) < (L q : Int) := by omega
                                            have i0 : (0 : Int) ≤ (i : Int) := by omega
                                            have hLq := HL.out q hqt
                                            have hps := HP.out.moved (hV.symm ▸ hIV) (hV.symm ▸ B15)
                                            have htc := hps.si.tch q hqt
                                            by_cases h64q : q < 64
                                            · have q64 : (q : Int) < 64 := by omega
                                              rw [if_pos ⟨hqt, h64q⟩] at htc
                                              have d0 : w15.cell? ⟨T q, i * 3, none⟩ = some (.int .u8 0) := htc.c0 hil
                                              have d1 : w15.cell? ⟨T q, i * 3 + 1, none⟩ = some (.string ⟨#[]⟩) := htc.c1 hil
                                              have d2 : w15.cell? ⟨T q, i * 3 + 2, none⟩ = some (.bool false) := htc.c2 hil
                                              have heq := eq54 0 ⟨#[]⟩ false
                                              have HM := hid B15
                                              clear B15 htc hps
                                              go_wp2
                                              go_roundw
                                              case rel => exact ⟨i + 1, by omega, by go_num, HM.out⟩
                                              case measure => simp [intOf]; omega
                                            · have q64 : ¬ (q : Int) < 64 := by omega
                                              rw [if_neg (fun h => h64q h.2)] at htc
                                              have d0 : w15.cell? ⟨T q, i * 3, none⟩ = some (.int .u8 (tc q i % 5 : Nat)) := htc.c0 hil
                                              have d1 : w15.cell? ⟨T q, i * 3 + 1, none⟩ = some (.string (ids (tj q i % 4))) := htc.c1 hil
                                              have d2 : w15.cell? ⟨T q, i * 3 + 2, none⟩ = some (.bool (tg q i)) := htc.c2 hil
                                              have hto := hps.oo q hqt
                                              have o0 : w15.cell? ⟨O q, i * 3, none⟩ = some (.int .u8 (tc q i % 5 : Nat)) := hto.c0 hil
                                              have o1 : w15.cell? ⟨O q, i * 3 + 1, none⟩ = some (.string (ids (tj q i % 4))) := hto.c1 hil
                                              have o2 : w15.cell? ⟨O q, i * 3 + 2, none⟩ = some (.bool (tg q i)) := hto.c2 hil
                                              have og := hps.og.cell (i := q) hqt
                                              have heq := eq54 (tc q i % 5 : Nat) (ids (tj q i % 4)) (tg q i)
                                              generalize tc q i % 5 = cc at d0 o0 heq
                                              generalize tj q i % 4 = jj at d1 o1 heq
                                              generalize tg q i = gg at d2 o2 heq
                                              have HM := hid B15
                                              clear B15 htc hps hto
                                              go_wp2
                                              go_quiet (fail)
                                              go_wp2
                                              go_roundw
                                              case rel => exact ⟨i + 1, by omega, by go_num, HM.out.os, HM.out.tape, HM.out.output, HM.out.size, HM.out.block⟩
                                              case measure => simp [intOf]; omega
                                          · have i1 : ¬ (i : Int) < (L q : Int) := by omega
                                            have hiL : i = L q := by omega
                                            subst hiL
                                            have HM := hid B15
                                            clear B15
                                            go_wp2
                                            go_roundw
                                            case rel => exact ⟨q + 1, by omega, by go_num, HM.out⟩
                                            case measure => simp [intOf]; omega
                                    · have q1 : ¬ (q : Int) < (k : Int) := by omega
                                      have hqk : k = q := by omega
                                      subst hqk
                                      have HM := hid B14
                                      clear B14
                                      go_wp2
                                      go_ret
                                      exact ⟨rfl, HP.out.bel.trans (HM.out.mono hIV)⟩
                          · as_aux_lemma =>
                              have k64 : ¬ (64 : Int) < (k : Int) := by omega
                              have hm : min k 64 = k := by omega
                              rw [hm] at g23 HS
                              go_wp2
                              go_loop [45] (fun iv => ∃ i : Nat, i ≤ k ∧ iv = .int .i64 i) (fun iv => k - (intOf iv).toNat)
                              case atStart => exact ⟨0, Nat.zero_le _, rfl⟩
                              case round =>
                                obtain ⟨i, hi, rfl⟩ := hrel
                                by_cases hil : i < k
                                · as_aux_lemma =>
                                    have i1 : (i : Int) < (k : Int) := by omega
                                    have i0 : (0 : Int) ≤ (i : Int) := by omega
                                    obtain ⟨g, rfl, hcell⟩ := HS.out i hil
                                    go_wp2
                                    go_round
                                    case rel => exact ⟨i + 1, by omega, by go_num⟩
                                    case measure => simp [intOf]; omega
                                · have i1 : ¬ (i : Int) < (k : Int) := by omega
                                  have him : k = i := by omega
                                  subst him
                                  go_wp2
                                  clear v8 g23 HS
                                  go_loopw [46] (fun kv wz => ∃ q : Nat, q ≤ k ∧ kv = .int .i64 q ∧ Below V w4 wz) (fun kv _ => k - (intOf kv).toNat)
                                  case atStart => exact ⟨0, Nat.zero_le _, rfl, HM.out⟩
                                  case round =>
                                    obtain ⟨q, hq, rfl, B14⟩ := hrel
                                    clear HM
                                    rename World => w14
                                    by_cases hqt : q < k
                                    · as_aux_lemma =>
                                        have q1 : (q : Int) < (k : Int) := by omega
                                        have q0 : (0 : Int) ≤ (q : Int) := by omega
                                        have hps := HP.out.moved (hV.symm ▸ hIV) (hV.symm ▸ B14)
                                        have hch := (ch_cell hps.si.ch hqt).2.1
                                        have HM := hid B14
                                        clear B14 hps
                                        go_wp2
                                        clear hch
                                        go_loopw [48] (fun iv wz => ∃ i : Nat, i ≤ L q ∧ iv = .int .i64 i ∧ Below V w4 wz) (fun iv _ => L q - (intOf iv).toNat)
                                        case atStart => exact ⟨0, Nat.zero_le _, rfl, HM.out⟩
                                        case round =>
                                          obtain ⟨i, hi, rfl, B15⟩ := hrel
                                          clear HM
                                          rename World => w15
                                          by_cases hil : i < L q
                                          · have i1 : (i : Int) < (L q : Int) := by omega
                                            have i0 : (0 : Int) ≤ (i : Int) := by omega
                                            have hLq := HL.out q hqt
                                            have hps := HP.out.moved (hV.symm ▸ hIV) (hV.symm ▸ B15)
                                            have htc := hps.si.tch q hqt
                                            by_cases h64q : q < 64
                                            · have q64 : (q : Int) < 64 := by omega
                                              rw [if_pos ⟨hqt, h64q⟩] at htc
                                              have d0 : w15.cell? ⟨T q, i * 3, none⟩ = some (.int .u8 0) := htc.c0 hil
                                              have d1 : w15.cell? ⟨T q, i * 3 + 1, none⟩ = some (.string ⟨#[]⟩) := htc.c1 hil
                                              have d2 : w15.cell? ⟨T q, i * 3 + 2, none⟩ = some (.bool false) := htc.c2 hil
                                              have heq := eq54 0 ⟨#[]⟩ false
                                              have HM := hid B15
                                              clear B15 htc hps
                                              go_wp2
                                              go_roundw
                                              case rel => exact ⟨i + 1, by omega, by go_num, HM.out⟩
                                              case measure => simp [intOf]; omega
                                            · have q64 : ¬ (q : Int) < 64 := by omega
                                              rw [if_neg (fun h => h64q h.2)] at htc
                                              have d0 : w15.cell? ⟨T q, i * 3, none⟩ = some (.int .u8 (tc q i % 5 : Nat)) := htc.c0 hil
                                              have d1 : w15.cell? ⟨T q, i * 3 + 1, none⟩ = some (.string (ids (tj q i % 4))) := htc.c1 hil
                                              have d2 : w15.cell? ⟨T q, i * 3 + 2, none⟩ = some (.bool (tg q i)) := htc.c2 hil
                                              have hto := hps.oo q hqt
                                              have o0 : w15.cell? ⟨O q, i * 3, none⟩ = some (.int .u8 (tc q i % 5 : Nat)) := hto.c0 hil
                                              have o1 : w15.cell? ⟨O q, i * 3 + 1, none⟩ = some (.string (ids (tj q i % 4))) := hto.c1 hil
                                              have o2 : w15.cell? ⟨O q, i * 3 + 2, none⟩ = some (.bool (tg q i)) := hto.c2 hil
                                              have og := hps.og.cell (i := q) hqt
                                              have heq := eq54 (tc q i % 5 : Nat) (ids (tj q i % 4)) (tg q i)
                                              generalize tc q i % 5 = cc at d0 o0 heq
                                              generalize tj q i % 4 = jj at d1 o1 heq
                                              generalize tg q i = gg at d2 o2 heq
                                              have HM := hid B15
                                              clear B15 htc hps hto
                                              go_wp2
                                              go_quiet (fail)
                                              go_wp2
                                              go_roundw
                                              case rel => exact ⟨i + 1, by omega, by go_num, HM.out.os, HM.out.tape, HM.out.output, HM.out.size, HM.out.block⟩
                                              case measure => simp [intOf]; omega
                                          · have i1 : ¬ (i : Int) < (L q : Int) := by omega
                                            have hiL : i = L q := by omega
                                            subst hiL
                                            have HM := hid B15
                                            clear B15
                                            go_wp2
                                            go_roundw
                                            case rel => exact ⟨q + 1, by omega, by go_num, HM.out⟩
                                            case measure => simp [intOf]; omega
                                    · have q1 : ¬ (q : Int) < (k : Int) := by omega
                                      have hqk : k = q := by omega
                                      subst hqk
                                      have HM := hid B14
                                      clear B14
                                      go_wp2
                                      go_ret
                                      exact ⟨rfl, HP.out.bel.trans (HM.out.mono hIV)⟩

end Go.Proofs.Ybulkbwok
