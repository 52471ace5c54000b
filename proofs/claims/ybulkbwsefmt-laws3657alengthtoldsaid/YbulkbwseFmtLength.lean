/- DERIVED. The walk of LawS3657ALength. -/
import Derived.Test.YbulkbwseFmtC
import Derived.Laws.IdiomStrings
import Derived.Deep.OwnRows
namespace Go.Proofs.YbulkbwseFmt
open Go.RowKit Go.Extern.Stop Go.Stop Go.Extern

theorem info5 : (Ybaf.prog.info? 5).map (fun i => (i.zero, i.size, i.bytes)) = some (some (.int .u8 0), 1, 1) := by kernel_rfl

/-- The bytes that the law lays. -/
def row (m o : Nat) (c : UInt8) : List UInt8 := (List.replicate m 97).set o c
theorem row_len (m o : Nat) (c : UInt8) : (row m o c).length = m := by simp [row]
theorem row_get (m o j : Nat) (c : UInt8) (h : j < (row m o c).length) : (row m o c)[j] = if j = o then c else 97 := by
  simp only [row, List.getElem_set, List.getElem_replicate]
  by_cases e : o = j
  · simp [e]
  · simp [e, Ne.symm e]
theorem row_ne (m o : Nat) (c : UInt8) (hc : c.toNat ≠ 194) : ∀ j (h : j < (⟨(row m o c).toArray⟩ : ByteArray).size), (⟨(row m o c).toArray⟩ : ByteArray)[j].toNat ≠ 194 := by
  intro j h
  have e : (⟨(row m o c).toArray⟩ : ByteArray)[j] = (row m o c)[j]'(by simpa [ByteArray.size] using h) := rfl
  rw [e, row_get]
  split
  · exact hc
  · decide
theorem row_ctl (m o : Nat) (c : UInt8) (ho : o < m) : hasC ⟨(row m o c).toArray⟩ = ctl c := by
  simp only [hasC]
  cases hk : ctl c
  · rw [List.any_eq_false]
    intro x hx
    obtain ⟨j, hj, rfl⟩ := List.mem_iff_getElem.1 hx
    have : (row m o c).toArray.toList[j]'hj = (row m o c)[j]'(by simpa using hj) := rfl
    rw [this, row_get]
    split
    · rw [hk]; decide
    · decide
  · rw [List.any_eq_true]
    refine ⟨c, ?_, hk⟩
    have h1 : (row m o c)[o]'(by rw [row_len]; exact ho) = c := by rw [row_get]; simp
    have := List.getElem_mem (l := row m o c) (n := o) (by rw [row_len]; exact ho)
    rw [h1] at this
    simpa using this
theorem row_size (m o : Nat) (c : UInt8) : (⟨(row m o c).toArray⟩ : ByteArray).size = m := by simp [ByteArray.size, row_len]
theorem empty_iff (s : ByteArray) : s.toList.isEmpty = decide (s.size = 0) := by
  rw [← decide_eq_emptyBytes, decide_eq_decide]
  exact ⟨fun h => by rw [h]; rfl, fun h => by
    obtain ⟨d⟩ := s
    have : d = #[] := Array.eq_empty_of_size_eq_zero h
    rw [this]; rfl⟩
theorem okId_row (m o : Nat) (c : UInt8) (ho : o < m) : okId ⟨(row m o c).toArray⟩ = (decide (m ≤ 80) && !ctl c) := by
  simp only [okId, row_ctl m o c ho, row_size, empty_iff]
  have : ¬ m = 0 := by omega
  simp [this, Bool.and_comm]

theorem tbl_ne : ∀ r (h : r < 8), (⟨#[97, 47, 90, 0, 31, 127, 32, 126]⟩ : ByteArray)[r].toNat ≠ 194 := by decide
theorem add_row (N j : Nat) : (⟨N, 0, none⟩ : Addr).add j = ⟨N, j, none⟩ := by
  simp only [Addr.add]
  split <;> simp_all
theorem hidC {p : Prop} (h : p) : Hid p := h

set_option maxRecDepth 100000 in
set_option maxHeartbeats 800000 in
theorem length_law (F : Interp) (m p q r : Nat) (w : World) (hF : F.answers w.tape) (hm : m < 256) (hp : p < 256) (hq : (wrap64 (q : Int)).tmod 8 = r) (hr : r < 8) :
    Calls Ybaf.prog 4 #[.int .u8 m, .int .u8 p, .int .u8 q] w fun e w' => e = .returned (.bool true) ∧ Below w.heap.size w w' := by
  have hmk := run_make_row' (P := Ybaf.prog) 29 5 (.int .u8 0) 1 Ybaf.underlying29 info5 rfl .i64 .i64 m (by omega) (by omega) w
  have hrow := World.rowIs_made w (.int .u8 0) m 5
  have hbel := (Below.refl w.heap.size w).alloc (Nat.le_refl _) (.cells (madeCells #[.int .u8 0] m) 5)
  generalize w.alloc (.cells (madeCells #[.int .u8 0] m) 5) = w1 at *
  have k0 : (0 : Int) ≤ r := by omega
  have k1 : (r : Int) < 8 := by omega
  generalize hN : w.heap.size = N at *
  have H := hidC (And.intro hrow hbel)
  clear hrow hbel
  go_enter Ybaf.func4, Ybaf.ntmps4
  go_wp2
  clear hmk
  have hc194 : (⟨#[97, 47, 90, 0, 31, 127, 32, 126]⟩ : ByteArray)[r].toNat ≠ 194 := tbl_ne r hr
  generalize (⟨#[97, 47, 90, 0, 31, 127, 32, 126]⟩ : ByteArray)[r] = c at *
  clear k0 k1
  go_loopw [10] (fun i wr => ∃ k : Nat, k ≤ m ∧ i = .int .i64 k ∧ wr.rowIs N 5 m (fun j => if j < k then .int .u8 97 else .int .u8 0) ∧ Below N w wr) (fun i _ => m - (intOf i).toNat)
  case atStart => exact ⟨0, Nat.zero_le _, rfl, H.out.1.congr (fun i _ => by simp), H.out.2⟩
  case round =>
    obtain ⟨k, hk, rfl, hrow, hbel⟩ := hrel
    clear H
    by_cases hlt : k < m
    · have k1 : (k : Int) < (m : Int) := by omega
      have k0 : (0 : Int) ≤ (k : Int) := by omega
      have hcell := hrow.cell (i := k) hlt
      have hfr := hrow.frozen k
      have hN2 := hrow.lt
      have hset := (hrow.set k (.int .u8 97))
      have hbel' := hbel.setCell (p := ⟨N, k, none⟩) (Nat.le_refl _) (.int .u8 97)
      have HS := hidC (And.intro hset hbel')
      clear hrow hbel hset hbel'
      go_wp2
      go_roundw
      case rel => exact ⟨k + 1, by omega, by go_num, HS.out.1.congr (fun j _ => by
        by_cases e : j = k
        · simp [e]
        · have e2 : (j < k + 1) = (j < k) := by simp; omega
          simp [e, e2]), HS.out.2⟩
      case measure => simp [intOf]; omega
    · have k1 : ¬ (k : Int) < (m : Int) := by omega
      have hkm : k = m := by omega
      subst hkm
      have hrow' : wr.rowIs N 5 k (fun _ => .int .u8 97) := hrow.congr (fun j hj => by simp [hj])
      clear hrow hk
      have hL : ∀ (o : Nat) (wz : World) (l : List UInt8) (_ : l.length = k) (_ : ∀ j (hj : j < l.length), wz.cell? ⟨N, j, none⟩ = some (.int .u8 (l[j].toNat : Int))), Sem.run Ybaf.prog (convert 29 9 (.slice (some ⟨N, 0, none⟩) k k)) wz = .ok (.string ⟨l.toArray⟩) wz := by
        intro o wz l hl hcl
        have := run_convert_bytes_back (P := Ybaf.prog) wz 29 9 5 ⟨N, 0, none⟩ k l Ybaf.underlying29 Ybaf.underlying5 Ybaf.underlying9 (by intro j hj; rw [add_row]; exact hcl j hj)
        rw [hl] at this
        exact this
      have HL := hidC hL
      clear hL
      have hcc : ctl c = (decide (c.toNat < 32) || c.toNat == 127) := rfl
      have HCC := hidC hcc
      clear hcc
      by_cases h0 : k = 0
      · have hcv := HL.out 0 wr [] (by rw [h0]; rfl) (by intro j hj; cases hj)
        have hid := id_bad F ⟨#[]⟩ wr (by rw [hbel.tape]; exact hF) (by simp [okId]) (by decide) (by intro j h; cases h)
        have HID := hidC (And.intro hid hbel)
        subst h0
        clear hid hrow' hbel HL HCC
        by_cases c1 : (c.toNat : Int) < 32
        · go_wp2_with fail
          refine Calls.mono HID.out.1 ?_
          rintro e w2 ⟨⟨t, v, rfl⟩, hb⟩
          have HB := hidC hb
          clear hb
          go_wp2
          go_ret
          exact ⟨rfl, HID.out.2.trans (HB.out.mono (by have := HID.out.2.size; omega))⟩
        · by_cases c2 : ((c.toNat : Int) == 127) = true
          · go_wp2_with fail
            refine Calls.mono HID.out.1 ?_
            rintro e w2 ⟨⟨t, v, rfl⟩, hb⟩
            have HB := hidC hb
            clear hb
            go_wp2
            go_ret
            exact ⟨rfl, HID.out.2.trans (HB.out.mono (by have := HID.out.2.size; omega))⟩
          · have c2' : ((c.toNat : Int) == 127) = false := by simpa using c2
            clear c2
            go_wp2_with fail
            refine Calls.mono HID.out.1 ?_
            rintro e w2 ⟨⟨t, v, rfl⟩, hb⟩
            have HB := hidC hb
            clear hb
            go_wp2
            go_ret
            exact ⟨rfl, HID.out.2.trans (HB.out.mono (by have := HID.out.2.size; omega))⟩
      · obtain ⟨o, ho⟩ : ∃ o : Nat, o = p % k := ⟨_, rfl⟩
        have hok : o < k := by rw [ho]; exact Nat.mod_lt _ (by omega)
        have ho1 : (p : Int) % (k : Int) = (o : Int) := by rw [ho]; rfl
        have ho2 : (p : Int).tmod (k : Int) = (o : Int) := by rw [Int.tmod_eq_emod_of_nonneg (by omega)]; exact ho1
        have o0 : (0 : Int) ≤ (o : Int) := by omega
        have o1 : (o : Int) < (k : Int) := by omega
        have kp : (0 : Int) < (k : Int) := by omega
        have kne : ¬ (k : Int) = 0 := by omega
        have kge : (1 : Int) ≤ (k : Int) := by omega
        have hset := hrow'.set o (.int .u8 c.toNat)
        have hbel' := hbel.setCell (p := ⟨N, o, none⟩) (Nat.le_refl _) (.int .u8 c.toNat)
        have hcell := hrow'.cell (i := o) hok
        have hfr := hrow'.frozen o
        have hlt2 := hrow'.lt
        generalize hW : wr.setCell ⟨N, o, none⟩ (.int .u8 c.toNat) = W at hset hbel'
        have hcv := HL.out 0 W (row k o c) (row_len k o c) (fun j hj => by
          rw [hset.cell (i := j) (by rw [row_len] at hj; exact hj), row_get]
          by_cases e : j = o
          · simp [e]
          · simp [e])
        have hne := row_ne k o c hc194
        have hsz := row_size k o c
        have hev := okId_row k o c hok
        rw [HCC.out] at hev
        generalize hS : (⟨(row k o c).toArray⟩ : ByteArray) = S at *
        have hF2 : F.answers W.tape := by rw [hbel'.tape]; exact hF
        have hgood : okId S = true → Calls Ybaf.prog 9 #[.string S] W fun e w' => e = .returned .nilIface ∧ w' = W := fun h => id_ok S W h hne
        have hbad : okId S = false → Calls Ybaf.prog 9 #[.string S] W fun e w' => (∃ t v, e = .returned (.iface t v)) ∧ Below W.heap.size W w' := fun h => id_bad F S W hF2 h (by omega) hne
        have HID := hidC (And.intro hgood (And.intro hbad (And.intro hev hbel')))
        have HRR := hidC hrow'
        clear hgood hbad hev hbel' hrow' hbel HL HCC hne hset hF2 hsz ho hF hS
        by_cases k80 : (k : Int) ≤ 80
        · skip
          by_cases c1 : (c.toNat : Int) < 32
          · skip
            have hb := HID.out.2.1 (by rw [HID.out.2.2.1]; have a1 : c.toNat < 32 := (by omega); simp [a1])
            have HB := hidC hb
            clear hb
            go_wp2_with fail
            refine Calls.mono HB.out ?_
            rintro e w2 ⟨⟨t, v, rfl⟩, hb⟩
            have HB2 := hidC hb
            clear hb
            go_wp2
            go_ret
            exact ⟨rfl, HID.out.2.2.2.trans (HB2.out.mono (by have := HID.out.2.2.2.size; omega))⟩
          · by_cases c2 : ((c.toNat : Int) == 127) = true
            · skip
              have hb := HID.out.2.1 (by rw [HID.out.2.2.1]; have a1 : (c.toNat : Int) = 127 := (by simpa using c2); simp [show c.toNat = 127 by omega])
              have HB := hidC hb
              clear hb
              go_wp2_with fail
              refine Calls.mono HB.out ?_
              rintro e w2 ⟨⟨t, v, rfl⟩, hb⟩
              have HB2 := hidC hb
              clear hb
              go_wp2
              go_ret
              exact ⟨rfl, HID.out.2.2.2.trans (HB2.out.mono (by have := HID.out.2.2.2.size; omega))⟩
            · have c2 : ((c.toNat : Int) == 127) = false := by simpa using c2
              have a1 : k ≤ 80 := by omega
              have a2 : ¬ c.toNat < 32 := by omega
              have a4 : ¬ (c.toNat : Int) = 127 := by simpa using c2
              have a3 : ¬ c.toNat = 127 := by omega
              have hb := HID.out.1 (by rw [HID.out.2.2.1]; simp [a1, a2, a3])
              clear a1 a2 a3 a4
              have HB := hidC hb
              clear hb
              go_wp2_with fail
              refine Calls.mono HB.out ?_
              rintro e w2 ⟨rfl, rfl⟩
              go_wp2
              go_ret
              exact ⟨rfl, HID.out.2.2.2⟩
        · skip
          by_cases c1 : (c.toNat : Int) < 32
          · skip
            have hb := HID.out.2.1 (by rw [HID.out.2.2.1]; have a1 : c.toNat < 32 := (by omega); simp [a1])
            have HB := hidC hb
            clear hb
            go_wp2_with fail
            refine Calls.mono HB.out ?_
            rintro e w2 ⟨⟨t, v, rfl⟩, hb⟩
            have HB2 := hidC hb
            clear hb
            go_wp2
            go_ret
            exact ⟨rfl, HID.out.2.2.2.trans (HB2.out.mono (by have := HID.out.2.2.2.size; omega))⟩
          · by_cases c2 : ((c.toNat : Int) == 127) = true
            · skip
              have hb := HID.out.2.1 (by rw [HID.out.2.2.1]; have a1 : (c.toNat : Int) = 127 := (by simpa using c2); simp [show c.toNat = 127 by omega])
              have HB := hidC hb
              clear hb
              go_wp2_with fail
              refine Calls.mono HB.out ?_
              rintro e w2 ⟨⟨t, v, rfl⟩, hb⟩
              have HB2 := hidC hb
              clear hb
              go_wp2
              go_ret
              exact ⟨rfl, HID.out.2.2.2.trans (HB2.out.mono (by have := HID.out.2.2.2.size; omega))⟩
            · have c2 : ((c.toNat : Int) == 127) = false := by simpa using c2
              have hb := HID.out.2.1 (by rw [HID.out.2.2.1]; have a1 : ¬ k ≤ 80 := (by omega); simp [a1])
              have HB := hidC hb
              clear hb
              go_wp2_with fail
              refine Calls.mono HB.out ?_
              rintro e w2 ⟨⟨t, v, rfl⟩, hb⟩
              have HB2 := hidC hb
              clear hb
              go_wp2
              go_ret
              exact ⟨rfl, HID.out.2.2.2.trans (HB2.out.mono (by have := HID.out.2.2.2.size; omega))⟩

theorem length_any (F : Interp) (n pos sel : Int) (w : World) (hF : F.answers w.tape) (n0 : 0 ≤ n) (n1 : n ≤ 255) (p0 : 0 ≤ pos) (p1 : pos ≤ 255) (s0 : 0 ≤ sel) (s1 : sel ≤ 255) :
    Calls Ybaf.prog 4 #[.int .u8 n, .int .u8 pos, .int .u8 sel] w fun e w' => e = .returned (.bool true) ∧ Below w.heap.size w w' := by
  obtain ⟨m, rfl⟩ := Int.eq_ofNat_of_zero_le n0
  obtain ⟨p, rfl⟩ := Int.eq_ofNat_of_zero_le p0
  obtain ⟨q, rfl⟩ := Int.eq_ofNat_of_zero_le s0
  refine length_law F m p q (q % 8) w hF (by omega) (by omega) ?_ (by omega)
  have hw : wrap64 (q : Int) = (q : Int) := by
    simp only [wrap64]
    omega
  rw [hw, Int.tmod_eq_emod_of_nonneg (by omega)]
  rfl

end Go.Proofs.YbulkbwseFmt
