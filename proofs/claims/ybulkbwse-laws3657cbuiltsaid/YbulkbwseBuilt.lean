/- DERIVED. The walk of LawS3657CBuilt. -/
import Derived.Test.YbulkbwseRaw
import Derived.Laws.IdiomStrings
import Derived.Deep.OwnRows
namespace Go.Proofs.Ybulkbwse
open Go.RowKit

theorem info5 : (Yba.prog.info? 5).map (fun i => (i.zero, i.size, i.bytes)) = some (some (.int .u8 0), 1, 1) := by kernel_rfl
theorem add_row (N j : Nat) : (⟨N, 0, none⟩ : Addr).add j = ⟨N, j, none⟩ := by
  simp only [Addr.add]
  split <;> simp_all

set_option maxRecDepth 100000 in
set_option maxHeartbeats 800000 in
theorem build_any (A : Option Addr) (n cap : Nat) (zs : Nat → Int) (w : World) (hn : n ≤ 1024)
    (hz : ∀ j, j < n → 0 ≤ zs j ∧ zs j ≤ 255)
    (hc : ∀ j, j < n → ∃ b off, A = some ⟨b, off, none⟩ ∧ b < w.heap.size ∧ w.cell? ⟨b, off + j, none⟩ = some (.int .u8 (zs j))) :
    Calls Yba.prog 5 #[.slice A n cap] w fun e w' => ∃ s : ByteArray, e = .returned (.string s) ∧ s.size ≤ 1024 ∧ Below w.heap.size w w' := by
  have hmk := run_make_row' (P := Yba.prog) 23 5 (.int .u8 0) 1 Yba.underlying23 info5 rfl .i64 .i64 n (by omega) (by omega) w
  have hrow := World.rowIs_made w (.int .u8 0) n 5
  have hbel := (Below.refl w.heap.size w).alloc (Nat.le_refl _) (.cells (madeCells #[.int .u8 0] n) 5)
  generalize w.alloc (.cells (madeCells #[.int .u8 0] n) 5) = w1 at *
  have HX := hid (And.intro hz hc)
  clear hz hc
  generalize hN : w.heap.size = N at *
  have H := hid (And.intro hrow hbel)
  clear hrow hbel
  go_enter Yba.func5, Yba.ntmps5
  go_wp2
  clear hmk
  go_loopw [4] (fun i wr => ∃ (k : Nat) (f : Nat → UInt8), k ≤ n ∧ i = .int .i64 k ∧ wr.rowIs N 5 n (fun j => .int .u8 ((f j).toNat : Int)) ∧ Below N w wr) (fun i _ => n - (intOf i).toNat)
  case atStart => exact ⟨0, fun _ => 0, Nat.zero_le _, rfl, H.out.1, H.out.2⟩
  case round =>
    obtain ⟨k, f, hk, rfl, hrow, hbel⟩ := hrel
    clear H
    by_cases hlt : k < n
    · have k1 : (k : Int) < (n : Int) := by omega
      have k0 : (0 : Int) ≤ (k : Int) := by omega
      obtain ⟨b, off, rfl, hb, hcb⟩ := HX.out.2 k hlt
      have hb0 : wr.cell? ⟨b, off + k, none⟩ = some (.int .u8 (zs k)) := by rw [hbel.cell (p := ⟨b, off + k, none⟩) (by show b < N; omega)]; exact hcb
      have z0 := (HX.out.1 k hlt).1
      have z1 := (HX.out.1 k hlt).2
      obtain ⟨r, hr⟩ : ∃ r : Nat, zs k % 3 = r := ⟨(zs k % 3).toNat, by omega⟩
      have hr' : (zs k).tmod 3 = r := by rw [Int.tmod_eq_emod_of_nonneg z0]; exact hr
      have r0 : (0 : Int) ≤ r := by omega
      have r1 : (r : Int) < 3 := by omega
      have hcell := hrow.cell (i := k) hlt
      have hfr := hrow.frozen k
      have hN2 := hrow.lt
      have HS := hid (And.intro hrow hbel)
      clear hrow hbel hcb
      go_wp2
      go_roundw
      case rel =>
        obtain ⟨hrow, hbel⟩ := HS.out
        refine ⟨k + 1, fun j => if j = k then (⟨#[97, 98, 46]⟩ : ByteArray)[r]'(by show r < 3; omega) else f j, by omega, by go_num, ?_, hbel.setCell (p := ⟨N, k, none⟩) (Nat.le_refl _) _⟩
        refine (hrow.set k _).congr fun j _ => ?_
        by_cases e : j = k
        · simp [e]
        · simp [e]
      case measure => simp [intOf]; omega
    · have k1 : ¬ (k : Int) < (n : Int) := by omega
      have hcv := run_convert_bytes_back (P := Yba.prog) wr 23 9 5 ⟨N, 0, none⟩ n ((List.range n).map f) Yba.underlying23 Yba.underlying5 Yba.underlying9 (by
        intro j hj
        rw [add_row, hrow.cell (i := j) (by simpa using hj)]
        simp)
      rw [List.length_map, List.length_range] at hcv
      have HB := hid hbel
      clear hrow hbel
      go_wp2
      go_ret
      exact ⟨_, rfl, by simp [ByteArray.size]; omega, HB.out⟩

structure Pre (X : Option Addr) (n : Nat) (A : Nat → Option Addr) (L C : Nat → Nat) (Z : Nat → Nat → Int) (w : World) : Prop where
  outer : ∀ i, i < n → ∃ b off, X = some ⟨b, off, none⟩ ∧ b < w.heap.size ∧ w.cell? ⟨b, off + i, none⟩ = some (.slice (A i) (L i) (C i))
  inner : ∀ i, i < n → ∀ j, j < L i → (0 ≤ Z i j ∧ Z i j ≤ 255) ∧ ∃ b off, A i = some ⟨b, off, none⟩ ∧ b < w.heap.size ∧ w.cell? ⟨b, off + j, none⟩ = some (.int .u8 (Z i j))

set_option maxRecDepth 100000 in
set_option maxHeartbeats 800000 in
theorem built_law (X Y : Option Addr) (n cap m cap2 : Nat) (A : Nat → Option Addr) (L C : Nat → Nat) (Z : Nat → Nat → Int) (zs : Nat → Int) (w : World) (hn : n ≤ 256) (hm : m ≤ 1024)
    (hX : Pre X n A L C Z w) (hz : ∀ j, j < m → 0 ≤ zs j ∧ zs j ≤ 255)
    (hc : ∀ j, j < m → ∃ b off, Y = some ⟨b, off, none⟩ ∧ b < w.heap.size ∧ w.cell? ⟨b, off + j, none⟩ = some (.int .u8 (zs j))) :
    Calls Yba.prog 3 #[.slice X n cap, .slice Y m cap2] w fun e w' => e = .returned (.bool true) ∧ Below w.heap.size w w' := by
  have HX := hid (And.intro hX (And.intro hz hc))
  clear hX hz hc
  have a1 : ¬ (256 : Int) < n := by omega
  have a2 : ¬ (1024 : Int) < m := by omega
  go_enter Yba.func3, Yba.ntmps3
  go_wp2
  go_loop [5] (fun i => ∃ k : Nat, k ≤ n ∧ i = .int .i64 k ∧ ∀ i, i < k → L i ≤ 1024) (fun i => n - (intOf i).toNat)
  case atStart => exact ⟨0, Nat.zero_le _, rfl, fun i hi => by omega⟩
  case round =>
    obtain ⟨k, hk, rfl, hL⟩ := hrel
    have HL := hid hL
    clear hL
    by_cases hlt : k < n
    · have k1 : (k : Int) < (n : Int) := by omega
      have k0 : (0 : Int) ≤ (k : Int) := by omega
      obtain ⟨b, off, rfl, hb, hcb⟩ := HX.out.1.outer k hlt
      by_cases hlong : (1024 : Int) < (L k : Int)
      · go_wp2
        go_ret
        exact ⟨rfl, Below.refl _ _⟩
      · go_wp2
        go_round
        case rel => exact ⟨k + 1, by omega, by go_num, fun i hi => by
          by_cases e : i = k
          · subst e; omega
          · exact HL.out i (by omega)⟩
        case measure => simp [intOf]; omega
    · have k1 : ¬ (k : Int) < (n : Int) := by omega
      have hkn : k = n := by omega
      subst hkn
      have hmk := run_make_row' (P := Yba.prog) 24 9 (.string ⟨#[]⟩) 16 Yba.underlying24 info9 rfl .i64 .i64 k (by omega) (by omega) w
      have hrow := World.rowIs_made w (.string ⟨#[]⟩) k 9
      have hbel := (Below.refl w.heap.size w).alloc (Nat.le_refl _) (.cells (madeCells #[.string ⟨#[]⟩] k) 9)
      generalize w.alloc (.cells (madeCells #[.string ⟨#[]⟩] k) 9) = w1 at *
      generalize hN : w.heap.size = N at *
      have H := hid (And.intro hrow hbel)
      clear hrow hbel
      go_wp2
      clear hmk
      go_loopw [7] (fun i wr => ∃ (q : Nat) (f : Nat → ByteArray), q ≤ k ∧ i = .int .i64 q ∧ (∀ j, (f j).size ≤ 1024) ∧ wr.rowIs N 9 k (fun j => .string (f j)) ∧ Below N w wr) (fun i _ => k - (intOf i).toNat)
      case atStart => exact ⟨0, fun _ => ⟨#[]⟩, Nat.zero_le _, rfl, fun _ => (by decide : (⟨#[]⟩ : ByteArray).size ≤ 1024), H.out.1, H.out.2⟩
      case round =>
        obtain ⟨q, f, hq, rfl, hf, hrow, hbel⟩ := hrel
        clear H
        by_cases hlt : q < k
        · have k1 : (q : Int) < (k : Int) := by omega
          have k0 : (0 : Int) ≤ (q : Int) := by omega
          obtain ⟨b, off, rfl, hb, hcb⟩ := HX.out.1.outer q hlt
          have hb0 : wr.cell? ⟨b, off + q, none⟩ = some (.slice (A q) (L q) (C q)) := by rw [hbel.cell (p := ⟨b, off + q, none⟩) (by show b < N; omega)]; exact hcb
          have hbu := build_any (A q) (L q) (C q) (Z q) wr (HL.out q hlt) (fun j hj => (HX.out.1.inner q hlt j hj).1) (fun j hj => by
            obtain ⟨b', off', e, hb', hc'⟩ := (HX.out.1.inner q hlt j hj).2
            refine ⟨b', off', e, by have := hbel.size; omega, ?_⟩
            rw [hbel.cell (p := ⟨b', off' + j, none⟩) (by show b' < N; omega)]; exact hc')
          have HS := hid (And.intro hf (And.intro hrow (And.intro hbel hbu)))
          clear hf hrow hbel hbu hcb
          go_wp2_with fail
          refine Calls.mono HS.out.2.2.2 ?_
          rintro e w2 ⟨s, rfl, hs, hb2⟩
          obtain ⟨hf, hrow, hbel, -⟩ := HS.out
          clear HS
          have hrow2 : w2.rowIs N 9 k (fun j => .string (f j)) := hrow.of_block (hb2.block N hrow.lt)
          have hbel2 : Below N w w2 := hbel.trans (hb2.mono (by have := hrow.lt; omega))
          have hcell := hrow2.cell (i := q) hlt
          have hfr := hrow2.frozen q
          have hN2 := hrow2.lt
          have HS := hid (And.intro hf (And.intro hrow2 (And.intro hbel2 hs)))
          clear hf hrow hbel hb2 hrow2 hbel2 hs
          go_wp2
          go_roundw
          case rel =>
            obtain ⟨hf, hrow, hbel, hs⟩ := HS.out
            refine ⟨q + 1, fun j => if j = q then s else f j, by omega, by go_num, fun j => ?_, ?_, hbel.setCell (p := ⟨N, q, none⟩) (Nat.le_refl _) _⟩
            · by_cases e : j = q
              · simp [e, hs]
              · simp [e, hf j]
            · refine (hrow.set q _).congr fun j _ => ?_
              by_cases e : j = q
              · simp [e]
              · simp [e]
          case measure => simp [intOf]; omega
        · have k1 : ¬ (q : Int) < (k : Int) := by omega
          have hbu := build_any Y m cap2 zs wr hm HX.out.2.1 (fun j hj => by
            obtain ⟨b', off', e, hb', hc'⟩ := HX.out.2.2 j hj
            refine ⟨b', off', e, by have := hbel.size; omega, ?_⟩
            rw [hbel.cell (p := ⟨b', off' + j, none⟩) (by show b' < N; omega)]; exact hc')
          have HS := hid (And.intro hf (And.intro hrow (And.intro hbel hbu)))
          clear hf hrow hbel hbu
          go_wp2_with fail
          refine Calls.mono HS.out.2.2.2 ?_
          rintro e w2 ⟨s, rfl, hs, hb2⟩
          obtain ⟨hf, hrow, hbel, -⟩ := HS.out
          clear HS
          have hrow2 : w2.rowIs N 9 k (fun j => .string (f j)) := hrow.of_block (hb2.block N hrow.lt)
          have hbel2 : Below N w w2 := hbel.trans (hb2.mono (by have := hrow.lt; omega))
          have hlen : ((List.range k).map f).length = k := by simp
          have hcell : ∀ j p, ((List.range k).map f)[j]? = some p → w2.cell? ⟨N, j, none⟩ = some (.string p) := fun j p hj => by
            have hjl : j < k := by rw [← hlen]; exact (List.getElem?_eq_some_iff.1 hj).1
            rw [hrow2.cell hjl]
            simp [hjl] at hj
            rw [hj]
          have hsz : ∀ p ∈ (List.range k).map f, p.size ≤ 9223372036854775807 := fun p hp => by
            obtain ⟨j, _, rfl⟩ := List.mem_map.1 hp
            have := hf j
            omega
          have hlt2 := hrow2.lt
          have HC := hid (And.intro hcell (And.intro hsz (And.intro hlen (And.intro hbel2 (And.intro hlt2 hs)))))
          clear hf hrow hbel hb2 hrow2 hbel2 hcell hsz hlen hlt2 hs
          generalize (List.range k).map f = ps at HC
          go_wp2_with fail
          refine (matches_any N k k (.slice none 0 0) ps s _ HC.out.2.2.1 (by omega) (by have := HC.out.2.2.2.2.1; simp; omega)
            (fun j p hj => by rw [World.cell?_alloc_past _ _ _ HC.out.2.2.2.2.1]; exact HC.out.1 j p hj)).mono ?_
          rintro e w3 ⟨rfl, hb3⟩
          have hb3' : Below w2.heap.size w2 w3 := ((Below.refl _ _).alloc (Nat.le_refl _) _).trans (hb3.mono (by simp))
          have HB3 := hid hb3'
          clear hb3 hb3'
          have HC3 : Hid (∀ j p, ps[j]? = some p → w3.cell? ⟨N, j, none⟩ = some (.string p)) := fun j p hj => by rw [HB3.out.cell (p := ⟨N, j, none⟩) HC.out.2.2.2.2.1]; exact HC.out.1 j p hj
          go_wp2_with fail
          refine (model_any N k k ps s _ HC.out.2.2.1 (by omega) HC3.out HC.out.2.1 (by have := HC.out.2.2.2.2.2; omega)).mono ?_
          rintro e w4 ⟨rfl, z, rfl⟩
          have HE : Hid (Below N w w3) := HC.out.2.2.2.1.trans (HB3.out.mono (by have := HC.out.2.2.2.2.1; omega))
          go_wp2
          go_ret
          exact ⟨rfl, HE.out.os, HE.out.tape, HE.out.output, HE.out.size, fun i hi => HE.out.block i (by omega)⟩

set_option maxRecDepth 100000 in
set_option maxHeartbeats 400000 in
theorem built_long (X Y : Option Addr) (n cap m cap2 : Nat) (w : World) (h : (256 : Int) < (n : Int)) :
    Calls Yba.prog 3 #[.slice X n cap, .slice Y m cap2] w fun e w' => e = .returned (.bool true) ∧ Below w.heap.size w w' := by
  go_enter Yba.func3, Yba.ntmps3
  go_wp2
  go_ret
  exact ⟨rfl, Below.refl _ _⟩
set_option maxRecDepth 100000 in
set_option maxHeartbeats 400000 in
theorem built_long2 (X Y : Option Addr) (n cap m cap2 : Nat) (w : World) (h : ¬ (256 : Int) < (n : Int)) (h2 : (1024 : Int) < (m : Int)) :
    Calls Yba.prog 3 #[.slice X n cap, .slice Y m cap2] w fun e w' => e = .returned (.bool true) ∧ Below w.heap.size w w' := by
  go_enter Yba.func3, Yba.ntmps3
  go_wp2
  go_ret
  exact ⟨rfl, Below.refl _ _⟩
end Go.Proofs.Ybulkbwse
