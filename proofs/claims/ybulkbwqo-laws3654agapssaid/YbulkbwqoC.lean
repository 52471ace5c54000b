/- DERIVED. The law's own helpers: anl, layout, seq, big. -/
import Derived.Test.YbulkbwqoB
namespace Go.Proofs.Ybulkbwqo
open Go.RowKit

theorem app1 (B : Nat) (v : Value) (l : List UInt8) (c : Int) (b : UInt8) (hc : c = b.toNat) (w : World) (hB : B ≤ w.heap.size) (ho : Own B w v l) (hl : l.length ≤ 20000000) :
    ∃ v' w', (Builtin.append_ #[22, 22] 22 #[v, .slice (some ⟨w.heap.size, 0, none⟩) 1 1]).run Yba.prog (w.alloc (.cells #[.int .u8 c] 5)) = .ok v' w' ∧ Own B w' v' (l ++ [b]) ∧ Stp B [5] w w' := by
  subst hc
  obtain ⟨g, cap, w', h1, h2, h3⟩ := app_lit B v l [b] #[.int .u8 b.toNat] rfl (by simp) w hB ho (by simp; omega)
  exact ⟨_, w', h1, h2, h3⟩
theorem app2 (B : Nat) (v : Value) (l : List UInt8) (w : World) (hB : B ≤ w.heap.size) (ho : Own B w v l) (hl : l.length ≤ 20000000) :
    ∃ v' w', (Builtin.append_ #[22, 22] 22 #[v, .slice (some ⟨w.heap.size, 0, none⟩) 2 2]).run Yba.prog (w.alloc (.cells #[.int .u8 44, .int .u8 32] 5)) = .ok v' w' ∧ Own B w' v' (l ++ [44, 32]) ∧ Stp B [5] w w' := by
  obtain ⟨g, cap, w', h1, h2, h3⟩ := app_lit B v l [44, 32] #[.int .u8 44, .int .u8 32] rfl (by simp) w hB ho (by simp; omega)
  exact ⟨_, w', h1, h2, h3⟩
theorem nl_succ (j : Nat) : nl (j + 1) = nl j ++ [32] := by simp [nl, List.replicate_succ']

set_option maxRecDepth 100000 in
theorem anl_any (B lv wd : Nat) (v : Value) (l : List UInt8) (w : World) (hwd : wd ≤ 4) (hlv : lv ≤ 1000) (hB : B ≤ w.heap.size) (ho : Own B w v l) (hl : l.length ≤ 10000000) :
    Calls Yba.prog 18 #[v, .int .i64 lv, .int .i64 wd] w fun e w' => ∃ v', e = .returned v' ∧ Own B w' v' (l ++ nl (min lv 16 * wd)) ∧ Stp B [5] w w' := by
  obtain ⟨m, hm⟩ : ∃ m, min lv 16 = m := ⟨_, rfl⟩
  have hm16 : m ≤ 16 := by omega
  have hmw : m * wd ≤ 16 * wd := Nat.mul_le_mul_right _ hm16
  have hmi : (if 16 < (lv : Int) then 16 else (lv : Int)) = (m : Int) := by split <;> omega
  obtain ⟨p, hp⟩ : ∃ p, m * wd = p := ⟨_, rfl⟩
  have hpi : (m : Int) * (wd : Int) = (p : Int) := by rw [← hp]; simp
  have hp64 : p ≤ 64 := by omega
  have hw1 : IntKind.i64.wrap (p : Int) = (p : Int) := wrap_small (by omega) (by omega)
  rw [hm, hp]
  clear hm hp
  obtain ⟨v1, w1, hr, ho1, hs1⟩ := app1 B v l 10 10 rfl w hB ho (by omega)
  have H := hid (And.intro ho1 hs1)
  clear ho1 hs1 ho
  go_enter Yba.func18, Yba.ntmps18
  go_wp2_with (at_builtin; refine wpList_append_run (by rfl) _ _ 22 22 (by rfl) v _ _ w1 (by rfl) (by rfl) hr ?_)
  clear hr
  go_loopw [0, 8] (fun bv jv wz => ∃ j : Nat, j ≤ p ∧ jv = .int .i64 j ∧ Own B wz bv (l ++ nl j) ∧ Stp B [5] w wz) (fun _ jv _ => p - (intOf jv).toNat)
  case atStart => exact ⟨0, Nat.zero_le _, rfl, H.out.1, H.out.2⟩
  case round =>
    obtain ⟨j, hj, rfl, hoj, hsj⟩ := hrel
    clear H
    by_cases hlt : j < p
    · have j1 : (j : Int) < (p : Int) := by omega
      obtain ⟨v2, w2, hr2, ho2, hs2⟩ := app1 B u0 (l ++ nl j) 32 32 rfl wr (by have := hsj.bel.size; omega) hoj (by simp [nl_len]; omega)
      rw [List.append_assoc, ← nl_succ] at ho2
      have H := hid (And.intro ho2 (hsj.trans hs2))
      clear ho2 hs2 hoj hsj
      go_wp2_with (at_builtin; refine wpList_append_run (by rfl) _ _ 22 22 (by rfl) u0 _ _ w2 (by rfl) (by rfl) hr2 ?_)
      go_roundw
      case rel => exact ⟨j + 1, by omega, by go_num, H.out.1, H.out.2⟩
      case measure => simp [intOf]; omega
    · have j1 : ¬ (j : Int) < (p : Int) := by omega
      have hjp : p = j := by omega
      subst hjp
      have H := hid (And.intro hoj hsj)
      clear hoj hsj
      go_wp2
      go_ret
      exact ⟨_, rfl, H.out.1, H.out.2⟩

theorem make22 (c : Nat) (hc : c ≤ 1000) (w : World) : (Instr.makeSlice 22 (.int .i64 0) (.int .i64 c)).run Yba.prog w = .ok (.slice (some ⟨w.heap.size, 0, none⟩) 0 c) (w.alloc (.cells (madeCells #[.int .u8 0] c) 5)) := by
  obtain ⟨i, hi, hz, hs, hb⟩ := info_parts info5
  have h := run_make (P := Yba.prog) w 22 5 i _ Yba.underlying22 hi hz .i64 .i64 0 c (by omega) (by omega) (by rw [hb]; omega) (by omega)
  simp only [Int.toNat_natCast, hs] at h
  simpa [Value.cells] using h

theorem nil_string (w : World) : (convert 22 9 (.slice none 0 0)).run Yba.prog w = .ok (.string ⟨#[]⟩) w := by kernel_rfl
/-- The bytes of an owned row as a string. -/
theorem own_string {B : Nat} {w : World} {v : Value} {l : List UInt8} (h : Own B w v l) : (convert 22 9 v).run Yba.prog w = .ok (.string ⟨l.toArray⟩) w := by
  rcases h.2 with ⟨rfl, h0⟩ | ⟨g, cap, cur, rfl, hb, hh, hc, hm, hs, ht⟩
  · have : l = [] := List.eq_nil_of_length_eq_zero h0
    subst this
    exact nil_string w
  · have := run_convert_bytes_back (P := Yba.prog) w 22 9 5 ⟨g, 0, none⟩ cap l Yba.underlying22 Yba.underlying5 Yba.underlying9 (by
      intro j hj
      have e : (⟨g, 0, none⟩ : Addr).add j = ⟨g, j, none⟩ := by unfold Addr.add; split <;> simp_all
      rw [e]
      simp only [World.cell?, hh]
      have h1 : (cur.toList.take (l.length * 1))[j]? = (cs l)[j]? := by rw [ht]
      rw [List.getElem?_take, if_pos (by omega)] at h1
      simp [cs, hj] at h1
      simpa using h1)
    exact this

set_option maxRecDepth 100000 in
theorem layout_any (wd : Nat) (w : World) (hwd : wd ≤ 4) :
    Calls Yba.prog 11 #[.int .i64 wd] w fun e w' => e = .returned (.agg #[.string (nlS (16 * wd)), .int .i64 wd]) ∧ Below w.heap.size w w' := by
  obtain ⟨p, hp⟩ : ∃ p, 16 * wd = p := ⟨_, rfl⟩
  have hpi : 16 * (wd : Int) = (p : Int) := by omega
  have hp64 : p ≤ 64 := by omega
  have hw1 : IntKind.i64.wrap (p : Int) = (p : Int) := wrap_small (by omega) (by omega)
  have hw2 : IntKind.i64.wrap (1 + (p : Int)) = 1 + (p : Int) := wrap_small (by omega) (by omega)
  rw [hp]
  have HP := hid hp
  clear hp
  generalize hB : w.heap.size = B at *
  have s0 : (w.alloc (.cells #[.string ⟨#[]⟩, .int .i64 0] 28)).heap.size = B + 1 := by simp [hB]
  have b0 : (w.alloc (.cells #[.string ⟨#[]⟩, .int .i64 0] 28)).heap[B]? = some (.cells #[.string ⟨#[]⟩, .int .i64 0] 28) := by rw [← hB]; exact heap_alloc_new w _
  have S0 : Stp B [5] w (w.alloc (.cells #[.string ⟨#[]⟩, .int .i64 0] 28)) := (Stp.refl _ _ _).alloc (by omega) _
  generalize hw0 : w.alloc (.cells #[.string ⟨#[]⟩, .int .i64 0] 28) = w0 at *
  have hmk : (Instr.makeSlice 22 (.int .i64 0) (.int .i64 (1 + (p : Int)))).run Yba.prog w0 = .ok (.slice (some ⟨w0.heap.size, 0, none⟩) 0 (1 + p)) (w0.alloc (.cells (madeCells #[.int .u8 0] (1 + p)) 5)) := make22 (1 + p) (by omega) w0
  have o1 : Own B (w0.alloc (.cells (madeCells #[.int .u8 0] (1 + p)) 5)) (.slice (some ⟨w0.heap.size, 0, none⟩) 0 (1 + p)) [] := World.ownsRow_made w0 _ (1 + p) (by omega) (by unfold maxLen; omega) (by simp [size_madeCells])
  rw [s0] at hmk o1
  have S1 := S0.alloc (by omega) (.cells (madeCells #[.int .u8 0] (1 + p)) 5)
  generalize hw1' : w0.alloc (.cells (madeCells #[.int .u8 0] (1 + p)) 5) = w1 at *
  obtain ⟨v2, w2, hr2, o2, S2⟩ := app1 B _ [] 10 10 rfl w1 (by have := S1.bel.size; omega) o1 (by simp)
  have S3 := S1.trans S2
  have b3 := S3.fr
  have hb2 : w2.heap[B]? = some (.cells #[.string ⟨#[]⟩, .int .i64 0] 28) := by
    have h1 : w1.heap[B]? = some (.cells #[.string ⟨#[]⟩, .int .i64 0] 28) := by rw [← hw1', hp_alloc_lt (by omega)]; exact b0
    exact S2.fr _ _ _ (by decide) h1
  have H := hid (And.intro o2 (And.intro S3 hb2))
  clear o1 o2 S0 S1 S2 S3 b3 hb2 b0
  go_enter Yba.func11, Yba.ntmps11
  go_wp2_with (at_builtin; refine wpList_append_run (by rfl) _ _ 22 22 (by rfl) _ _ _ w2 (by rfl) (by rfl) hr2 ?_)
  clear hr2 hmk hw0 hw1'
  go_loopw [3, 4] (fun bv jv wz => ∃ j : Nat, j ≤ p ∧ jv = .int .i64 j ∧ Own B wz bv (nl j) ∧ Stp B [5] w wz ∧ wz.heap[B]? = some (.cells #[.string ⟨#[]⟩, .int .i64 0] 28)) (fun _ jv _ => p - (intOf jv).toNat)
  case atStart => exact ⟨0, Nat.zero_le _, rfl, H.out.1, H.out.2.1, H.out.2.2⟩
  case round =>
    obtain ⟨j, hj, rfl, hoj, hsj, hbj⟩ := hrel
    clear H
    by_cases hlt : j < p
    · have j1 : (j : Int) < (p : Int) := by omega
      obtain ⟨v2, w2, hr2, ho2, hs2⟩ := app1 B u3 (nl j) 32 32 rfl wr (by have := hsj.bel.size; omega) hoj (by simp [nl_len]; omega)
      rw [← nl_succ] at ho2
      have H := hid (And.intro ho2 (And.intro (hsj.trans hs2) (hs2.fr _ _ _ (by decide) hbj)))
      clear ho2 hs2 hoj hsj hbj
      go_wp2_with (at_builtin; refine wpList_append_run (by rfl) _ _ 22 22 (by rfl) u3 _ _ w2 (by rfl) (by rfl) hr2 ?_)
      go_roundw
      case rel => exact ⟨j + 1, by omega, by go_num, H.out.1, H.out.2⟩
      case measure => simp [intOf]; omega
    · have j1 : ¬ (j : Int) < (p : Int) := by omega
      have hjp : p = j := by omega
      subst hjp
      have hcv := own_string hoj
      have c0 : wr.cell? ⟨B, 0, none⟩ = some (.string ⟨#[]⟩) := by simp [World.cell?, hbj]
      have c1 : wr.cell? ⟨B, 1, none⟩ = some (.int .i64 0) := by simp [World.cell?, hbj]
      have f0 : wr.frozen? ⟨B, 0, none⟩ = false := by simp [World.frozen?, hbj]
      have f1 : wr.frozen? ⟨B, 1, none⟩ = false := by simp [World.frozen?, hbj]
      have H := hid (And.intro hsj hbj)
      clear hoj hsj hbj
      go_wp2
      obtain ⟨hsj, hbj⟩ := H.out
      have hg : ((wr.setCell ⟨B, 0, none⟩ (.string ⟨(nl p).toArray⟩)).setCell ⟨B, 1, none⟩ (.int .i64 wd)).heap[B]? = some (.cells #[.string (nlS p), .int .i64 wd] 28) := by
        simp [World.setCell, Array.getElem?_modify, hbj, nlS]
      refine bodyPost_ret (v := .agg #[.string (nlS p), .int .i64 wd]) (results_cell_row (by rfl) _ _ B 28 _ (0, 0) _ (by rfl) hg Yba.underlying28 rfl (by kernel_rfl)) rfl ⟨rfl, ?_⟩
      exact (hsj.bel.setCell (p := ⟨B, 0, none⟩) (Nat.le_refl _) _).setCell (p := ⟨B, 1, none⟩) (Nat.le_refl _) _

theorem owns3_cell {w : World} {base : Nat} {v : Value} {n : Nat} {xs : List Value} (h : w.ownsRow base 3 1 v n xs) : ∃ x cap, v = .slice x n cap ∧ ∀ j, j < n → ∃ g, x = some ⟨g, 0, none⟩ ∧ w.cell? ⟨g, j, none⟩ = xs[j]? := by
  rcases h.2 with ⟨rfl, rfl⟩ | ⟨g, cap, cur, rfl, hb, hh, h1, _, h3, h4⟩
  · exact ⟨none, 0, rfl, fun j hj => by omega⟩
  · refine ⟨_, cap, rfl, fun j hj => ⟨g, rfl, ?_⟩⟩
    have hc : w.cell? ⟨g, j, none⟩ = cur[j]? := by simp [World.cell?, hh]
    rw [hc, ← h4, List.getElem?_take]
    simp [hj]
/-- The numbers 0 .. n-1. -/
def upto (n : Nat) : List Value := (List.range n).map fun (i : Nat) => Value.int .i64 (i : Int)
theorem upto_succ (n : Nat) : upto (n + 1) = upto n ++ [.int .i64 n] := by simp [upto, List.range_succ]

set_option maxRecDepth 100000 in
theorem seq_any (B n : Nat) (v : Value) (w : World) (hn : n ≤ 1000) (ho : w.ownsRow B 3 1 v n (upto n)) :
    Calls Yba.prog 9 #[v, .int .i64 n] w fun e w' => e = .returned (.bool true) ∧ w' = w := by
  obtain ⟨x, cap, rfl, hc⟩ := owns3_cell ho
  have HC := hid hc
  clear hc ho
  go_enter Yba.func9, Yba.ntmps9
  go_wp2
  go_loop [5] (fun iv => ∃ i : Nat, i ≤ n ∧ iv = .int .i64 i) (fun iv => n - (intOf iv).toNat)
  case atStart => exact ⟨0, Nat.zero_le _, rfl⟩
  case round =>
    obtain ⟨i, hi, rfl⟩ := hrel
    by_cases hlt : i < n
    · have i1 : (i : Int) < (n : Int) := by omega
      have i0 : (0 : Int) ≤ (i : Int) := by omega
      obtain ⟨g, rfl, hcell⟩ := HC.out i hlt
      have hcell2 : w.cell? ⟨g, i, none⟩ = some (.int .i64 i) := by rw [hcell]; simp [upto, hlt]
      clear hcell
      go_wp2
      go_round
      case rel => exact ⟨i + 1, by omega, by go_num⟩
      case measure => simp [intOf]; omega
    · have i1 : ¬ (i : Int) < (n : Int) := by omega
      go_wp2
      go_ret
      exact ⟨rfl, rfl⟩

/-- Every item is short. -/
def Items (X : Option Addr) (n : Nat) (S : Nat → ByteArray) (w : World) : Prop := ∀ k, k < n → ∃ b off, X = some ⟨b, off, none⟩ ∧ b < w.heap.size ∧ w.cell? ⟨b, off + k, none⟩ = some (.string (S k)) ∧ (S k).size ≤ 9223372036854775807

set_option maxRecDepth 100000 in
theorem big_any (X : Option Addr) (n cap : Nat) (S : Nat → ByteArray) (Y : Option Addr) (m cap2 : Nat) (w : World) (hI : Items X n S w) :
    Calls Yba.prog 6 #[.slice Y m cap2, .slice X n cap] w fun e w' => (e = .returned (.bool true) ∨ e = .returned (.bool false) ∧ m ≤ 65536 ∧ n ≤ 1024 ∧ ∀ k, k < n → (S k).size ≤ 4096) ∧ w' = w := by
  by_cases h1 : (65536 : Int) < m
  · go_enter Yba.func6, Yba.ntmps6
    go_wp2
    go_ret
    exact ⟨.inl rfl, rfl⟩
  by_cases h2 : (1024 : Int) < n
  · go_enter Yba.func6, Yba.ntmps6
    go_wp2
    go_ret
    exact ⟨.inl rfl, rfl⟩
  have HI := hid hI
  clear hI
  go_enter Yba.func6, Yba.ntmps6
  go_wp2
  go_loop [17] (fun iv => ∃ i : Nat, i ≤ n ∧ iv = .int .i64 i ∧ ∀ k, k < i → (S k).size ≤ 4096) (fun iv => n - (intOf iv).toNat)
  case atStart => exact ⟨0, Nat.zero_le _, rfl, fun k hk => by omega⟩
  case round =>
    obtain ⟨i, hi, rfl, hS⟩ := hrel
    have HS := hid hS
    clear hS
    by_cases hlt : i < n
    · have i1 : (i : Int) < (n : Int) := by omega
      have i0 : (0 : Int) ≤ (i : Int) := by omega
      obtain ⟨b, off, rfl, hbl, hcell, hsz⟩ := HI.out i hlt
      by_cases hlong : (4096 : Int) < ((S i).size : Int)
      · go_wp2
        go_ret
        exact ⟨.inl rfl, rfl⟩
      · go_wp2
        go_round
        case rel => exact ⟨i + 1, by omega, by go_num, fun k hk => by
          by_cases e : k = i
          · subst e; omega
          · exact HS.out k (by omega)⟩
        case measure => simp [intOf]; omega
    · have i1 : ¬ (i : Int) < (n : Int) := by omega
      have hin : i = n := by omega
      subst hin
      go_wp2
      go_ret
      exact ⟨.inr ⟨rfl, by omega, by omega, HS.out⟩, rfl⟩
end Go.Proofs.Ybulkbwqo
