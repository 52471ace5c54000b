/- DERIVED. The law's model, one item a line. -/
import Derived.Test.YbulkbwqoD
namespace Go.Proofs.Ybulkbwqo
open Go.RowKit

theorem item_itm (X : Option Addr) (n cap : Nat) (S : Nat → ByteArray) (i : Nat) (w : World) (hn : n ≤ 1024) (hi : i ≤ 1000) (h : ∀ k, k < n → ∃ b off, X = some ⟨b, off, none⟩ ∧ w.cell? ⟨b, off + k, none⟩ = some (.string (S k))) :
    Calls Yba.prog 16 #[.slice X n cap, .int .i64 i] w fun e w' => e = .returned (.string (itm n S i)) ∧ w' = w := item_any X n cap S i w hn hi h
theorem info50 : (Yba.prog.info? 50).map (fun i => (i.zero, i.size, i.bytes)) = some (some (.int .u8 0), 1, 1) := by kernel_rfl
def seamT : Nat → List Value
  | 0 => [.int .u8 0]
  | i + 1 => seamT i ++ [.int .u8 1, .int .u8 2]
theorem seamT_len : ∀ i, (seamT i).length = 1 + 2 * i
  | 0 => rfl
  | i + 1 => by simp [seamT, seamT_len i]; omega
theorem app_seam (B : Nat) (v : Value) (i : Nat) (w : World) (hB : B ≤ w.heap.size) (ho : w.ownsRow B 50 1 v (1 + 2 * i) (seamT i)) (hi : i ≤ 1000) :
    ∃ v' w', (Builtin.append_ #[42, 42] 42 #[v, .slice (some ⟨w.heap.size, 0, none⟩) 2 2]).run Yba.prog (w.alloc (.cells #[.int .u8 1, .int .u8 2] 50)) = .ok v' w' ∧ w'.ownsRow B 50 1 v' (1 + 2 * (i + 1)) (seamT (i + 1)) ∧ Stp B [50] w w' := by
  obtain ⟨i5, hi5, hz5, hs5, hb5⟩ := info_parts info50
  have ho1 : (w.alloc (.cells #[.int .u8 1, .int .u8 2] 50)).ownsRow B 50 1 v (1 + 2 * i) (seamT i) := owns_moved ho fun g hg => by
    obtain ⟨_, c, hc⟩ := owns_row ho hg
    exact hp_alloc_lt (lt_of_some hc)
  obtain ⟨v', w', hr, ho', hg, _, _⟩ := run_append_own_at (P := Yba.prog) (w.alloc (.cells #[.int .u8 1, .int .u8 2] 50)) B 42 42 50 i5 _ 1 1 Yba.underlying42 hi5 hz5 hs5 hb5 rfl (by omega) v (1 + 2 * i) (seamT i) ho1 ⟨w.heap.size, 0, none⟩ 2 2 [.int .u8 1, .int .u8 2] rfl
    (World.news_of_block (cs := #[.int .u8 1, .int .u8 2]) (t := 50) (fr := (0, 0)) (heap_alloc_new w _)) (by simp [Value.oneCell']) (by unfold maxLen; omega) (by omega) (by simp; omega)
  refine ⟨v', w', hr, ?_, grown_stp ((Stp.refl B [50] w).alloc hB _) hB ho1 (by simp) hg⟩
  have e : 1 + 2 * (i + 1) = 1 + 2 * i + 2 := by omega
  rw [e]; exact ho'

/-- The line breaks that the law lays for item i. -/
def bk (l : List UInt8) (i : Nat) : Nat := if h : i < l.length then l[i].toNat % 3 else 0
theorem bk_le (l : List UInt8) (i : Nat) : bk l i ≤ 2 := by unfold bk; split <;> omega
set_option maxRecDepth 100000 in
theorem brk_any (X : Option Addr) (l : List UInt8) (c i : Nat) (w : World) (hi : i ≤ 1000) (h : Bytes X l w) : Calls Yba.prog 13 #[.slice X l.length c, .int .i64 i] w fun e w' => e = .returned (.int .i64 (bk l i : Nat)) ∧ w' = w := by
  by_cases hlt : i < l.length
  · obtain ⟨b, off, rfl, _, hc⟩ := h i hlt
    have i1 : (i : Int) < (l.length : Int) := by omega
    have i0 : (0 : Int) ≤ (i : Int) := by omega
    have hb : bk l i = l[i].toNat % 3 := by simp [bk, hlt]
    have hx : l[i].toNat ≤ 255 := by have := l[i].toNat_lt; omega
    have HB := hid hb
    clear h hb
    generalize l[i].toNat = x at *
    have e1 : (x : Int) % 3 = ((x % 3 : Nat) : Int) := by omega
    have e2 : (x : Int).tmod 3 = ((x % 3 : Nat) : Int) := by rw [Int.tmod_eq_emod_of_nonneg (by omega)]; exact e1
    rw [HB.out]
    generalize x % 3 = y at *
    go_enter Yba.func13, Yba.ntmps13
    go_wp2
    go_ret
    exact ⟨rfl, rfl⟩
  · have i1 : ¬ (i : Int) < (l.length : Int) := by omega
    have hb : bk l i = 0 := by simp [bk, hlt]
    rw [hb]
    go_enter Yba.func13, Yba.ntmps13
    go_wp2
    go_ret
    exact ⟨rfl, rfl⟩

def gpF (eb sb : List UInt8) (N i : Nat) : Bool := decide (i + 1 < N) && decide (2 ≤ max (bk eb i) (bk sb i))

theorem Stp.to50 {B : Nat} {a b : World} (h : Stp B [5] a b) : Stp B [5, 50] a b := h.mono (Nat.le_refl _) (by simp)

theorem Stp.up {B : Nat} {a b : World} (h : Stp B [50] a b) : Stp B [5, 50] a b := h.mono (Nat.le_refl _) (by simp)
section
variable {Y : Option Addr} {l0 : List UInt8} {c0 : Nat} {op cl : UInt8} {lv wd N : Nat} {lines bare : Bool} {X : Option Addr} {n cap : Nat} {S : Nat → ByteArray} {X1 X2 : Option Addr} {n1 c1 n2 c2 : Nat} {eb sb : List UInt8} {w : World}

set_option maxRecDepth 100000 in
set_option maxHeartbeats 4000000 in
theorem model_empty (hY : Y = none → l0.length = 0 ∧ c0 = 0) (hl : l0.length ≤ 65536) (hp : Bytes Y l0 w) (hwd : wd ≤ 4) (hlv : lv ≤ 255) :
    Calls Yba.prog 8 #[.slice Y l0.length c0, .int .u8 op.toNat, .int .u8 cl.toNat, .int .i64 lv, .int .i64 wd, .bool true, .bool bare, .slice X n cap, .int .i64 (0 : Nat), .slice X1 n1 c1, .slice X2 n2 c2, .bool true] w
      fun e w' => ∃ v sv, e = .returned (.tuple #[v, sv]) ∧ Own w.heap.size w' v (l0 ++ [op] ++ nl (min lv 16 * wd) ++ [cl]) ∧ w'.ownsRow w.heap.size 50 1 sv 1 (seamT 0) ∧ Below w.heap.size w w' := by
  obtain ⟨v1, w1, hr1, o1, S1⟩ := app_pre w.heap.size Y l0 c0 w hY hl (Nat.le_refl _) hp
  obtain ⟨v2, w2, hr2, o2, S2⟩ := app1 w.heap.size v1 l0 op.toNat op rfl w1 S1.bel.size o1 (by omega)
  have S12 := S1.trans S2
  have hnl := anl_any w.heap.size lv wd v2 _ w2 hwd (by omega) S12.bel.size o2 (by simp; omega)
  obtain ⟨T, hT⟩ : ∃ T, T = l0 ++ [op] ++ nl (min lv 16 * wd) ++ [cl] := ⟨_, rfl⟩
  rw [← hT]
  have hnlen := nlm_len (lv := lv) hwd
  have HT0 := hid (And.intro hT (And.intro hnlen hnl))
  have H := hid S12
  clear o1 S1 o2 S2 S12 hp hY hT hnl hnlen
  go_enter Yba.func8, Yba.ntmps8
  go_wp2_with (at_builtin; first | (refine wpList_append_run (by rfl) _ _ 22 22 (by rfl) (.slice none 0 0) _ _ w1 (by rfl) (by rfl) hr1 ?_) | (refine wpList_append_run (by rfl) _ _ 22 22 (by rfl) v1 _ _ w2 (by rfl) (by rfl) hr2 ?_))
  clear hr1 hr2
  refine HT0.out.2.2.mono ?_
  rintro e w3 ⟨v3, rfl, o3, S3⟩
  have hs3 := H.out.trans S3
  obtain ⟨v4, w4, hr4, o4, S4⟩ := app1 w.heap.size v3 _ cl.toNat cl rfl w3 hs3.bel.size o3 (by have := HT0.out.2.1; simp; omega)
  have hs4 := hs3.trans S4
  have osv := World.ownsRow_lit (base := w.heap.size) (e := 50) (size := 1) w4 #[.int .u8 0] 1 hs4.bel.size (by unfold maxLen; omega) rfl
  have o5 := o4.alloc (.cells #[.int .u8 0] 50)
  have H2 := hid (And.intro o5 (And.intro osv (hs4.bel.alloc hs4.bel.size (.cells #[.int .u8 0] 50))))
  clear o3 S3 hs3 o4 S4 hs4 osv o5 H
  go_wp2_with (at_builtin; refine wpList_append_run (by rfl) _ _ 22 22 (by rfl) v3 _ _ w4 (by rfl) (by rfl) hr4 ?_)
  go_ret2
  refine ⟨_, _, rfl, ?_, ?_, H2.out.2.2⟩
  · rw [HT0.out.1]; exact H2.out.1
  · exact H2.out.2.1

set_option maxRecDepth 100000 in
set_option maxHeartbeats 40000000 in
theorem model_expanded (hY : Y = none → l0.length = 0 ∧ c0 = 0) (hl : l0.length ≤ 65536) (hp : Bytes Y l0 w) (hI : Items X n S w) (hn : n ≤ 1024) (hS : ∀ k, k < n → (S k).size ≤ 4096) (hN : N ≤ 600) (hN0 : 0 < N) (hlv : lv ≤ 255) (hwd : wd ≤ 4) (hx : lines = true ∨ lines = false ∧ lv < 16)
    (he : Bytes X1 eb w) (hs : Bytes X2 sb w) :
    Calls Yba.prog 8 #[.slice Y l0.length c0, .int .u8 op.toNat, .int .u8 cl.toNat, .int .i64 lv, .int .i64 wd, .bool lines, .bool bare, .slice X n cap, .int .i64 N, .slice X1 eb.length c1, .slice X2 sb.length c2, .bool true] w
      fun e w' => ∃ v sv, e = .returned (.tuple #[v, sv]) ∧ Own w.heap.size w' v (l0 ++ [op] ++ expT (itm n S) lv wd N bare (gpF eb sb N) N ++ [cl]) ∧ w'.ownsRow w.heap.size 50 1 sv (1 + 2 * N) (seamT N) ∧ Below w.heap.size w w' := by
  obtain ⟨v1, w1, hr1, o1, S1⟩ := app_pre w.heap.size Y l0 c0 w hY hl (Nat.le_refl _) hp
  obtain ⟨v2, w2, hr2, o2, S2⟩ := app1 w.heap.size v1 l0 op.toNat op rfl w1 S1.bel.size o1 (by omega)
  have S12 := S1.trans S2
  have osv := World.ownsRow_lit (base := w.heap.size) (e := 50) (size := 1) w2 #[.int .u8 0] 1 S12.bel.size (by unfold maxLen; omega) rfl
  have S3 := S12.alloc (Nat.le_refl _) (.cells #[.int .u8 0] 50)
  have o3 := o2.alloc (.cells #[.int .u8 0] 50)
  have hnl := anl_any w.heap.size (lv + 1) wd v2 _ _ hwd (by omega) S3.bel.size o3 (by simp; omega)
  generalize hw3 : w2.alloc (.cells #[.int .u8 0] 50) = w3 at *
  obtain ⟨T, hT⟩ : ∃ T, T = l0 ++ [op] ++ expT (itm n S) lv wd N bare (gpF eb sb N) N ++ [cl] := ⟨_, rfl⟩
  rw [← hT]
  have hit := itm_size hS
  have hnlen := nlm_len (lv := lv + 1) hwd
  have HT0 := hid (And.intro hT (And.intro hnlen hnl))
  have H := hid (And.intro S3.to50 osv)
  have HI := hid (And.intro hI (And.intro hit (And.intro he hs)))
  clear o1 S1 o2 S2 S12 S3 o3 hp hY hT hnl hnlen osv hI hit hS he hs
  have n0 : (0 : Int) < (N : Int) := by omega
  have n00 : ¬ (N : Int) = 0 := by omega
  have hx' : lines = true ∨ lines = false ∧ (lv : Int) < 16 := hx.imp id fun h => ⟨h.1, by omega⟩
  clear hx
  rcases hx' with rfl | ⟨rfl, h16⟩
  · skip
    go_enter Yba.func8, Yba.ntmps8
    go_wp2_with (at_builtin; first | (refine wpList_append_run (by rfl) _ _ 22 22 (by rfl) (.slice none 0 0) _ _ w1 (by rfl) (by rfl) hr1 ?_) | (refine wpList_append_run (by rfl) _ _ 22 22 (by rfl) v1 _ _ w2 (by rfl) (by rfl) hr2 ?_))
    clear hr1 hr2 hw3
    refine HT0.out.2.2.mono ?_
    rintro e w4 ⟨v4, rfl, o4, S4⟩
    have osv4 := owns_stp H.out.2 S4 (by decide)
    have H2 := hid (And.intro o4 (And.intro (H.out.1.trans S4.to50) osv4))
    clear o4 S4 osv4 H
    go_wp2
    go_loopw [26, 28, 29] (fun bv sv iv wz => ∃ i : Nat, i ≤ N ∧ iv = .int .i64 i ∧ Own w.heap.size wz bv (l0 ++ [op] ++ expT (itm n S) lv wd N bare (gpF eb sb N) i) ∧ Stp w.heap.size [5, 50] w wz ∧ wz.ownsRow w.heap.size 50 1 sv (1 + 2 * i) (seamT i)) (fun _ _ iv _ => N - (intOf iv).toNat)
    case atStart => exact ⟨0, Nat.zero_le _, rfl, H2.out.1, H2.out.2.1, H2.out.2.2⟩
    case round =>
      obtain ⟨i, hi, rfl, hoi, hsi, hsv⟩ := hrel
      clear H2
      rename World => w5
      have hlen := expT_len (lv := lv) (wd := wd) (N := N) (bare := bare) (gp := gpF eb sb N) HI.out.2.1 hwd i
      have hB5 := hsi.bel.size
      by_cases hlt : i < N
      · have i1 : (i : Int) < (N : Int) := by omega
        have hli := HI.out.2.1 i
        obtain ⟨v6, w6, hr6, o6, S6⟩ := app_str w.heap.size u26 _ (itm n S i) w5 hB5 hoi (by simp; omega)
        have hs6 := hsi.trans S6.to50
        have hsv6 := owns_stp hsv S6 (by decide)
        have hitem := item_itm X n cap S i w5 hn (by omega) (HI.out.1.cells hsi.bel)
        have HT := hid hitem
        clear hitem hoi hsi hsv S6
        -- the comma
        have hcomma : ∃ v7 w7, (bare = true ∧ v7 = v6 ∧ w7 = w6 ∨ bare = false ∧ (Builtin.append_ #[22, 22] 22 #[v6, .slice (some ⟨w6.heap.size, 0, none⟩) 1 1]).run Yba.prog (w6.alloc (.cells #[.int .u8 44] 5)) = .ok v7 w7) ∧ Own w.heap.size w7 v7 (l0 ++ [op] ++ expT (itm n S) lv wd N bare (gpF eb sb N) i ++ (itm n S i).data.toList ++ (if bare then [] else [44])) ∧ Stp w.heap.size [5, 50] w w7 ∧ w7.ownsRow w.heap.size 50 1 u28 (1 + 2 * i) (seamT i) := by
          cases bare with
          | true => exact ⟨v6, w6, .inl ⟨rfl, rfl, rfl⟩, by simpa using o6, hs6, hsv6⟩
          | false =>
            obtain ⟨v7, w7, hr7, o7, S7⟩ := app1 w.heap.size v6 _ 44 44 rfl w6 hs6.bel.size o6 (by have h3 : (itm n S i).data.size = (itm n S i).size := rfl; simp; omega)
            exact ⟨v7, w7, .inr ⟨rfl, hr7⟩, o7, hs6.trans S7.to50, owns_stp hsv6 S7 (by decide)⟩
        obtain ⟨v7, w7, hc7, o7, hs7, hsv7⟩ := hcomma
        have hb7 : (if bare then ([] : List UInt8) else [44]).length ≤ 1 := by split <;> simp
        have h3 : (itm n S i).data.size = (itm n S i).size := rfl
        have hl7 : (l0 ++ [op] ++ expT (itm n S) lv wd N bare (gpF eb sb N) i ++ (itm n S i).data.toList ++ (if bare then [] else [44])).length ≤ 4000000 := by
          simp only [List.length_append, Array.length_toList, List.length_cons, List.length_nil]; omega
        have hst : expT (itm n S) lv wd N bare (gpF eb sb N) (i + 1) = expT (itm n S) lv wd N bare (gpF eb sb N) i ++ (itm n S i).data.toList ++ (if bare then [] else [44]) ++ (if gpF eb sb N i then [10] else []) ++ nl (min (if i + 1 = N then lv else lv + 1) 16 * wd) := rfl
        generalize hL7 : l0 ++ [op] ++ expT (itm n S) lv wd N bare (gpF eb sb N) i ++ (itm n S i).data.toList ++ (if bare then [] else [44]) = L7 at *
        have hfin : l0 ++ [op] ++ expT (itm n S) lv wd N bare (gpF eb sb N) (i + 1) = L7 ++ (if gpF eb sb N i then [10] else []) ++ nl (min (if i + 1 = N then lv else lv + 1) 16 * wd) := by
          rw [hst, ← hL7]; simp only [List.append_assoc]
        clear o6 hs6 hsv6 hL7 hst hb7 h3 hli hlen
        by_cases hlast : i + 1 = N
        · have e1 : (N : Int) - 1 = (i : Int) := by omega
          have hg : gpF eb sb N i = false := by simp [gpF]; omega
          rw [hg, if_pos hlast, if_neg (by decide), List.append_nil] at hfin
          have hnl := anl_any w.heap.size lv wd v7 L7 w7 hwd (by omega) hs7.bel.size o7 (by omega)
          have H := hid (And.intro hnl (And.intro hfin (And.intro hs7 hsv7)))
          clear hnl hfin hs7 hsv7 o7 hg
          rcases hc7 with ⟨rfl, rfl, rfl⟩ | ⟨rfl, hr7⟩
          · as_aux_lemma =>
              go_wp2_with fail
              refine HT.out.mono ?_
              rintro e wx ⟨rfl, rfl⟩
              go_wp2_with (at_builtin; refine wpList_append_run (by rfl) _ _ 22 9 (by rfl) u26 _ _ w7 (by rfl) (by rfl) hr6 ?_)
              refine H.out.1.mono ?_
              rintro e w9 ⟨v9, rfl, o9, S9⟩
              have hs9 := H.out.2.2.1.trans S9.to50
              have hsv9 := owns_stp H.out.2.2.2 S9 (by decide)
              obtain ⟨sv10, w10, hr10, osv10, S10⟩ := app_seam w.heap.size u28 i w9 hs9.bel.size hsv9 (by omega)
              have o10 : Own w.heap.size w10 v9 _ := owns_stp o9 S10 (by decide)
              have H2 := hid (And.intro o10 (And.intro H.out.2.1 (And.intro (hs9.trans S10.up) osv10)))
              clear o9 S9 hs9 hsv9 osv10 S10 o10
              go_wp2_with (at_builtin; refine wpList_append_run (by rfl) _ _ 42 42 (by rfl) u28 _ _ w10 (by rfl) (by rfl) hr10 ?_)
              go_roundw
              case rel =>
                exact ⟨i + 1, by omega, by go_num, by rw [H2.out.2.1]; exact H2.out.1, H2.out.2.2.1, H2.out.2.2.2⟩
              case measure => simp [intOf]; omega
          · as_aux_lemma =>
              go_wp2_with fail
              refine HT.out.mono ?_
              rintro e wx ⟨rfl, rfl⟩
              go_wp2_with (at_builtin; first | (refine wpList_append_run (by rfl) _ _ 22 9 (by rfl) u26 _ _ w6 (by rfl) (by rfl) hr6 ?_) | (refine wpList_append_run (by rfl) _ _ 22 22 (by rfl) v6 _ _ w7 (by rfl) (by rfl) hr7 ?_))
              refine H.out.1.mono ?_
              rintro e w9 ⟨v9, rfl, o9, S9⟩
              have hs9 := H.out.2.2.1.trans S9.to50
              have hsv9 := owns_stp H.out.2.2.2 S9 (by decide)
              obtain ⟨sv10, w10, hr10, osv10, S10⟩ := app_seam w.heap.size u28 i w9 hs9.bel.size hsv9 (by omega)
              have o10 : Own w.heap.size w10 v9 _ := owns_stp o9 S10 (by decide)
              have H2 := hid (And.intro o10 (And.intro H.out.2.1 (And.intro (hs9.trans S10.up) osv10)))
              clear o9 S9 hs9 hsv9 osv10 S10 o10
              go_wp2_with (at_builtin; refine wpList_append_run (by rfl) _ _ 42 42 (by rfl) u28 _ _ w10 (by rfl) (by rfl) hr10 ?_)
              go_roundw
              case rel =>
                exact ⟨i + 1, by omega, by go_num, by rw [H2.out.2.1]; exact H2.out.1, H2.out.2.2.1, H2.out.2.2.2⟩
              case measure => simp [intOf]; omega
        · have e1 : ¬ (i : Int) = (N : Int) - 1 := by omega
          have e2 : (i : Int) < (N : Int) - 1 := by omega
          rw [if_neg hlast] at hfin
          have hbe := brk_any X1 eb c1 i w7 (by omega) (HI.out.2.2.1.below hs7.bel)
          have hbs := brk_any X2 sb c2 i w7 (by omega) (HI.out.2.2.2.below hs7.bel)
          have hle := bk_le eb i
          have hls := bk_le sb i
          by_cases hgp : 2 ≤ max (bk eb i) (bk sb i)
          · have hg : gpF eb sb N i = true := by simp [gpF]; omega
            rw [hg, if_pos rfl] at hfin
            obtain ⟨v8, w8, hr8, o8, S8⟩ := app1 w.heap.size v7 L7 10 10 rfl w7 hs7.bel.size o7 (by omega)
            have hs8 := hs7.trans S8.to50
            have hsv8 := owns_stp hsv7 S8 (by decide)
            have hnl := anl_any w.heap.size (lv + 1) wd v8 _ w8 hwd (by omega) hs8.bel.size o8 (by simp; omega)
            have hif : (if bk eb i < bk sb i then (bk sb i : Int) else (bk eb i : Int)) = ((max (bk eb i) (bk sb i) : Nat) : Int) := by split <;> omega
            have hmx : (2 : Int) ≤ ((max (bk eb i) (bk sb i) : Nat) : Int) := by omega
            generalize max (bk eb i) (bk sb i) = mx at *
            have H := hid (And.intro hnl (And.intro hfin (And.intro hs8 hsv8)))
            have HB := hid (And.intro hbe hbs)
            clear hnl hfin hs7 hsv7 o7 hg hs8 hsv8 o8 S8 hbe hbs hgp
            generalize bk eb i = ke at *
            generalize bk sb i = ks at *
            rcases hc7 with ⟨rfl, rfl, rfl⟩ | ⟨rfl, hr7⟩
            · as_aux_lemma =>
                go_wp2_with fail
                refine HT.out.mono ?_
                rintro e wx ⟨rfl, rfl⟩
                go_wp2_with (at_builtin; refine wpList_append_run (by rfl) _ _ 22 9 (by rfl) u26 _ _ w7 (by rfl) (by rfl) hr6 ?_)
                refine HB.out.1.mono ?_
                rintro e wa ⟨rfl, rfl⟩
                go_wp2_with fail
                refine HB.out.2.mono ?_
                rintro e wb ⟨rfl, rfl⟩
                go_wp2_with (at_builtin; refine wpList_append_run (by rfl) _ _ 22 22 (by rfl) v7 _ _ w8 (by rfl) (by rfl) hr8 ?_)
                refine H.out.1.mono ?_
                rintro e w9 ⟨v9, rfl, o9, S9⟩
                have hs9 := H.out.2.2.1.trans S9.to50
                have hsv9 := owns_stp H.out.2.2.2 S9 (by decide)
                obtain ⟨sv10, w10, hr10, osv10, S10⟩ := app_seam w.heap.size u28 i w9 hs9.bel.size hsv9 (by omega)
                have o10 : Own w.heap.size w10 v9 _ := owns_stp o9 S10 (by decide)
                have H2 := hid (And.intro o10 (And.intro H.out.2.1 (And.intro (hs9.trans S10.up) osv10)))
                clear o9 S9 hs9 hsv9 osv10 S10 o10
                go_wp2_with (at_builtin; refine wpList_append_run (by rfl) _ _ 42 42 (by rfl) u28 _ _ w10 (by rfl) (by rfl) hr10 ?_)
                go_roundw
                case rel =>
                  exact ⟨i + 1, by omega, by go_num, by rw [H2.out.2.1]; exact H2.out.1, H2.out.2.2.1, H2.out.2.2.2⟩
                case measure => simp [intOf]; omega
            · as_aux_lemma =>
                go_wp2_with fail
                refine HT.out.mono ?_
                rintro e wx ⟨rfl, rfl⟩
                go_wp2_with (at_builtin; first | (refine wpList_append_run (by rfl) _ _ 22 9 (by rfl) u26 _ _ w6 (by rfl) (by rfl) hr6 ?_) | (refine wpList_append_run (by rfl) _ _ 22 22 (by rfl) v6 _ _ w7 (by rfl) (by rfl) hr7 ?_))
                refine HB.out.1.mono ?_
                rintro e wa ⟨rfl, rfl⟩
                go_wp2_with fail
                refine HB.out.2.mono ?_
                rintro e wb ⟨rfl, rfl⟩
                go_wp2_with (at_builtin; refine wpList_append_run (by rfl) _ _ 22 22 (by rfl) v7 _ _ w8 (by rfl) (by rfl) hr8 ?_)
                refine H.out.1.mono ?_
                rintro e w9 ⟨v9, rfl, o9, S9⟩
                have hs9 := H.out.2.2.1.trans S9.to50
                have hsv9 := owns_stp H.out.2.2.2 S9 (by decide)
                obtain ⟨sv10, w10, hr10, osv10, S10⟩ := app_seam w.heap.size u28 i w9 hs9.bel.size hsv9 (by omega)
                have o10 : Own w.heap.size w10 v9 _ := owns_stp o9 S10 (by decide)
                have H2 := hid (And.intro o10 (And.intro H.out.2.1 (And.intro (hs9.trans S10.up) osv10)))
                clear o9 S9 hs9 hsv9 osv10 S10 o10
                go_wp2_with (at_builtin; refine wpList_append_run (by rfl) _ _ 42 42 (by rfl) u28 _ _ w10 (by rfl) (by rfl) hr10 ?_)
                go_roundw
                case rel =>
                  exact ⟨i + 1, by omega, by go_num, by rw [H2.out.2.1]; exact H2.out.1, H2.out.2.2.1, H2.out.2.2.2⟩
                case measure => simp [intOf]; omega
          · have hg : gpF eb sb N i = false := by simp [gpF]; omega
            rw [hg, if_neg (by decide), List.append_nil] at hfin
            have hnl := anl_any w.heap.size (lv + 1) wd v7 L7 w7 hwd (by omega) hs7.bel.size o7 (by omega)
            have hif : (if bk eb i < bk sb i then (bk sb i : Int) else (bk eb i : Int)) = ((max (bk eb i) (bk sb i) : Nat) : Int) := by split <;> omega
            have hmx : ¬ (2 : Int) ≤ ((max (bk eb i) (bk sb i) : Nat) : Int) := by omega
            generalize max (bk eb i) (bk sb i) = mx at *
            have H := hid (And.intro hnl (And.intro hfin (And.intro hs7 hsv7)))
            have HB := hid (And.intro hbe hbs)
            clear hnl hfin hs7 hsv7 o7 hg hbe hbs hgp
            generalize bk eb i = ke at *
            generalize bk sb i = ks at *
            rcases hc7 with ⟨rfl, rfl, rfl⟩ | ⟨rfl, hr7⟩
            · as_aux_lemma =>
                go_wp2_with fail
                refine HT.out.mono ?_
                rintro e wx ⟨rfl, rfl⟩
                go_wp2_with (at_builtin; refine wpList_append_run (by rfl) _ _ 22 9 (by rfl) u26 _ _ w7 (by rfl) (by rfl) hr6 ?_)
                refine HB.out.1.mono ?_
                rintro e wa ⟨rfl, rfl⟩
                go_wp2_with fail
                refine HB.out.2.mono ?_
                rintro e wb ⟨rfl, rfl⟩
                go_wp2_with fail
                refine H.out.1.mono ?_
                rintro e w9 ⟨v9, rfl, o9, S9⟩
                have hs9 := H.out.2.2.1.trans S9.to50
                have hsv9 := owns_stp H.out.2.2.2 S9 (by decide)
                obtain ⟨sv10, w10, hr10, osv10, S10⟩ := app_seam w.heap.size u28 i w9 hs9.bel.size hsv9 (by omega)
                have o10 : Own w.heap.size w10 v9 _ := owns_stp o9 S10 (by decide)
                have H2 := hid (And.intro o10 (And.intro H.out.2.1 (And.intro (hs9.trans S10.up) osv10)))
                clear o9 S9 hs9 hsv9 osv10 S10 o10
                go_wp2_with (at_builtin; refine wpList_append_run (by rfl) _ _ 42 42 (by rfl) u28 _ _ w10 (by rfl) (by rfl) hr10 ?_)
                go_roundw
                case rel =>
                  exact ⟨i + 1, by omega, by go_num, by rw [H2.out.2.1]; exact H2.out.1, H2.out.2.2.1, H2.out.2.2.2⟩
                case measure => simp [intOf]; omega
            · as_aux_lemma =>
                go_wp2_with fail
                refine HT.out.mono ?_
                rintro e wx ⟨rfl, rfl⟩
                go_wp2_with (at_builtin; first | (refine wpList_append_run (by rfl) _ _ 22 9 (by rfl) u26 _ _ w6 (by rfl) (by rfl) hr6 ?_) | (refine wpList_append_run (by rfl) _ _ 22 22 (by rfl) v6 _ _ w7 (by rfl) (by rfl) hr7 ?_))
                refine HB.out.1.mono ?_
                rintro e wa ⟨rfl, rfl⟩
                go_wp2_with fail
                refine HB.out.2.mono ?_
                rintro e wb ⟨rfl, rfl⟩
                go_wp2_with fail
                refine H.out.1.mono ?_
                rintro e w9 ⟨v9, rfl, o9, S9⟩
                have hs9 := H.out.2.2.1.trans S9.to50
                have hsv9 := owns_stp H.out.2.2.2 S9 (by decide)
                obtain ⟨sv10, w10, hr10, osv10, S10⟩ := app_seam w.heap.size u28 i w9 hs9.bel.size hsv9 (by omega)
                have o10 : Own w.heap.size w10 v9 _ := owns_stp o9 S10 (by decide)
                have H2 := hid (And.intro o10 (And.intro H.out.2.1 (And.intro (hs9.trans S10.up) osv10)))
                clear o9 S9 hs9 hsv9 osv10 S10 o10
                go_wp2_with (at_builtin; refine wpList_append_run (by rfl) _ _ 42 42 (by rfl) u28 _ _ w10 (by rfl) (by rfl) hr10 ?_)
                go_roundw
                case rel =>
                  exact ⟨i + 1, by omega, by go_num, by rw [H2.out.2.1]; exact H2.out.1, H2.out.2.2.1, H2.out.2.2.2⟩
                case measure => simp [intOf]; omega
      · have i1 : ¬ (i : Int) < (N : Int) := by omega
        have hiN : i = N := by omega
        obtain ⟨v3, w6, hr3, o3, S3⟩ := app1 w.heap.size u26 _ cl.toNat cl rfl w5 hB5 hoi (by simp; omega)
        have hsv3 := owns_stp hsv S3 (by decide)
        have H := hid (And.intro o3 (And.intro (hsi.trans S3.to50) (And.intro hsv3 hiN)))
        clear o3 S3 hoi hsi hiN hsv hsv3
        go_wp2_with (at_builtin; refine wpList_append_run (by rfl) _ _ 22 22 (by rfl) u26 _ _ w6 (by rfl) (by rfl) hr3 ?_)
        go_ret2
        refine ⟨_, _, rfl, ?_, ?_, H.out.2.1.bel⟩
        · have h1 := H.out.1
          rw [H.out.2.2.2] at h1
          rw [HT0.out.1]; exact h1
        · have h1 := H.out.2.2.1
          rw [H.out.2.2.2] at h1
          exact h1
  · skip
    go_enter Yba.func8, Yba.ntmps8
    go_wp2_with (at_builtin; first | (refine wpList_append_run (by rfl) _ _ 22 22 (by rfl) (.slice none 0 0) _ _ w1 (by rfl) (by rfl) hr1 ?_) | (refine wpList_append_run (by rfl) _ _ 22 22 (by rfl) v1 _ _ w2 (by rfl) (by rfl) hr2 ?_))
    clear hr1 hr2 hw3
    refine HT0.out.2.2.mono ?_
    rintro e w4 ⟨v4, rfl, o4, S4⟩
    have osv4 := owns_stp H.out.2 S4 (by decide)
    have H2 := hid (And.intro o4 (And.intro (H.out.1.trans S4.to50) osv4))
    clear o4 S4 osv4 H
    go_wp2
    go_loopw [26, 28, 29] (fun bv sv iv wz => ∃ i : Nat, i ≤ N ∧ iv = .int .i64 i ∧ Own w.heap.size wz bv (l0 ++ [op] ++ expT (itm n S) lv wd N bare (gpF eb sb N) i) ∧ Stp w.heap.size [5, 50] w wz ∧ wz.ownsRow w.heap.size 50 1 sv (1 + 2 * i) (seamT i)) (fun _ _ iv _ => N - (intOf iv).toNat)
    case atStart => exact ⟨0, Nat.zero_le _, rfl, H2.out.1, H2.out.2.1, H2.out.2.2⟩
    case round =>
      obtain ⟨i, hi, rfl, hoi, hsi, hsv⟩ := hrel
      clear H2
      rename World => w5
      have hlen := expT_len (lv := lv) (wd := wd) (N := N) (bare := bare) (gp := gpF eb sb N) HI.out.2.1 hwd i
      have hB5 := hsi.bel.size
      by_cases hlt : i < N
      · have i1 : (i : Int) < (N : Int) := by omega
        have hli := HI.out.2.1 i
        obtain ⟨v6, w6, hr6, o6, S6⟩ := app_str w.heap.size u26 _ (itm n S i) w5 hB5 hoi (by simp; omega)
        have hs6 := hsi.trans S6.to50
        have hsv6 := owns_stp hsv S6 (by decide)
        have hitem := item_itm X n cap S i w5 hn (by omega) (HI.out.1.cells hsi.bel)
        have HT := hid hitem
        clear hitem hoi hsi hsv S6
        -- the comma
        have hcomma : ∃ v7 w7, (bare = true ∧ v7 = v6 ∧ w7 = w6 ∨ bare = false ∧ (Builtin.append_ #[22, 22] 22 #[v6, .slice (some ⟨w6.heap.size, 0, none⟩) 1 1]).run Yba.prog (w6.alloc (.cells #[.int .u8 44] 5)) = .ok v7 w7) ∧ Own w.heap.size w7 v7 (l0 ++ [op] ++ expT (itm n S) lv wd N bare (gpF eb sb N) i ++ (itm n S i).data.toList ++ (if bare then [] else [44])) ∧ Stp w.heap.size [5, 50] w w7 ∧ w7.ownsRow w.heap.size 50 1 u28 (1 + 2 * i) (seamT i) := by
          cases bare with
          | true => exact ⟨v6, w6, .inl ⟨rfl, rfl, rfl⟩, by simpa using o6, hs6, hsv6⟩
          | false =>
            obtain ⟨v7, w7, hr7, o7, S7⟩ := app1 w.heap.size v6 _ 44 44 rfl w6 hs6.bel.size o6 (by have h3 : (itm n S i).data.size = (itm n S i).size := rfl; simp; omega)
            exact ⟨v7, w7, .inr ⟨rfl, hr7⟩, o7, hs6.trans S7.to50, owns_stp hsv6 S7 (by decide)⟩
        obtain ⟨v7, w7, hc7, o7, hs7, hsv7⟩ := hcomma
        have hb7 : (if bare then ([] : List UInt8) else [44]).length ≤ 1 := by split <;> simp
        have h3 : (itm n S i).data.size = (itm n S i).size := rfl
        have hl7 : (l0 ++ [op] ++ expT (itm n S) lv wd N bare (gpF eb sb N) i ++ (itm n S i).data.toList ++ (if bare then [] else [44])).length ≤ 4000000 := by
          simp only [List.length_append, Array.length_toList, List.length_cons, List.length_nil]; omega
        have hst : expT (itm n S) lv wd N bare (gpF eb sb N) (i + 1) = expT (itm n S) lv wd N bare (gpF eb sb N) i ++ (itm n S i).data.toList ++ (if bare then [] else [44]) ++ (if gpF eb sb N i then [10] else []) ++ nl (min (if i + 1 = N then lv else lv + 1) 16 * wd) := rfl
        generalize hL7 : l0 ++ [op] ++ expT (itm n S) lv wd N bare (gpF eb sb N) i ++ (itm n S i).data.toList ++ (if bare then [] else [44]) = L7 at *
        have hfin : l0 ++ [op] ++ expT (itm n S) lv wd N bare (gpF eb sb N) (i + 1) = L7 ++ (if gpF eb sb N i then [10] else []) ++ nl (min (if i + 1 = N then lv else lv + 1) 16 * wd) := by
          rw [hst, ← hL7]; simp only [List.append_assoc]
        clear o6 hs6 hsv6 hL7 hst hb7 h3 hli hlen
        by_cases hlast : i + 1 = N
        · have e1 : (N : Int) - 1 = (i : Int) := by omega
          have hg : gpF eb sb N i = false := by simp [gpF]; omega
          rw [hg, if_pos hlast, if_neg (by decide), List.append_nil] at hfin
          have hnl := anl_any w.heap.size lv wd v7 L7 w7 hwd (by omega) hs7.bel.size o7 (by omega)
          have H := hid (And.intro hnl (And.intro hfin (And.intro hs7 hsv7)))
          clear hnl hfin hs7 hsv7 o7 hg
          rcases hc7 with ⟨rfl, rfl, rfl⟩ | ⟨rfl, hr7⟩
          · as_aux_lemma =>
              go_wp2_with fail
              refine HT.out.mono ?_
              rintro e wx ⟨rfl, rfl⟩
              go_wp2_with (at_builtin; refine wpList_append_run (by rfl) _ _ 22 9 (by rfl) u26 _ _ w7 (by rfl) (by rfl) hr6 ?_)
              refine H.out.1.mono ?_
              rintro e w9 ⟨v9, rfl, o9, S9⟩
              have hs9 := H.out.2.2.1.trans S9.to50
              have hsv9 := owns_stp H.out.2.2.2 S9 (by decide)
              obtain ⟨sv10, w10, hr10, osv10, S10⟩ := app_seam w.heap.size u28 i w9 hs9.bel.size hsv9 (by omega)
              have o10 : Own w.heap.size w10 v9 _ := owns_stp o9 S10 (by decide)
              have H2 := hid (And.intro o10 (And.intro H.out.2.1 (And.intro (hs9.trans S10.up) osv10)))
              clear o9 S9 hs9 hsv9 osv10 S10 o10
              go_wp2_with (at_builtin; refine wpList_append_run (by rfl) _ _ 42 42 (by rfl) u28 _ _ w10 (by rfl) (by rfl) hr10 ?_)
              go_roundw
              case rel =>
                exact ⟨i + 1, by omega, by go_num, by rw [H2.out.2.1]; exact H2.out.1, H2.out.2.2.1, H2.out.2.2.2⟩
              case measure => simp [intOf]; omega
          · as_aux_lemma =>
              go_wp2_with fail
              refine HT.out.mono ?_
              rintro e wx ⟨rfl, rfl⟩
              go_wp2_with (at_builtin; first | (refine wpList_append_run (by rfl) _ _ 22 9 (by rfl) u26 _ _ w6 (by rfl) (by rfl) hr6 ?_) | (refine wpList_append_run (by rfl) _ _ 22 22 (by rfl) v6 _ _ w7 (by rfl) (by rfl) hr7 ?_))
              refine H.out.1.mono ?_
              rintro e w9 ⟨v9, rfl, o9, S9⟩
              have hs9 := H.out.2.2.1.trans S9.to50
              have hsv9 := owns_stp H.out.2.2.2 S9 (by decide)
              obtain ⟨sv10, w10, hr10, osv10, S10⟩ := app_seam w.heap.size u28 i w9 hs9.bel.size hsv9 (by omega)
              have o10 : Own w.heap.size w10 v9 _ := owns_stp o9 S10 (by decide)
              have H2 := hid (And.intro o10 (And.intro H.out.2.1 (And.intro (hs9.trans S10.up) osv10)))
              clear o9 S9 hs9 hsv9 osv10 S10 o10
              go_wp2_with (at_builtin; refine wpList_append_run (by rfl) _ _ 42 42 (by rfl) u28 _ _ w10 (by rfl) (by rfl) hr10 ?_)
              go_roundw
              case rel =>
                exact ⟨i + 1, by omega, by go_num, by rw [H2.out.2.1]; exact H2.out.1, H2.out.2.2.1, H2.out.2.2.2⟩
              case measure => simp [intOf]; omega
        · have e1 : ¬ (i : Int) = (N : Int) - 1 := by omega
          have e2 : (i : Int) < (N : Int) - 1 := by omega
          rw [if_neg hlast] at hfin
          have hbe := brk_any X1 eb c1 i w7 (by omega) (HI.out.2.2.1.below hs7.bel)
          have hbs := brk_any X2 sb c2 i w7 (by omega) (HI.out.2.2.2.below hs7.bel)
          have hle := bk_le eb i
          have hls := bk_le sb i
          by_cases hgp : 2 ≤ max (bk eb i) (bk sb i)
          · have hg : gpF eb sb N i = true := by simp [gpF]; omega
            rw [hg, if_pos rfl] at hfin
            obtain ⟨v8, w8, hr8, o8, S8⟩ := app1 w.heap.size v7 L7 10 10 rfl w7 hs7.bel.size o7 (by omega)
            have hs8 := hs7.trans S8.to50
            have hsv8 := owns_stp hsv7 S8 (by decide)
            have hnl := anl_any w.heap.size (lv + 1) wd v8 _ w8 hwd (by omega) hs8.bel.size o8 (by simp; omega)
            have hif : (if bk eb i < bk sb i then (bk sb i : Int) else (bk eb i : Int)) = ((max (bk eb i) (bk sb i) : Nat) : Int) := by split <;> omega
            have hmx : (2 : Int) ≤ ((max (bk eb i) (bk sb i) : Nat) : Int) := by omega
            generalize max (bk eb i) (bk sb i) = mx at *
            have H := hid (And.intro hnl (And.intro hfin (And.intro hs8 hsv8)))
            have HB := hid (And.intro hbe hbs)
            clear hnl hfin hs7 hsv7 o7 hg hs8 hsv8 o8 S8 hbe hbs hgp
            generalize bk eb i = ke at *
            generalize bk sb i = ks at *
            rcases hc7 with ⟨rfl, rfl, rfl⟩ | ⟨rfl, hr7⟩
            · as_aux_lemma =>
                go_wp2_with fail
                refine HT.out.mono ?_
                rintro e wx ⟨rfl, rfl⟩
                go_wp2_with (at_builtin; refine wpList_append_run (by rfl) _ _ 22 9 (by rfl) u26 _ _ w7 (by rfl) (by rfl) hr6 ?_)
                refine HB.out.1.mono ?_
                rintro e wa ⟨rfl, rfl⟩
                go_wp2_with fail
                refine HB.out.2.mono ?_
                rintro e wb ⟨rfl, rfl⟩
                go_wp2_with (at_builtin; refine wpList_append_run (by rfl) _ _ 22 22 (by rfl) v7 _ _ w8 (by rfl) (by rfl) hr8 ?_)
                refine H.out.1.mono ?_
                rintro e w9 ⟨v9, rfl, o9, S9⟩
                have hs9 := H.out.2.2.1.trans S9.to50
                have hsv9 := owns_stp H.out.2.2.2 S9 (by decide)
                obtain ⟨sv10, w10, hr10, osv10, S10⟩ := app_seam w.heap.size u28 i w9 hs9.bel.size hsv9 (by omega)
                have o10 : Own w.heap.size w10 v9 _ := owns_stp o9 S10 (by decide)
                have H2 := hid (And.intro o10 (And.intro H.out.2.1 (And.intro (hs9.trans S10.up) osv10)))
                clear o9 S9 hs9 hsv9 osv10 S10 o10
                go_wp2_with (at_builtin; refine wpList_append_run (by rfl) _ _ 42 42 (by rfl) u28 _ _ w10 (by rfl) (by rfl) hr10 ?_)
                go_roundw
                case rel =>
                  exact ⟨i + 1, by omega, by go_num, by rw [H2.out.2.1]; exact H2.out.1, H2.out.2.2.1, H2.out.2.2.2⟩
                case measure => simp [intOf]; omega
            · as_aux_lemma =>
                go_wp2_with fail
                refine HT.out.mono ?_
                rintro e wx ⟨rfl, rfl⟩
                go_wp2_with (at_builtin; first | (refine wpList_append_run (by rfl) _ _ 22 9 (by rfl) u26 _ _ w6 (by rfl) (by rfl) hr6 ?_) | (refine wpList_append_run (by rfl) _ _ 22 22 (by rfl) v6 _ _ w7 (by rfl) (by rfl) hr7 ?_))
                refine HB.out.1.mono ?_
                rintro e wa ⟨rfl, rfl⟩
                go_wp2_with fail
                refine HB.out.2.mono ?_
                rintro e wb ⟨rfl, rfl⟩
                go_wp2_with (at_builtin; refine wpList_append_run (by rfl) _ _ 22 22 (by rfl) v7 _ _ w8 (by rfl) (by rfl) hr8 ?_)
                refine H.out.1.mono ?_
                rintro e w9 ⟨v9, rfl, o9, S9⟩
                have hs9 := H.out.2.2.1.trans S9.to50
                have hsv9 := owns_stp H.out.2.2.2 S9 (by decide)
                obtain ⟨sv10, w10, hr10, osv10, S10⟩ := app_seam w.heap.size u28 i w9 hs9.bel.size hsv9 (by omega)
                have o10 : Own w.heap.size w10 v9 _ := owns_stp o9 S10 (by decide)
                have H2 := hid (And.intro o10 (And.intro H.out.2.1 (And.intro (hs9.trans S10.up) osv10)))
                clear o9 S9 hs9 hsv9 osv10 S10 o10
                go_wp2_with (at_builtin; refine wpList_append_run (by rfl) _ _ 42 42 (by rfl) u28 _ _ w10 (by rfl) (by rfl) hr10 ?_)
                go_roundw
                case rel =>
                  exact ⟨i + 1, by omega, by go_num, by rw [H2.out.2.1]; exact H2.out.1, H2.out.2.2.1, H2.out.2.2.2⟩
                case measure => simp [intOf]; omega
          · have hg : gpF eb sb N i = false := by simp [gpF]; omega
            rw [hg, if_neg (by decide), List.append_nil] at hfin
            have hnl := anl_any w.heap.size (lv + 1) wd v7 L7 w7 hwd (by omega) hs7.bel.size o7 (by omega)
            have hif : (if bk eb i < bk sb i then (bk sb i : Int) else (bk eb i : Int)) = ((max (bk eb i) (bk sb i) : Nat) : Int) := by split <;> omega
            have hmx : ¬ (2 : Int) ≤ ((max (bk eb i) (bk sb i) : Nat) : Int) := by omega
            generalize max (bk eb i) (bk sb i) = mx at *
            have H := hid (And.intro hnl (And.intro hfin (And.intro hs7 hsv7)))
            have HB := hid (And.intro hbe hbs)
            clear hnl hfin hs7 hsv7 o7 hg hbe hbs hgp
            generalize bk eb i = ke at *
            generalize bk sb i = ks at *
            rcases hc7 with ⟨rfl, rfl, rfl⟩ | ⟨rfl, hr7⟩
            · as_aux_lemma =>
                go_wp2_with fail
                refine HT.out.mono ?_
                rintro e wx ⟨rfl, rfl⟩
                go_wp2_with (at_builtin; refine wpList_append_run (by rfl) _ _ 22 9 (by rfl) u26 _ _ w7 (by rfl) (by rfl) hr6 ?_)
                refine HB.out.1.mono ?_
                rintro e wa ⟨rfl, rfl⟩
                go_wp2_with fail
                refine HB.out.2.mono ?_
                rintro e wb ⟨rfl, rfl⟩
                go_wp2_with fail
                refine H.out.1.mono ?_
                rintro e w9 ⟨v9, rfl, o9, S9⟩
                have hs9 := H.out.2.2.1.trans S9.to50
                have hsv9 := owns_stp H.out.2.2.2 S9 (by decide)
                obtain ⟨sv10, w10, hr10, osv10, S10⟩ := app_seam w.heap.size u28 i w9 hs9.bel.size hsv9 (by omega)
                have o10 : Own w.heap.size w10 v9 _ := owns_stp o9 S10 (by decide)
                have H2 := hid (And.intro o10 (And.intro H.out.2.1 (And.intro (hs9.trans S10.up) osv10)))
                clear o9 S9 hs9 hsv9 osv10 S10 o10
                go_wp2_with (at_builtin; refine wpList_append_run (by rfl) _ _ 42 42 (by rfl) u28 _ _ w10 (by rfl) (by rfl) hr10 ?_)
                go_roundw
                case rel =>
                  exact ⟨i + 1, by omega, by go_num, by rw [H2.out.2.1]; exact H2.out.1, H2.out.2.2.1, H2.out.2.2.2⟩
                case measure => simp [intOf]; omega
            · as_aux_lemma =>
                go_wp2_with fail
                refine HT.out.mono ?_
                rintro e wx ⟨rfl, rfl⟩
                go_wp2_with (at_builtin; first | (refine wpList_append_run (by rfl) _ _ 22 9 (by rfl) u26 _ _ w6 (by rfl) (by rfl) hr6 ?_) | (refine wpList_append_run (by rfl) _ _ 22 22 (by rfl) v6 _ _ w7 (by rfl) (by rfl) hr7 ?_))
                refine HB.out.1.mono ?_
                rintro e wa ⟨rfl, rfl⟩
                go_wp2_with fail
                refine HB.out.2.mono ?_
                rintro e wb ⟨rfl, rfl⟩
                go_wp2_with fail
                refine H.out.1.mono ?_
                rintro e w9 ⟨v9, rfl, o9, S9⟩
                have hs9 := H.out.2.2.1.trans S9.to50
                have hsv9 := owns_stp H.out.2.2.2 S9 (by decide)
                obtain ⟨sv10, w10, hr10, osv10, S10⟩ := app_seam w.heap.size u28 i w9 hs9.bel.size hsv9 (by omega)
                have o10 : Own w.heap.size w10 v9 _ := owns_stp o9 S10 (by decide)
                have H2 := hid (And.intro o10 (And.intro H.out.2.1 (And.intro (hs9.trans S10.up) osv10)))
                clear o9 S9 hs9 hsv9 osv10 S10 o10
                go_wp2_with (at_builtin; refine wpList_append_run (by rfl) _ _ 42 42 (by rfl) u28 _ _ w10 (by rfl) (by rfl) hr10 ?_)
                go_roundw
                case rel =>
                  exact ⟨i + 1, by omega, by go_num, by rw [H2.out.2.1]; exact H2.out.1, H2.out.2.2.1, H2.out.2.2.2⟩
                case measure => simp [intOf]; omega
      · have i1 : ¬ (i : Int) < (N : Int) := by omega
        have hiN : i = N := by omega
        obtain ⟨v3, w6, hr3, o3, S3⟩ := app1 w.heap.size u26 _ cl.toNat cl rfl w5 hB5 hoi (by simp; omega)
        have hsv3 := owns_stp hsv S3 (by decide)
        have H := hid (And.intro o3 (And.intro (hsi.trans S3.to50) (And.intro hsv3 hiN)))
        clear o3 S3 hoi hsi hiN hsv hsv3
        go_wp2_with (at_builtin; refine wpList_append_run (by rfl) _ _ 22 22 (by rfl) u26 _ _ w6 (by rfl) (by rfl) hr3 ?_)
        go_ret2
        refine ⟨_, _, rfl, ?_, ?_, H.out.2.1.bel⟩
        · have h1 := H.out.1
          rw [H.out.2.2.2] at h1
          rw [HT0.out.1]; exact h1
        · have h1 := H.out.2.2.1
          rw [H.out.2.2.2] at h1
          exact h1
end
end Go.Proofs.Ybulkbwqo
