/- DERIVED. The law's model. -/
import Derived.Test.YbulkbwqoC
namespace Go.Proofs.Ybulkbwqo
open Go.RowKit

/-- The bytes of a slice that came in. -/
def Bytes (Y : Option Addr) (l : List UInt8) (w : World) : Prop := ∀ j (hj : j < l.length), ∃ b off, Y = some ⟨b, off, none⟩ ∧ b < w.heap.size ∧ w.cell? ⟨b, off + j, none⟩ = some (.int .u8 (l[j].toNat : Int))
theorem Bytes.below {Y : Option Addr} {l : List UInt8} {w w' : World} (h : Bytes Y l w) (hb : Below w.heap.size w w') : Bytes Y l w' := fun j hj => by
  obtain ⟨b, off, hY, hl, hc⟩ := h j hj
  exact ⟨b, off, hY, Nat.lt_of_lt_of_le hl hb.size, by rw [hb.cell (p := ⟨b, off + j, none⟩) hl]; exact hc⟩
theorem Items.below {X : Option Addr} {n : Nat} {S : Nat → ByteArray} {w w' : World} (h : Items X n S w) (hb : Below w.heap.size w w') : Items X n S w' := fun j hj => by
  obtain ⟨b, off, hY, hl, hc, hs⟩ := h j hj
  exact ⟨b, off, hY, Nat.lt_of_lt_of_le hl hb.size, by rw [hb.cell (p := ⟨b, off + j, none⟩) hl]; exact hc, hs⟩
theorem Items.cells {X : Option Addr} {n : Nat} {S : Nat → ByteArray} {w w' : World} (h : Items X n S w) (hb : Below w.heap.size w w') : ∀ k, k < n → ∃ b off, X = some ⟨b, off, none⟩ ∧ w'.cell? ⟨b, off + k, none⟩ = some (.string (S k)) := fun j hj => by
  obtain ⟨b, off, hY, _, hc, _⟩ := h.below hb j hj
  exact ⟨b, off, hY, hc⟩

/-- 'append([]byte(nil), pre...)'. -/
theorem app_pre (B : Nat) (Y : Option Addr) (l : List UInt8) (c : Nat) (w : World) (hY : Y = none → l.length = 0 ∧ c = 0) (hl : l.length ≤ 65536) (hB : B ≤ w.heap.size) (h : Bytes Y l w) :
    ∃ v' w', (Builtin.append_ #[22, 22] 22 #[.slice none 0 0, .slice Y l.length c]).run Yba.prog w = .ok v' w' ∧ Own B w' v' l ∧ Stp B [5] w w' := by
  obtain ⟨i5, hi5, hz5, hs5, hb5⟩ := info_parts info5
  cases Y with
  | none =>
    obtain ⟨h0, rfl⟩ := hY rfl
    have hn : l = [] := List.eq_nil_of_length_eq_zero h0
    subst hn
    exact ⟨_, w, run_append_owned_none (P := Yba.prog) w B 22 22 5 i5 1 Yba.underlying22 hi5 _ 0 [] (World.ownsRow_nil _ _ _ _), Own.nil _ _, Stp.refl _ _ _⟩
  | some a =>
    have hmem : ∀ u ∈ cs l, u.oneCell' = true := fun u hu => by
      simp [cs] at hu; obtain ⟨a, _, rfl⟩ := hu; rfl
    obtain ⟨v', w', hr, ho', hg, _, _⟩ := run_append_own_at (P := Yba.prog) w B 22 22 5 i5 _ 1 1 Yba.underlying22 hi5 hz5 hs5 hb5 rfl (by omega) (.slice none 0 0) 0 [] (World.ownsRow_nil _ _ _ _) a l.length c (cs l) (by rw [cs_len]; omega)
      (fun j u hu => by
        have hj : j < l.length := by rw [← cs_len l]; exact (List.getElem?_eq_some_iff.1 hu).1
        obtain ⟨b, off, hab, _, hc⟩ := h j hj
        injection hab with hab
        subst hab
        have e : (⟨b, off, none⟩ : Addr).add j = ⟨b, off + j, none⟩ := by unfold Addr.add; split <;> simp_all
        rw [e, hc, ← hu]
        simp [cs, hj]) hmem (by unfold maxLen; omega) (by omega) hB
    refine ⟨v', w', hr, by simpa [Own] using ho', grown_stp (Stp.refl B [5] w) hB (World.ownsRow_nil w B 5 1) (by simp) hg⟩

def itm (n : Nat) (S : Nat → ByteArray) (i : Nat) : ByteArray := if n = 0 then ⟨#[120]⟩ else S (i % n)
theorem itm_size {n : Nat} {S : Nat → ByteArray} (h : ∀ k, k < n → (S k).size ≤ 4096) (i : Nat) : (itm n S i).size ≤ 4096 := by
  unfold itm
  split
  · show (1 : Nat) ≤ 4096; omega
  · exact h _ (Nat.mod_lt _ (by omega))
def cmpT (it : Nat → ByteArray) : Nat → List UInt8
  | 0 => []
  | i + 1 => cmpT it i ++ (if i = 0 then [] else [44, 32]) ++ (it i).data.toList
def expT (it : Nat → ByteArray) (lv wd N : Nat) (bare : Bool) (gp : Nat → Bool) : Nat → List UInt8
  | 0 => nl (min (lv + 1) 16 * wd)
  | i + 1 => expT it lv wd N bare gp i ++ (it i).data.toList ++ (if bare then [] else [44]) ++ (if gp i then [10] else []) ++ nl (min (if i + 1 = N then lv else lv + 1) 16 * wd)
theorem nlm_len {lv wd : Nat} (hwd : wd ≤ 4) : (nl (min lv 16 * wd)).length ≤ 65 := by
  have : min lv 16 * wd ≤ 16 * 4 := Nat.mul_le_mul (by omega) hwd
  rw [nl_len]; omega
theorem cmpT_len {it : Nat → ByteArray} (h : ∀ i, (it i).size ≤ 4096) : ∀ i, (cmpT it i).length ≤ i * 5000
  | 0 => by simp [cmpT]
  | i + 1 => by
    have h1 := cmpT_len h i
    have h2 := h i
    have h3 : (it i).data.size = (it i).size := rfl
    simp only [cmpT, List.length_append, Array.length_toList]
    split <;> simp <;> omega
theorem expT_len {it : Nat → ByteArray} {lv wd N : Nat} {bare : Bool} {gp : Nat → Bool} (h : ∀ i, (it i).size ≤ 4096) (hwd : wd ≤ 4) : ∀ i, (expT it lv wd N bare gp i).length ≤ 65 + i * 5000
  | 0 => by have := nlm_len (lv := lv + 1) hwd; simp only [expT]; omega
  | i + 1 => by
    have h1 := expT_len (lv := lv) (N := N) (bare := bare) (gp := gp) h hwd i
    have h2 := h i
    have h3 : (it i).data.size = (it i).size := rfl
    have h4 := nlm_len (lv := if i + 1 = N then lv else lv + 1) hwd
    simp only [expT, List.length_append, Array.length_toList]
    have h5 : (if bare then ([] : List UInt8) else [44]).length ≤ 1 := by split <;> simp
    have h6 : (if gp i then [10] else ([] : List UInt8)).length ≤ 1 := by split <;> simp
    omega

section
variable {Y : Option Addr} {l0 : List UInt8} {c0 : Nat} {op cl : UInt8} {lv wd N : Nat} {lines bare : Bool} {X : Option Addr} {n cap : Nat} {S : Nat → ByteArray} {X1 X2 : Option Addr} {n1 c1 n2 c2 : Nat} {w : World}

set_option maxRecDepth 100000 in
set_option maxHeartbeats 4000000 in
theorem model_compact (hY : Y = none → l0.length = 0 ∧ c0 = 0) (hl : l0.length ≤ 65536) (hp : Bytes Y l0 w) (hI : Items X n S w) (hn : n ≤ 1024) (hS : ∀ k, k < n → (S k).size ≤ 4096) (hN : N ≤ 600) (hlv : lv ≤ 255) (hx : N = 0 ∨ (0 < N ∧ 16 ≤ lv)) :
    Calls Yba.prog 8 #[.slice Y l0.length c0, .int .u8 op.toNat, .int .u8 cl.toNat, .int .i64 lv, .int .i64 wd, .bool false, .bool bare, .slice X n cap, .int .i64 N, .slice X1 n1 c1, .slice X2 n2 c2, .bool true] w
      fun e w' => ∃ v, e = .returned (.tuple #[v, .slice none 0 0]) ∧ Own w.heap.size w' v (l0 ++ [op] ++ cmpT (itm n S) N ++ [cl]) ∧ Below w.heap.size w w' := by
  obtain ⟨v1, w1, hr1, o1, S1⟩ := app_pre w.heap.size Y l0 c0 w hY hl (Nat.le_refl _) hp
  obtain ⟨v2, w2, hr2, o2, S2⟩ := app1 w.heap.size v1 l0 op.toNat op rfl w1 S1.bel.size o1 (by omega)
  have S12 := S1.trans S2
  have hit := itm_size hS
  have H := hid (And.intro o2 S12)
  have HI := hid (And.intro hI (And.intro hit hS))
  clear o1 S1 o2 S2 S12 hp hI hit hS hY
  have hx' : (N : Int) = 0 ∨ (0 < (N : Int) ∧ ¬ (lv : Int) < 16) := by omega
  clear hx
  obtain ⟨T, hT⟩ : ∃ T, T = l0 ++ [op] ++ cmpT (itm n S) N ++ [cl] := ⟨_, rfl⟩
  rw [← hT]
  have HT0 := hid hT
  clear hT
  rcases hx' with h0 | ⟨h0, h16⟩
  · have hN0 : N = 0 := by omega
    go_enter Yba.func8, Yba.ntmps8
    go_wp2_with (at_builtin; first | (refine wpList_append_run (by rfl) _ _ 22 22 (by rfl) (.slice none 0 0) _ _ w1 (by rfl) (by rfl) hr1 ?_) | (refine wpList_append_run (by rfl) _ _ 22 22 (by rfl) v1 _ _ w2 (by rfl) (by rfl) hr2 ?_))
    clear hr1 hr2
    go_loopw [26, 27] (fun bv iv wz => ∃ i : Nat, i ≤ N ∧ iv = .int .i64 i ∧ Own w.heap.size wz bv (l0 ++ [op] ++ cmpT (itm n S) i) ∧ Stp w.heap.size [5] w wz) (fun _ iv _ => N - (intOf iv).toNat)
    case atStart => exact ⟨0, Nat.zero_le _, rfl, by simpa [cmpT] using H.out.1, H.out.2⟩
    case round =>
      obtain ⟨i, hi, rfl, hoi, hsi⟩ := hrel
      clear H
      rename World => w3
      have hlen := cmpT_len HI.out.2.1 i
      have hB3 := hsi.bel.size
      by_cases hlt : i < N
      · exact absurd hlt (by omega)
      · have i1 : ¬ (i : Int) < 0 := by omega
        have hiN : i = N := by omega
        obtain ⟨v3, w4, hr3, o3, S3⟩ := app1 w.heap.size u26 _ cl.toNat cl rfl w3 hB3 hoi (by simp; omega)
        have H := hid (And.intro o3 (And.intro (hsi.trans S3) hiN))
        clear o3 S3 hoi hsi hiN
        go_wp2_with (at_builtin; refine wpList_append_run (by rfl) _ _ 22 22 (by rfl) u26 _ _ w4 (by rfl) (by rfl) hr3 ?_)
        go_ret2
        refine ⟨_, rfl, ?_, H.out.2.1.bel⟩
        rw [HT0.out, ← H.out.2.2]
        exact H.out.1
  ·
    go_enter Yba.func8, Yba.ntmps8
    go_wp2_with (at_builtin; first | (refine wpList_append_run (by rfl) _ _ 22 22 (by rfl) (.slice none 0 0) _ _ w1 (by rfl) (by rfl) hr1 ?_) | (refine wpList_append_run (by rfl) _ _ 22 22 (by rfl) v1 _ _ w2 (by rfl) (by rfl) hr2 ?_))
    clear hr1 hr2
    go_loopw [26, 27] (fun bv iv wz => ∃ i : Nat, i ≤ N ∧ iv = .int .i64 i ∧ Own w.heap.size wz bv (l0 ++ [op] ++ cmpT (itm n S) i) ∧ Stp w.heap.size [5] w wz) (fun _ iv _ => N - (intOf iv).toNat)
    case atStart => exact ⟨0, Nat.zero_le _, rfl, by simpa [cmpT] using H.out.1, H.out.2⟩
    case round =>
      obtain ⟨i, hi, rfl, hoi, hsi⟩ := hrel
      clear H
      rename World => w3
      have hlen := cmpT_len HI.out.2.1 i
      have hB3 := hsi.bel.size
      by_cases hlt : i < N
      · have i1 : (i : Int) < (N : Int) := by omega
        have hitem := item_any X n cap S i
        by_cases hi0 : i = 0
        · have i0 : ¬ (0 : Int) < (i : Int) := by omega
          obtain ⟨v4, w4, hr4, o4, S4⟩ := app_str w.heap.size u26 _ (itm n S i) w3 hB3 hoi (by have := HI.out.2.1 i; simp; omega)
          have hit0 := hitem w3 hn (by omega) (HI.out.1.cells hsi.bel)
          have H := hid (And.intro o4 (And.intro (hsi.trans S4) hi0))
          have HT := hid hit0
          clear o4 S4 hoi hsi hitem hit0 hi0
          go_wp2_with fail
          refine HT.out.mono ?_
          rintro e w5 ⟨rfl, rfl⟩
          go_wp2_with (at_builtin; refine wpList_append_run (by rfl) _ _ 22 9 (by rfl) u26 _ _ w4 (by rfl) (by rfl) hr4 ?_)
          go_roundw
          case rel =>
            refine ⟨i + 1, by omega, by go_num, ?_, H.out.2.1⟩
            have h1 := H.out.1
            have h2 : cmpT (itm n S) (i + 1) = cmpT (itm n S) i ++ (itm n S i).data.toList := by simp [cmpT, H.out.2.2]
            rw [h2, ← List.append_assoc]
            exact h1
          case measure => simp [intOf]; omega
        · have i0 : (0 : Int) < (i : Int) := by omega
          obtain ⟨v3, w4, hr3, o3, S3⟩ := app2 w.heap.size u26 _ w3 hB3 hoi (by simp; omega)
          have hs4 := hsi.trans S3
          obtain ⟨v4, w5, hr4, o4, S4⟩ := app_str w.heap.size v3 _ (itm n S i) w4 hs4.bel.size o3 (by have := HI.out.2.1 i; simp; omega)
          have hit0 := hitem w4 hn (by omega) (HI.out.1.cells hs4.bel)
          have H := hid (And.intro o4 (And.intro (hs4.trans S4) hi0))
          have HT := hid hit0
          clear o3 S3 o4 S4 hoi hsi hs4 hitem hit0 hi0
          go_wp2_with (at_builtin; refine wpList_append_run (by rfl) _ _ 22 22 (by rfl) u26 _ _ w4 (by rfl) (by rfl) hr3 ?_)
          refine HT.out.mono ?_
          rintro e w6 ⟨rfl, rfl⟩
          go_wp2_with (at_builtin; refine wpList_append_run (by rfl) _ _ 22 9 (by rfl) v3 _ _ w5 (by rfl) (by rfl) hr4 ?_)
          go_roundw
          case rel =>
            refine ⟨i + 1, by omega, by go_num, ?_, H.out.2.1⟩
            have h1 := H.out.1
            have h2 : cmpT (itm n S) (i + 1) = cmpT (itm n S) i ++ [44, 32] ++ (itm n S i).data.toList := by simp [cmpT, H.out.2.2]
            rw [h2, ← List.append_assoc, ← List.append_assoc]
            exact h1
          case measure => simp [intOf]; omega
      · have i1 : ¬ (i : Int) < (N : Int) := by omega
        have hiN : i = N := by omega
        obtain ⟨v3, w4, hr3, o3, S3⟩ := app1 w.heap.size u26 _ cl.toNat cl rfl w3 hB3 hoi (by simp; omega)
        have H := hid (And.intro o3 (And.intro (hsi.trans S3) hiN))
        clear o3 S3 hoi hsi hiN
        go_wp2_with (at_builtin; refine wpList_append_run (by rfl) _ _ 22 22 (by rfl) u26 _ _ w4 (by rfl) (by rfl) hr3 ?_)
        go_ret2
        refine ⟨_, rfl, ?_, H.out.2.1.bel⟩
        rw [HT0.out, ← H.out.2.2]
        exact H.out.1
end
end Go.Proofs.Ybulkbwqo
