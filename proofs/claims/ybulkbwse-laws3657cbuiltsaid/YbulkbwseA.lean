/- DERIVED. CutPrefix, (wildcard).matches: the walks. -/
import Derived.Test.YbulkbwseRows
import Derived.WalkKit
import Derived.WalkSpells
import Derived.WalkLawsBesides
import Derived.Deep.QuietTactic
import Derived.BigQuiet
import Derived.Deep.AppendLies
import Derived.Lib.IndexBytes
namespace Go.Proofs.Ybulkbwse
open Go.RowKit

/-- a prefix's bytes ahead of the event's bytes. -/
def okp (p e : List UInt8) : Bool := p.isPrefixOf e && (p.isEmpty || (e.drop p.length).isEmpty || (e.drop p.length).head? == some 46)
def mt (ps : List ByteArray) (ev : ByteArray) : Bool := ps.any fun p => okp p.data.toList ev.data.toList

theorem isPrefixOf_take (p e : List UInt8) : p.isPrefixOf e = (decide (p.length ≤ e.length) && (e.take p.length == p)) := by
  rw [Bool.eq_iff_iff, List.isPrefixOf_iff_prefix, Bool.and_eq_true, decide_eq_true_iff, beq_iff_eq]
  constructor
  · intro h; exact ⟨h.length_le, (List.prefix_iff_eq_take.1 h).symm⟩
  · rintro ⟨_, h⟩; exact List.prefix_iff_eq_take.2 h.symm

set_option maxHeartbeats 400000 in
theorem cutp_yes (s p : ByteArray) (w : World) (h : p.data.toList.isPrefixOf s.data.toList = true) :
    Calls Yba.prog 8 #[.string s, .string p] w fun e w' => e = .returned (.tuple #[.string (s.extract p.size s.size), .bool true]) ∧ w' = w := by
  rw [isPrefixOf_take, Bool.and_eq_true, decide_eq_true_iff] at h
  obtain ⟨h1, h2⟩ := h
  have h1' : p.size ≤ s.size := by simpa using h1
  have h3 : ((s.extract 0 p.size).toList == p.toList) = true := by rw [ByteArray.toList_eq, ByteArray.toList_eq]; simpa using h2
  have h4 : (p.size : Int) ≤ (s.size : Int) := by omega
  clear h1 h2
  go_enter Yba.func8, Yba.ntmps8
  go_wp2
  go_ret2
  exact ⟨rfl, rfl⟩

set_option maxHeartbeats 400000 in
theorem cutp_no (s p : ByteArray) (w : World) (h : p.data.toList.isPrefixOf s.data.toList = false) :
    Calls Yba.prog 8 #[.string s, .string p] w fun e w' => e = .returned (.tuple #[.string s, .bool false]) ∧ w' = w := by
  rw [isPrefixOf_take] at h
  by_cases h1 : p.size ≤ s.size
  · have h4 : (p.size : Int) ≤ (s.size : Int) := by omega
    have h3 : ((s.extract 0 p.size).toList == p.toList) = false := by
      rw [ByteArray.toList_eq, ByteArray.toList_eq]
      have hd : decide (p.data.toList.length ≤ s.data.toList.length) = true := decide_eq_true (by simpa using h1)
      rw [hd, Bool.true_and] at h
      simpa using h
    clear h h1
    go_enter Yba.func8, Yba.ntmps8
    go_wp2
    go_ret2
    exact ⟨rfl, rfl⟩
  · have h4 : ¬ (p.size : Int) ≤ (s.size : Int) := by omega
    clear h h1
    go_enter Yba.func8, Yba.ntmps8
    go_wp2
    go_ret2
    exact ⟨rfl, rfl⟩

theorem mt_snoc (ps : List ByteArray) (p ev : ByteArray) : mt (ps ++ [p]) ev = (mt ps ev || okp p.data.toList ev.data.toList) := by simp [mt]
theorem take_snoc' {α : Type} (l : List α) (k : Nat) (x : α) (h : l[k]? = some x) : l.take (k + 1) = l.take k ++ [x] := by
  obtain ⟨hk, rfl⟩ := List.getElem?_eq_some_iff.1 h
  rw [List.take_succ_eq_append_getElem hk]

theorem ret_bool {a b : Bool} (h : a = b) : Ending.returned (.bool a) = .returned (.bool b) := by rw [h]
theorem mt_hit (ps : List ByteArray) (p ev : ByteArray) (k : Nat) (h : ps[k]? = some p) (ho : okp p.data.toList ev.data.toList = true) : mt ps ev = true := by
  unfold mt
  exact List.any_eq_true.2 ⟨p, List.mem_of_getElem? h, ho⟩
theorem rest_list (ev : ByteArray) (k : Nat) : (ev.extract k ev.size).toList = ev.data.toList.drop k := by
  rw [ByteArray.toList_eq, Lib.extract_to_end]
theorem okp_a {p e : ByteArray} (h : p.toList = []) : okp p.data.toList e.data.toList = true := by
  rw [ByteArray.toList_eq] at h
  simp [okp, h]
theorem okp_b {p e : ByteArray} (hpre : p.data.toList.isPrefixOf e.data.toList = true) (h : (e.extract p.size e.size).toList = []) : okp p.data.toList e.data.toList = true := by
  rw [rest_list] at h
  have h' : e.data.toList.drop p.data.toList.length = [] := by simpa using h
  simp only [okp, hpre, h']
  simp
theorem rest_head {p e : ByteArray} (h : 0 < (e.extract p.size e.size).size) : (e.data.toList.drop p.data.toList.length).head? = some (e.extract p.size e.size)[0] := by
  have h2 := Lib.extract_to_end e p.size
  have h3 : e.data.toList.drop p.data.toList.length = (e.extract p.size e.size).data.toList := by rw [h2]; simp
  rw [h3, List.head?_eq_getElem?, List.getElem?_eq_getElem (by simpa using h)]
  rfl
theorem okp_c {p e : ByteArray} (hpre : p.data.toList.isPrefixOf e.data.toList = true) (hp : p.toList.isEmpty = false) (hr : (e.extract p.size e.size).toList.isEmpty = false) (h0 : 0 < (e.extract p.size e.size).size) (b : Bool)
    (h : (((e.extract p.size e.size)[0].toNat : Int) == 46) = b) : okp p.data.toList e.data.toList = b := by
  rw [ByteArray.toList_eq] at hp
  rw [rest_list] at hr
  have hr' : (e.data.toList.drop p.data.toList.length).isEmpty = false := by simpa using hr
  simp only [okp, hpre, hp, hr', rest_head h0]
  simp only [Bool.true_and, Bool.false_or]
  rw [← h, Bool.eq_iff_iff]
  simp only [beq_iff_eq, Option.some.injEq]
  constructor
  · intro e1; rw [e1]; rfl
  · intro e1
    have e2 : (e.extract p.size e.size)[0].toNat = 46 := by omega
    exact UInt8.toNat_inj.1 (e2.trans rfl)

set_option maxHeartbeats 400000 in
theorem matches_any (g n cap : Nat) (tv : Value) (ps : List ByteArray) (ev : ByteArray) (w : World) (hn : ps.length = n) (hn1 : n ≤ 100000) (hg : g < w.heap.size)
    (hc : ∀ j p, ps[j]? = some p → w.cell? ⟨g, j, none⟩ = some (.string p)) :
    Calls Yba.prog 6 #[.agg #[.slice (some ⟨g, 0, none⟩) n cap, tv], .string ev] w fun e w' => e = .returned (.bool (mt ps ev)) ∧ Below w.heap.size w w' := by
  go_enter Yba.func6, Yba.ntmps6
  go_wp2
  have hcw : ∀ j p, ps[j]? = some p → (w.alloc (.cells #[.slice (some ⟨g, 0, none⟩) n cap, tv] 28)).cell? ⟨g, j, none⟩ = some (.string p) := fun j p hj => by rw [World.cell?_alloc_past _ _ _ hg]; exact hc j p hj
  have HB : Hid (Below w.heap.size w (w.alloc (.cells #[.slice (some ⟨g, 0, none⟩) n cap, tv] 28))) := (Below.refl _ _).alloc (Nat.le_refl _) _
  generalize w.alloc (.cells #[.slice (some ⟨g, 0, none⟩) n cap, tv] 28) = w1 at hcw HB ⊢
  have HC : Hid (∀ j p, ps[j]? = some p → w1.cell? ⟨g, j, none⟩ = some (.string p)) := hcw
  clear hc hcw hg
  go_loop [12] (fun i => ∃ k : Nat, k ≤ n ∧ i = .int .i64 k ∧ mt (ps.take k) ev = false) (fun i => n - (intOf i).toNat)
  case atStart => exact ⟨0, Nat.zero_le _, rfl, rfl⟩
  case round =>
    obtain ⟨k, hk, rfl, hm⟩ := hrel
    have HM : Hid _ := hm
    clear hm
    by_cases hlt : k < n
    · obtain ⟨p, hp⟩ : ∃ p, ps[k]? = some p := ⟨_, List.getElem?_eq_getElem (by omega)⟩
      have ck := HC.out k p hp
      have hsn := mt_snoc (ps.take k) p ev
      rw [← take_snoc' ps k p hp, HM.out, Bool.false_or] at hsn
      have HS : Hid _ := hsn
      have HPp : Hid _ := hp
      have k1 : (k : Int) < (n : Int) := by omega
      clear hsn hp
      cases hpre : p.data.toList.isPrefixOf ev.data.toList with
      | false =>
        go_wp2_with (go_at_call 8; refine (cutp_no _ _ _ hpre).mono ?_; rintro e w' ⟨rfl, rfl⟩)
        go_round
        case rel => exact ⟨k + 1, by omega, by go_num, by rw [HS.out]; simp [okp, hpre]⟩
        case measure => simp [intOf]; omega
      | true =>
        by_cases hA : p.toList = []
        · go_wp2_with (go_at_call 8; refine (cutp_yes _ _ _ hpre).mono ?_; rintro e w' ⟨rfl, rfl⟩)
          go_ret
          exact ⟨ret_bool (mt_hit ps p ev k HPp.out (okp_a hA)).symm, HB.out⟩
        · by_cases hsz : p.size < ev.size
          · have h0 : 0 < (ev.extract p.size ev.size).size := by simp; omega
            have hpe : p.toList.isEmpty = false := by simpa using hA
            have hre : (ev.extract p.size ev.size).toList.isEmpty = false := by
              rw [rest_list]
              rw [List.isEmpty_eq_false_iff, ne_eq, List.drop_eq_nil_iff]
              simp; omega
            have h1 : 0 < ev.size - p.size := by omega
            cases hd : (((ev.extract p.size ev.size)[0].toNat : Int) == 46) with
            | true =>
              go_wp2_with (go_at_call 8; refine (cutp_yes _ _ _ hpre).mono ?_; rintro e w' ⟨rfl, rfl⟩)
              go_ret
              exact ⟨ret_bool (mt_hit ps p ev k HPp.out (okp_c hpre hpe hre h0 true hd)).symm, HB.out⟩
            | false =>
              go_wp2_with (go_at_call 8; refine (cutp_yes _ _ _ hpre).mono ?_; rintro e w' ⟨rfl, rfl⟩)
              go_round
              case rel => exact ⟨k + 1, by omega, by go_num, by rw [HS.out]; exact okp_c hpre hpe hre h0 false hd⟩
              case measure => simp [intOf]; omega
          · have hB : (ev.extract p.size ev.size).toList = [] := by
              rw [rest_list, List.drop_eq_nil_iff]; simp; omega
            go_wp2_with (go_at_call 8; refine (cutp_yes _ _ _ hpre).mono ?_; rintro e w' ⟨rfl, rfl⟩)
            go_ret
            exact ⟨ret_bool (mt_hit ps p ev k HPp.out (okp_b hpre hB)).symm, HB.out⟩
    · have hkn : k = n := by omega
      have k1 : ¬ (k : Int) < (n : Int) := by omega
      have HK : Hid _ := hkn
      have HN : Hid _ := hn
      clear hkn hn
      go_wp2
      go_ret
      have hm := HM.out
      rw [List.take_of_length_le (by have := HK.out; have := HN.out; omega)] at hm
      exact ⟨ret_bool hm.symm, HB.out⟩
end Go.Proofs.Ybulkbwse
