/- DERIVED. The walk of the model. -/
import Derived.Test.YbulkbwseA
namespace Go.Proofs.Ybulkbwse
open Go.RowKit

theorem take_eq_succ (a b : List UInt8) (j : Nat) (ha : j < a.length) (hb : j < b.length) (h : a.take j = b.take j) (e : a[j] = b[j]) : a.take (j + 1) = b.take (j + 1) := by
  rw [List.take_succ_eq_append_getElem ha, List.take_succ_eq_append_getElem hb, h, e]

theorem okp_off {p e : List UInt8} (h : p.isPrefixOf e = false) : okp p e = false := by simp [okp, h]
theorem take_on {p e : ByteArray} {j : Nat} (hp : j < p.size) (he : j < e.size) (h : e.data.toList.take j = p.data.toList.take j) (hd : ((e[j].toNat : Int) != (p[j].toNat : Int)) = false) : e.data.toList.take (j + 1) = p.data.toList.take (j + 1) := by
  refine take_eq_succ _ _ _ (by simpa using he) (by simpa using hp) h ?_
  have h2 : e[j].toNat = p[j].toNat := by simp at hd; omega
  exact UInt8.toNat_inj.1 h2
theorem pre_off {p e : ByteArray} {j : Nat} (hp : j < p.size) (he : j < e.size) (hd : ((e[j].toNat : Int) != (p[j].toNat : Int)) = true) : p.data.toList.isPrefixOf e.data.toList = false := by
  rw [Bool.eq_false_iff]
  intro h
  rw [List.isPrefixOf_iff_prefix] at h
  obtain ⟨t, ht⟩ := h
  have h1 : e.data.toList[j]? = p.data.toList[j]? := by rw [← ht, List.getElem?_append_left (by simpa using hp)]
  rw [List.getElem?_eq_getElem (by simpa using he), List.getElem?_eq_getElem (by simpa using hp), Option.some.injEq] at h1
  have h2 : e[j] = p[j] := h1
  rw [h2] at hd
  simp at hd
theorem okp_at {p e : ByteArray} (hpre : p.data.toList.isPrefixOf e.data.toList = true) (hp : p.toList.isEmpty = false) (hsz : p.size < e.size) (b : Bool) (h : ((e[p.size].toNat : Int) == 46) = b) : okp p.data.toList e.data.toList = b := by
  have h0 : 0 < (e.extract p.size e.size).size := by simp; omega
  refine okp_c hpre hp ?_ h0 b ?_
  · rw [rest_list, List.isEmpty_eq_false_iff, ne_eq, List.drop_eq_nil_iff]
    simp; omega
  · have h1 := rest_head (p := p) (e := e) h0
    have h2 : (e.data.toList.drop p.data.toList.length).head? = some e[p.size] := by
      rw [List.head?_drop, List.getElem?_eq_getElem (by simpa using hsz)]
      rfl
    rw [h1, Option.some.injEq] at h2
    rw [h2]; exact h

set_option maxRecDepth 100000 in
set_option maxHeartbeats 800000 in
theorem model_any (g n cap : Nat) (ps : List ByteArray) (ev : ByteArray) (w : World) (hn : ps.length = n) (hn1 : n ≤ 100000)
    (hc : ∀ j p, ps[j]? = some p → w.cell? ⟨g, j, none⟩ = some (.string p)) (hs : ∀ p ∈ ps, p.size ≤ 9223372036854775807) (he : ev.size ≤ 9223372036854775807) :
    Calls Yba.prog 7 #[.slice (some ⟨g, 0, none⟩) n cap, .string ev] w fun e w' => e = .returned (.bool (mt ps ev)) ∧ ∃ q, w' = w.drewN q := by
  have HC : Hid (∀ j p, ps[j]? = some p → w.cell? ⟨g, j, none⟩ = some (.string p)) := hc
  have HS0 : Hid (∀ p ∈ ps, p.size ≤ 9223372036854775807) := hs
  have HN : Hid (ps.length = n) := hn
  clear hc hs hn
  go_enter Yba.func7, Yba.ntmps7
  go_wp2
  go_loopw [5] (fun i wr => ∃ k q : Nat, k ≤ n ∧ i = .int .i64 k ∧ mt (ps.take k) ev = false ∧ wr = w.drewN q) (fun i _ => n - (intOf i).toNat)
  case atStart => exact ⟨0, 0, Nat.zero_le _, rfl, rfl, rfl⟩
  case round =>
    obtain ⟨k, q, hk, rfl, hm, rfl⟩ := hrel
    have HM : Hid (mt (ps.take k) ev = false) := hm
    clear hm
    by_cases hlt : k < n
    · obtain ⟨p, hp⟩ : ∃ p, ps[k]? = some p := ⟨_, List.getElem?_eq_getElem (by rw [HN.out]; omega)⟩
      have ck := HC.out k p hp
      have hsn := mt_snoc (ps.take k) p ev
      rw [← take_snoc' ps k p hp, HM.out, Bool.false_or] at hsn
      have HS : Hid _ := hsn
      have HP : Hid _ := hp
      have hps := HS0.out p (List.mem_of_getElem? hp)
      have k1 : (k : Int) < (n : Int) := by omega
      clear hsn hp
      by_cases hA : p.toList = []
      · go_wp2
        go_ret
        exact ⟨ret_bool (mt_hit ps p ev k HP.out (okp_a hA)).symm, q, rfl⟩
      · have hAe : p.toList.isEmpty = false := by simpa using hA
        clear hA
        by_cases hle : p.size ≤ ev.size
        · have l1 : ¬ (ev.size : Int) < (p.size : Int) := by omega
          go_wp2
          go_loopw [7, 8] (fun sv jv wz => ∃ j z : Nat, j ≤ p.size ∧ sv = .bool true ∧ jv = .int .i64 j ∧ ev.data.toList.take j = p.data.toList.take j ∧ wz = w.drewN z) (fun _ jv _ => p.size - (intOf jv).toNat)
          case atStart => exact ⟨0, q, Nat.zero_le _, rfl, rfl, rfl, rfl⟩
          case round =>
            obtain ⟨j, z, hj, rfl, rfl, ht, rfl⟩ := hrel
            have HT : Hid _ := ht
            clear ht
            by_cases hjl : j < p.size
            · have j1 : (j : Int) < (p.size : Int) := by omega
              have j2 : (j : Int) < (ev.size : Int) := by omega
              have j0 : (0 : Int) ≤ (j : Int) := by omega
              have j3 : j < ev.size := by omega
              cases hd : ((ev[j].toNat : Int) != (p[j].toNat : Int)) with
              | true =>
                go_wp2
                go_quiet (fail)
                go_wp2
                go_roundw
                case rel => exact ⟨k + 1, z + nq, by omega, by go_num, by rw [HS.out]; exact okp_off (pre_off (j := j) hjl j3 hd), rfl⟩
                case measure => simp [intOf]; omega
              | false =>
                go_wp2
                go_quiet (fail)
                go_wp2
                go_roundw
                case rel => exact ⟨j + 1, z + nq, by omega, rfl, by go_num, take_on hjl j3 HT.out hd, rfl⟩
                case measure => simp [intOf]; omega
            · have j1 : ¬ (j : Int) < (p.size : Int) := by omega
              have hjp : j = p.size := by omega
              have hpre : p.data.toList.isPrefixOf ev.data.toList = true := by
                have ht := HT.out
                rw [hjp, List.take_of_length_le (l := p.data.toList) (by simp)] at ht
                rw [isPrefixOf_take, decide_eq_true (by simpa using hle), Bool.true_and, beq_iff_eq]
                simpa using ht
              clear hjp
              by_cases hsz : p.size < ev.size
              · have s0 : ((ev.size : Int) == (p.size : Int)) = false := by simp; omega
                have s1 : (p.size : Int) < (ev.size : Int) := by omega
                cases hd : ((ev[p.size].toNat : Int) == 46) with
                | true =>
                  go_wp2
                  go_ret
                  exact ⟨ret_bool (mt_hit ps p ev k HP.out (okp_at hpre hAe hsz true hd)).symm, z, rfl⟩
                | false =>
                  go_wp2
                  go_roundw
                  case rel => exact ⟨k + 1, z, by omega, by go_num, by rw [HS.out]; exact okp_at hpre hAe hsz false hd, rfl⟩
                  case measure => simp [intOf]; omega
              · have s0 : ((ev.size : Int) == (p.size : Int)) = true := by simp; omega
                have hB : (ev.extract p.size ev.size).toList = [] := by
                  rw [rest_list, List.drop_eq_nil_iff]; simp; omega
                go_wp2
                go_ret
                exact ⟨ret_bool (mt_hit ps p ev k HP.out (okp_b hpre hB)).symm, z, rfl⟩
        · have l1 : (ev.size : Int) < (p.size : Int) := by omega
          have hpre : p.data.toList.isPrefixOf ev.data.toList = false := by
            rw [isPrefixOf_take, decide_eq_false (by simp; omega), Bool.false_and]
          go_wp2
          go_roundw
          case rel => exact ⟨k + 1, q, by omega, by go_num, by rw [HS.out]; simp [okp, hpre], rfl⟩
          case measure => simp [intOf]; omega
    · have k1 : ¬ (k : Int) < (n : Int) := by omega
      go_wp2
      go_ret
      have hm := HM.out
      rw [List.take_of_length_le (by have := HN.out; omega)] at hm
      exact ⟨ret_bool hm.symm, q, rfl⟩
end Go.Proofs.Ybulkbwse
