/- DERIVED. hasControl, CheckName, CheckID: the walks. -/
import Derived.Test.YbulkbwseFmtE
namespace Go.Proofs.YbulkbwseFmt
open Go.RowKit Go.Extern.Stop Go.Stop Go.Extern

def ctl (c : UInt8) : Bool := decide (c.toNat < 32) || c.toNat == 127
def hasC (s : ByteArray) : Bool := s.data.toList.any ctl
theorem hasC_at {s : ByteArray} {k : Nat} (h : k < s.size) (hc : ctl s[k] = true) : hasC s = true := List.any_eq_true.2 ⟨s[k], by exact List.getElem_mem (by simpa using h), hc⟩
theorem ret_bool {a b : Bool} (h : a = b) : Ending.returned (.bool a) = .returned (.bool b) := by rw [h]

set_option maxHeartbeats 400000 in
theorem hasControl_any (s : ByteArray) (w : World) (hs : s.size ≤ 1000) (hne : ∀ j (h : j < s.size), s[j].toNat ≠ 194) :
    Calls Ybaf.prog 20 #[.string s] w fun e w' => e = .returned (.bool (hasC s)) ∧ w' = w := by
  have HN : Hid (∀ j (h : j < s.size), s[j].toNat ≠ 194) := hne
  clear hne
  go_enter Ybaf.func20, Ybaf.ntmps20
  go_wp2
  go_loop [3] (fun i => ∃ k : Nat, k ≤ s.size ∧ i = .int .i64 k ∧ (s.data.toList.take k).any ctl = false) (fun i => s.size - (intOf i).toNat)
  case atStart => exact ⟨0, Nat.zero_le _, rfl, rfl⟩
  case round =>
    obtain ⟨k, hk, rfl, hm⟩ := hrel
    have HM : Hid ((s.data.toList.take k).any ctl = false) := hm
    clear hm
    by_cases hlt : k < s.size
    · have k1 : (k : Int) < (s.size : Int) := by omega
      have k0 : (0 : Int) ≤ (k : Int) := by omega
      have h194 : ((s[k].toNat : Int) == 194) = false := by have := HN.out k hlt; simp; omega
      by_cases h32 : s[k].toNat < 32
      · have h32' : (s[k].toNat : Int) < 32 := by omega
        go_wp2
        go_ret
        exact ⟨ret_bool (hasC_at hlt (by simp [ctl, h32])).symm, rfl⟩
      · have h32' : ¬ (s[k].toNat : Int) < 32 := by omega
        by_cases h127 : s[k].toNat = 127
        · have h127' : ((s[k].toNat : Int) == 127) = true := by simp; omega
          have H127 : Hid _ := h127
          clear h127
          go_wp2
          go_ret
          exact ⟨ret_bool (hasC_at hlt (by simp [ctl, H127.out])).symm, rfl⟩
        · have h127' : ((s[k].toNat : Int) == 127) = false := by simp; omega
          have H127 : Hid _ := h127
          have H32 : Hid _ := h32
          clear h127 h32
          go_wp2
          go_round
          case rel =>
            refine ⟨k + 1, by omega, by go_num, ?_⟩
            rw [List.take_succ_eq_append_getElem (by simpa using hlt), List.any_append, HM.out]
            have : s.data.toList[k]'(by simpa using hlt) = s[k] := rfl
            rw [this]
            have a1 : ¬ s[k].toNat = 127 := H127.out
            have a2 : ¬ s[k].toNat < 32 := H32.out
            simp [ctl, a1, a2]
          case measure => simp [intOf]; omega
    · have k1 : ¬ (k : Int) < (s.size : Int) := by omega
      go_wp2
      go_ret
      have hm := HM.out
      rw [List.take_of_length_le (by simp; omega)] at hm
      exact ⟨ret_bool hm.symm, rfl⟩

theorem name_ok (s : ByteArray) (w : World) (h0 : s.toList.isEmpty = false) (hc : hasC s = false) (hs : s.size ≤ 1000) (hne : ∀ j (h : j < s.size), s[j].toNat ≠ 194) :
    Calls Ybaf.prog 14 #[.string s] w fun e w' => e = .returned .nilIface ∧ w' = w := by
  have hh := hasControl_any s w hs hne
  rw [hc] at hh
  have HH : Hid (Calls Ybaf.prog 20 #[.string s] w fun e w' => e = .returned (.bool false) ∧ w' = w) := hh
  clear hh hne hc
  go_enter Ybaf.func14, Ybaf.ntmps14
  go_wp2_with fail
  refine Calls.mono HH.out ?_
  rintro e w' ⟨rfl, rfl⟩
  go_wp2
  go_ret
  exact ⟨rfl, rfl⟩

theorem name_empty (s : ByteArray) (w : World) (h0 : s.toList.isEmpty = true) :
    Calls Ybaf.prog 14 #[.string s] w fun e w' => ∃ a t, e = .returned (.iface 76 (.pointer (some a))) ∧ w'.cell? a = some (.string t) ∧ Below w.heap.size w w' := by
  go_enter Ybaf.func14, Ybaf.ntmps14
  go_wp2
  go_ret
  exact ⟨_, _, rfl, by rw [World.cell?_alloc_new]; rfl, (Below.refl _ _).alloc (Nat.le_refl _) _⟩

theorem name_ctl (F : Interp) (s : ByteArray) (w : World) (hF : F.answers w.tape) (h0 : s.toList.isEmpty = false) (hc : hasC s = true) (hs : s.size ≤ 1000) (hne : ∀ j (h : j < s.size), s[j].toNat ≠ 194) :
    Calls Ybaf.prog 14 #[.string s] w fun e w' => ∃ a t, e = .returned (.iface 76 (.pointer (some a))) ∧ w'.cell? a = some (.string t) ∧ Below w.heap.size w w' := by
  have hh := hasControl_any s w hs hne
  rw [hc] at hh
  have HH : Hid (Calls Ybaf.prog 20 #[.string s] w fun e w' => e = .returned (.bool true) ∧ w' = w) := hh
  have hr := run_name F s w.heap.size (w.alloc (.cells #[.iface 9 (.string s)] 20)) hF (by rw [World.cell?_alloc_new]; rfl)
  have hsz : (w.alloc (.cells #[.iface 9 (.string s)] 20)).heap.size = w.heap.size + 1 := by simp
  rw [hsz] at hr
  clear hh hne hc hsz
  go_enter Ybaf.func14, Ybaf.ntmps14
  go_wp2_with fail
  refine Calls.mono HH.out ?_
  rintro e w' ⟨rfl, rfl⟩
  go_wp2
  go_ret
  exact ⟨_, _, rfl, by rw [World.cell?_drew, World.cell?_alloc_at _ _ _ _ (by simp)]; rfl, (((Below.refl _ _).alloc (Nat.le_refl _) _).alloc (by simp) _).drew⟩

/-- What CheckID accepts, of a string without the byte 194. -/
def okId (s : ByteArray) : Bool := !s.toList.isEmpty && !hasC s && decide (s.size ≤ 80)

theorem id_ok (s : ByteArray) (w : World) (h : okId s = true) (hne : ∀ j (h : j < s.size), s[j].toNat ≠ 194) :
    Calls Ybaf.prog 9 #[.string s] w fun e w' => e = .returned .nilIface ∧ w' = w := by
  simp only [okId, Bool.and_eq_true, Bool.not_eq_true', decide_eq_true_iff] at h
  obtain ⟨⟨h0, hc⟩, h80⟩ := h
  have HH := name_ok s w h0 hc (by omega) hne
  have h80' : ¬ (80 : Int) < (s.size : Int) := by omega
  have HHH : Hid (Calls Ybaf.prog 14 #[.string s] w fun e w' => e = .returned .nilIface ∧ w' = w) := HH
  clear HH hne hc h0
  go_enter Ybaf.func9, Ybaf.ntmps9
  go_wp2_with fail
  refine Calls.mono HHH.out ?_
  rintro e w' ⟨rfl, rfl⟩
  go_wp2
  go_ret
  exact ⟨rfl, rfl⟩

theorem id_bad_name (F : Interp) (s : ByteArray) (w : World) (hF : F.answers w.tape)
    (hh : Calls Ybaf.prog 14 #[.string s] w fun e w' => ∃ a t, e = .returned (.iface 76 (.pointer (some a))) ∧ w'.cell? a = some (.string t) ∧ Below w.heap.size w w') :
    Calls Ybaf.prog 9 #[.string s] w fun e w' => (∃ t v, e = .returned (.iface t v)) ∧ Below w.heap.size w w' := by
  have HH : Hid (Calls Ybaf.prog 14 #[.string s] w fun e w' => ∃ a t, e = .returned (.iface 76 (.pointer (some a))) ∧ w'.cell? a = some (.string t) ∧ Below w.heap.size w w') := hh
  clear hh
  go_enter Ybaf.func9, Ybaf.ntmps9
  go_wp2_with fail
  refine Calls.mono HH.out ?_
  rintro e w1 ⟨a, t, rfl, hc, hb⟩
  have hlt := World.block_lt_of_cell? _ _ hc
  have hr := run_wrap F a t w1.heap.size (w1.alloc (.cells #[.iface 76 (.pointer (some a))] 20)) (by rw [World.tape_alloc, hb.tape]; exact hF) (by rw [World.cell?_alloc_new]; rfl) (by rw [World.cell?_alloc_lt _ _ _ hlt]; exact hc)
  have hsz : (w1.alloc (.cells #[.iface 76 (.pointer (some a))] 20)).heap.size = w1.heap.size + 1 := by simp
  rw [hsz] at hr
  have HB : Hid (Below w.heap.size w w1) := hb
  clear hb hc hsz hlt
  go_wp2
  go_ret
  exact ⟨⟨_, _, rfl⟩, ((HB.out.alloc HB.out.size _).alloc (by have := HB.out.size; simp; omega) _).drew⟩

theorem id_long (F : Interp) (s : ByteArray) (w : World) (hF : F.answers w.tape) (h0 : s.toList.isEmpty = false) (hc : hasC s = false) (hs : s.size ≤ 1000) (h80 : 80 < s.size) (hne : ∀ j (h : j < s.size), s[j].toNat ≠ 194) :
    Calls Ybaf.prog 9 #[.string s] w fun e w' => (∃ t v, e = .returned (.iface t v)) ∧ Below w.heap.size w w' := by
  have HH := name_ok s w h0 hc hs hne
  have h80' : (80 : Int) < (s.size : Int) := by omega
  have HHH : Hid (Calls Ybaf.prog 14 #[.string s] w fun e w' => e = .returned .nilIface ∧ w' = w) := HH
  have hr := run_long F s 80 w.heap.size (w.alloc (.cells #[.iface 9 (.string s), .iface 3 (.int .i64 80)] 20)) hF (by rw [World.cell?_alloc_new]; rfl) (by rw [World.cell?_alloc_new]; rfl)
  have hsz : (w.alloc (.cells #[.iface 9 (.string s), .iface 3 (.int .i64 80)] 20)).heap.size = w.heap.size + 1 := by simp
  rw [hsz] at hr
  clear HH hne hc h0 hsz
  go_enter Ybaf.func9, Ybaf.ntmps9
  go_wp2_with fail
  refine Calls.mono HHH.out ?_
  rintro e w' ⟨rfl, rfl⟩
  go_wp2
  go_ret
  exact ⟨⟨_, _, rfl⟩, (((Below.refl _ _).alloc (Nat.le_refl _) _).alloc (by simp) _).drew⟩

theorem id_bad (F : Interp) (s : ByteArray) (w : World) (hF : F.answers w.tape) (h : okId s = false) (hs : s.size ≤ 1000) (hne : ∀ j (h : j < s.size), s[j].toNat ≠ 194) :
    Calls Ybaf.prog 9 #[.string s] w fun e w' => (∃ t v, e = .returned (.iface t v)) ∧ Below w.heap.size w w' := by
  cases h0 : s.toList.isEmpty with
  | true => exact id_bad_name F s w hF (name_empty s w h0)
  | false =>
    cases hc : hasC s with
    | true => exact id_bad_name F s w hF (name_ctl F s w hF h0 hc hs hne)
    | false =>
      refine id_long F s w hF h0 hc hs ?_ hne
      simp [okId, h0, hc] at h
      omega
end Go.Proofs.YbulkbwseFmt
