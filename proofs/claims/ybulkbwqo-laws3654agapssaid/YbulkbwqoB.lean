/- DERIVED. appendNewline, newLine, Spill, the law's own small functions. -/
import Derived.Test.YbulkbwqoA
namespace Go.Proofs.Ybulkbwqo
open Go.RowKit

theorem nlS_cut (K m : Nat) (h : m ≤ K) : ((nlS K).extract 0 (1 + m)).data.toList = nl m := by
  simp [nlS, nl, ByteArray.data_extract]
  rw [Nat.add_comm, List.take_succ_cons, List.take_replicate, Nat.min_eq_left h]
theorem nlS_size (K : Nat) : (nlS K).size = K + 1 := by simp [nlS, ByteArray.size, nl]

theorem Stp.ofDrew {B : Nat} {ts : List TypeId} {a w : World} (h : Stp B ts a.drew w) : Stp B ts a w := ⟨⟨h.bel.os, h.bel.tape, h.bel.output, h.bel.size, h.bel.block⟩, h.fr⟩
theorem wrap_small {x : Int} (h0 : 0 ≤ x) (h1 : x ≤ 9223372036854775807) : IntKind.i64.wrap x = x := by
  simp [IntKind.wrap, IntKind.signed, IntKind.bits]
  omega

set_option maxRecDepth 100000 in
theorem appendNewline_any (B Bb wd lv : Nat) (v : Value) (l : List UInt8) (w : World) (hwd : wd ≤ 4) (hlv : lv ≤ 1000) (hB : B ≤ w.heap.size) (h1 : w.cell? ⟨Bb, 1, none⟩ = some (.string (nlS (16 * wd)))) (h2 : w.cell? ⟨Bb, 2, none⟩ = some (.int .i64 wd))
    (ho : Own B w v l) (hl : l.length ≤ 10000000) :
    Calls Yba.prog 22 #[.pointer (some ⟨Bb, 1, none⟩), v, .int .i64 lv] w fun e w' => ∃ v', e = .returned v' ∧ Own B w' v' (l ++ nl (min lv 16 * wd)) ∧ Stp B [5] w w' := by
  obtain ⟨m, hm⟩ : ∃ m, min lv 16 = m := ⟨_, rfl⟩
  have hm16 : m ≤ 16 := by omega
  have hmw : m * wd ≤ 16 * wd := Nat.mul_le_mul_right _ hm16
  have hmi : (if 16 < (lv : Int) then 16 else (lv : Int)) = (m : Int) := by split <;> omega
  obtain ⟨p, hp⟩ : ∃ p, m * wd = p := ⟨_, rfl⟩
  have hpi : (m : Int) * (wd : Int) = (p : Int) := by rw [← hp]; simp
  have hp64 : p ≤ 64 := by omega
  have hw1 : IntKind.i64.wrap (p : Int) = (p : Int) := wrap_small (by omega) (by omega)
  have hw2 : IntKind.i64.wrap (1 + (p : Int)) = 1 + (p : Int) := wrap_small (by omega) (by omega)
  have b1 : (0 : Int) ≤ 1 + (p : Int) := by omega
  have b2 : 1 + (p : Int) ≤ 16 * (wd : Int) + 1 := by omega
  have tn : (1 + (p : Int)).toNat = 1 + p := by omega
  have hcut := nlS_cut (16 * wd) p (by omega)
  obtain ⟨v', w', hr, ho', hs'⟩ := app_str B v l ((nlS (16 * wd)).extract 0 (1 + p)) w.drew hB ho.drew (by simp [ByteArray.size_extract]; omega)
  rw [hcut] at ho'
  have hsz := nlS_size (16 * wd)
  rw [hm, hp]
  have HO := hid (And.intro ho' hs')
  clear ho' hs' ho hcut hm hp
  go_enter Yba.func22, Yba.ntmps22
  go_wp2
  go_region_law ((refine step_append_run (by rfl) _ _ 22 9 (by rfl) v _ _ w' (by rfl) (by rfl) hr ?_))
  all_goals
    go_wp2
    go_ret
    exact ⟨v', rfl, HO.out.1, HO.out.2.ofDrew⟩

theorem nl_ne (K : Nat) : (nlS K).toList.isEmpty = false := by
  simp [nlS, nl, ByteArray.toList_eq]

/-- The Buffer in block Bb. -/
structure Buf (B Bb wd : Nat) (gf v : Value) (l : List UInt8) (w : World) : Prop where
  blk : w.heap[Bb]? = some (.cells #[v, .string (nlS (16 * wd)), .int .i64 wd, gf, .nilIface, .nilIface, .nilIface] 37)
  own : Own B w v l
  hB : B ≤ Bb
section
variable {B Bb wd : Nat} {gf v : Value} {l : List UInt8} {w w' : World}
theorem Buf.c0 (h : Buf B Bb wd gf v l w) : w.cell? ⟨Bb, 0, none⟩ = some v := by simp [World.cell?, h.blk]
theorem Buf.c1 (h : Buf B Bb wd gf v l w) : w.cell? ⟨Bb, 1, none⟩ = some (.string (nlS (16 * wd))) := by simp [World.cell?, h.blk]
theorem Buf.c2 (h : Buf B Bb wd gf v l w) : w.cell? ⟨Bb, 2, none⟩ = some (.int .i64 wd) := by simp [World.cell?, h.blk]
theorem Buf.c3 (h : Buf B Bb wd gf v l w) : w.cell? ⟨Bb, 3, none⟩ = some gf := by simp [World.cell?, h.blk]
theorem Buf.c5 (h : Buf B Bb wd gf v l w) : w.cell? ⟨Bb, 5, none⟩ = some .nilIface := by simp [World.cell?, h.blk]
theorem Buf.c6 (h : Buf B Bb wd gf v l w) : w.cell? ⟨Bb, 6, none⟩ = some .nilIface := by simp [World.cell?, h.blk]
theorem Buf.fz (h : Buf B Bb wd gf v l w) : w.frozen? ⟨Bb, 0, none⟩ = false := by simp [World.frozen?, h.blk]
theorem Buf.lt (h : Buf B Bb wd gf v l w) : B ≤ w.heap.size := by have := lt_of_some h.blk; have := h.hB; omega
theorem Buf.below (h : Buf B Bb wd gf v l w) (hb : Below w.heap.size w w') : Buf B Bb wd gf v l w' := ⟨(hb.block _ (lt_of_some h.blk)).trans h.blk, h.own.below hb, h.hB⟩
/-- After a step on bytes the new slice is stored. -/
theorem Buf.put (h : Buf B Bb wd gf v l w) (hs : Stp B [5] w w') {v' : Value} {l' : List UInt8} (ho : Own B w' v' l') : Buf B Bb wd gf v' l' (w'.setCell ⟨Bb, 0, none⟩ v') ∧ Stp B [5, 37] w (w'.setCell ⟨Bb, 0, none⟩ v') := by
  have hb := hs.fr Bb _ 37 (by decide) h.blk
  refine ⟨⟨?_, ho.setCell hb (by decide) v', h.hB⟩, (hs.mono (Nat.le_refl _) (by simp)).setCell hb (by decide) h.hB v'⟩
  simp only [World.setCell, Array.getElem?_modify, if_true, hb, Option.map_some, Option.isSome_none, Bool.false_eq_true, if_false]
  rfl
end

set_option maxRecDepth 100000 in
theorem newLine_any (B Bb wd lv fr : Nat) (gf v : Value) (l : List UInt8) (w : World) (hwd : wd ≤ 4) (hlv : lv ≤ 1000) (hfr : fr ≤ 1) (hb : Buf B Bb wd gf v l w) (hl : l.length ≤ 10000000) :
    Calls Yba.prog 25 #[.pointer (some ⟨Bb, 0, none⟩), v, .int .u8 fr, .int .i64 lv] w fun e w' => ∃ v', e = .returned v' ∧ Own B w' v' (l ++ nl (min lv 16 * wd)) ∧ Stp B [5] w w' := by
  have hne := nl_ne (16 * wd)
  have h1 := hb.c1
  have f2 : ¬ (fr : Int) = 2 := by omega
  have hc := appendNewline_any B Bb wd lv v l w hwd hlv hb.lt hb.c1 hb.c2 hb.own hl
  have HC := hid hc
  clear hc hb
  go_enter Yba.func25, Yba.ntmps25
  go_wp2_with fail
  refine HC.out.mono ?_
  rintro e w' ⟨v', rfl, ho, hs⟩
  go_wp2
  go_ret
  exact ⟨v', rfl, ho, hs⟩

set_option maxRecDepth 100000 in
theorem flush_any (B Bb wd : Nat) (gf v : Value) (l : List UInt8) (w : World) (hb : Buf B Bb wd gf v l w) :
    Calls Yba.prog 24 #[.pointer (some ⟨Bb, 0, none⟩)] w fun e w' => e = .returned .nilIface ∧ w' = w := by
  have h5 := hb.c5
  clear hb
  go_enter Yba.func24, Yba.ntmps24
  go_wp2
  go_ret
  exact ⟨rfl, rfl⟩

set_option maxRecDepth 100000 in
theorem spill_any (B Bb wd : Nat) (gf v : Value) (l : List UInt8) (w : World) (hb : Buf B Bb wd gf v l w) :
    Calls Yba.prog 19 #[.pointer (some ⟨Bb, 0, none⟩)] w fun e w' => e = .returned .nilIface ∧ w' = w := by
  obtain ⟨x, c, rfl⟩ := hb.own.form
  have h0 := hb.c0
  have h6 := hb.c6
  have hf := flush_any B Bb wd gf _ l w hb
  have HF := hid hf
  clear hb hf
  by_cases hlt : (l.length : Int) < 65536
  · go_enter Yba.func19, Yba.ntmps19
    go_wp2
    go_ret
    exact ⟨rfl, rfl⟩
  · go_enter Yba.func19, Yba.ntmps19
    go_wp2_with fail
    refine HF.out.mono ?_
    rintro e w' ⟨rfl, rfl⟩
    go_wp2
    go_ret
    exact ⟨rfl, rfl⟩

set_option maxRecDepth 100000 in
theorem brk_nil (i : Nat) (w : World) : Calls Yba.prog 13 #[.slice none 0 0, .int .i64 i] w fun e w' => e = .returned (.int .i64 0) ∧ w' = w := by
  have h : ¬ (i : Int) < 0 := by omega
  go_enter Yba.func13, Yba.ntmps13
  go_wp2
  go_ret
  exact ⟨rfl, rfl⟩
end Go.Proofs.Ybulkbwqo
