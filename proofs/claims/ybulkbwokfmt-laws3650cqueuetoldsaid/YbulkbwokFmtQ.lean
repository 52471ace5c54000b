/- DERIVED. The walk of (*State).queueRequest. -/
import Derived.Test.YbulkbwokFmtHold
namespace Go.Proofs.YbulkbwokFmt
attribute [local go_sem ↓] Go.wp_at_zero Go.wp_at_succ
open Go.RowKit Go.Extern.Stop Go.Stop Go.Extern

def stCells (m0 m6 m8 : Nat) (pv nv : Value) (pa q : Int) : Array Value :=
  #[.map (some m0), .slice none 0 0, .int .i64 0, .pointer none, .int .i64 0, .int .i64 0, .map (some m6), .slice none 0 0, .map (some m8), .slice none 0 0, .slice none 0 0, pv, .int .i64 0, .int .i64 pa, nv, .int .i64 q, .int .i64 0, .int .i64 0, .int .i64 0]

/-- What queueRequest needs of the world: k of the n asks are numbered. -/
structure QRel (S N A n m0 m6 m8 : Nat) (id : ByteArray) (pv nv : Value) (pa q : Int) (rseq : Int) (lst : Bool) (tx : Nat → ByteArray) (k : Nat) (w : World) : Prop where
  st : w.heap[S]? = some (.cells (stCells m0 m6 m8 pv nv pa (q + k)) 57)
  req : w.heap[N]? = some (.cells (reqCells id n (.slice (some ⟨N + 1, 0, none⟩) n n) rseq lst) 38)
  pb : w.heap[N + 1]? = some (.cells (askRow N n n) 45)
  asks : ∀ j, j < n → w.heap[N + 3 + 2 * j]? = some (.cells (askCells A N (tx j) (if j < k then q + j + 1 else 0)) 48)

def isAsk (N n : Nat) (b : Nat) : Prop := ∃ j, j < n ∧ b = N + 3 + 2 * j

theorem qrel_step0 {S N A n m0 m6 m8 : Nat} {id : ByteArray} {pv nv : Value} {pa q rseq rseq' : Int} {lst : Bool} {tx : Nat → ByteArray} {k : Nat} {w : World}
    (h : QRel S N A n m0 m6 m8 id pv nv pa q rseq lst tx k w) : QRel S N A n m0 m6 m8 id pv nv pa q rseq' lst tx k (w.setCell ⟨N, 11, none⟩ (.int .i64 rseq')) := by
  refine ⟨?_, ?_, ?_, fun j hj => ?_⟩
  · rw [hp_setCell_ne (ne_of_hp h.st h.req (by decide))]; exact h.st
  · rw [hp_setCell_at h.req]; rfl
  · rw [hp_setCell_ne (by omega)]; exact h.pb
  · rw [hp_setCell_ne (by omega)]; exact h.asks j hj

theorem qrel_round {S N A n m0 m6 m8 : Nat} {id : ByteArray} {pv nv : Value} {pa q rseq : Int} {lst : Bool} {tx : Nat → ByteArray} {k : Nat} {w : World} (hk : k < n)
    (h : QRel S N A n m0 m6 m8 id pv nv pa q rseq lst tx k w) :
    QRel S N A n m0 m6 m8 id pv nv pa q rseq lst tx (k + 1) ((w.setCell ⟨S, 15, none⟩ (.int .i64 (q + k + 1))).setCell ⟨N + 3 + 2 * k, 4, none⟩ (.int .i64 (q + k + 1))) := by
  have nS := ne_of_hp h.st (h.asks k hk) (by decide)
  refine ⟨?_, ?_, ?_, fun j hj => ?_⟩
  · rw [hp_setCell_ne nS, hp_setCell_at h.st]; simp [stCells]; omega
  · rw [hp_setCell_ne (by omega), hp_setCell_ne (ne_of_hp h.req h.st (by decide))]; exact h.req
  · rw [hp_setCell_ne (by omega), hp_setCell_ne (ne_of_hp h.pb h.st (by decide))]; exact h.pb
  · have ha := h.asks j hj
    by_cases e : j = k
    · subst e
      rw [hp_setCell_at (c := askCells A N (tx j) 0) (t := 48)]
      · simp [askCells]
      · rw [hp_setCell_ne (Ne.symm nS), ha, if_neg (by omega)]
    · rw [hp_setCell_ne (by omega), hp_setCell_ne (ne_of_hp ha h.st (by decide)), ha]
      by_cases e2 : j < k
      · rw [if_pos e2, if_pos (by omega)]
      · rw [if_neg e2, if_neg (by omega)]

theorem qrel_listed {S N A n m0 m6 m8 : Nat} {id : ByteArray} {pv nv : Value} {pa q rseq : Int} {lst : Bool} {tx : Nat → ByteArray} {k : Nat} {w : World}
    (h : QRel S N A n m0 m6 m8 id pv nv pa q rseq lst tx k w) : QRel S N A n m0 m6 m8 id pv nv pa q rseq true tx k (w.setCell ⟨N, 12, none⟩ (.bool true)) := by
  refine ⟨?_, ?_, ?_, fun j hj => ?_⟩
  · rw [hp_setCell_ne (ne_of_hp h.st h.req (by decide))]; exact h.st
  · rw [hp_setCell_at h.req]; rfl
  · rw [hp_setCell_ne (by omega)]; exact h.pb
  · rw [hp_setCell_ne (by omega)]; exact h.asks j hj

/-- A world in which the blocks of types 57, 38, 45, 48 that QRel names are as they were. -/
theorem qrel_moved {S N A n m0 m6 m8 : Nat} {id : ByteArray} {pv nv : Value} {pa q rseq : Int} {lst : Bool} {tx : Nat → ByteArray} {k : Nat} {w w' : World} {row : Option Nat} {base n' : Nat} {v : Value} {xs : List Value}
    (h : QRel S N A n m0 m6 m8 id pv nv pa q rseq lst tx k w) (hv : w.ownsRow base 28 1 v n' xs) (hr : row = v.ownBlock) (hw : ∀ b, b < w.heap.size → some b ≠ row → w'.heap[b]? = w.heap[b]?) : QRel S N A n m0 m6 m8 id pv nv pa q rseq lst tx k w' := by
  subst hr
  refine ⟨?_, ?_, ?_, fun j hj => ?_⟩
  · rw [hw S (lt_of_hp h.st) (owns_apart hv h.st (by decide))]; exact h.st
  · rw [hw N (lt_of_hp h.req) (owns_apart hv h.req (by decide))]; exact h.req
  · rw [hw (N + 1) (lt_of_hp h.pb) (owns_apart hv h.pb (by decide))]; exact h.pb
  · rw [hw _ (lt_of_hp (h.asks j hj)) (owns_apart hv (h.asks j hj) (by decide))]; exact h.asks j hj

theorem qrel_st {S N A n m0 m6 m8 : Nat} {id : ByteArray} {pv nv : Value} {pa q rseq : Int} {lst : Bool} {tx : Nat → ByteArray} {k : Nat} {w : World} {i : Nat} {v pv' nv' : Value} {pa' : Int}
    (h : QRel S N A n m0 m6 m8 id pv nv pa q rseq lst tx k w) (hc : (stCells m0 m6 m8 pv nv pa (q + k)).setIfInBounds i v = stCells m0 m6 m8 pv' nv' pa' (q + k)) : QRel S N A n m0 m6 m8 id pv' nv' pa' q rseq lst tx k (w.setCell ⟨S, i, none⟩ v) := by
  refine ⟨?_, ?_, ?_, fun j hj => ?_⟩
  · rw [hp_setCell_at h.st, hc]
  · rw [hp_setCell_ne (ne_of_hp h.req h.st (by decide))]; exact h.req
  · rw [hp_setCell_ne (ne_of_hp h.pb h.st (by decide))]; exact h.pb
  · rw [hp_setCell_ne (ne_of_hp (h.asks j hj) h.st (by decide))]; exact h.asks j hj

theorem owns_setCell {w : World} {base : Nat} {e : TypeId} {size : Nat} {v : Value} {n : Nat} {xs : List Value} (h : w.ownsRow base e size v n xs) {a i : Nat} {c : Array Value} {t : TypeId} {u : Value} (ha : w.heap[a]? = some (.cells c t)) (hne : t ≠ e) : (w.setCell ⟨a, i, none⟩ u).ownsRow base e size v n xs :=
  owns_moved h fun k hk => hp_setCell_ne fun e => owns_apart h ha hne (by rw [← e]; exact hk.symm)
theorem owns_grown {w w' : World} {base : Nat} {e : TypeId} {size : Nat} {v : Value} {n : Nat} {xs : List Value} (h : w.ownsRow base e size v n xs) {row : Option Nat} (hg : w.grownBy w' row) (ha : ∀ g, v.ownBlock = some g → row ≠ some g) : w'.ownsRow base e size v n xs :=
  owns_moved h fun k hk => by
    obtain ⟨cur, hc⟩ := owns_block h hk
    exact hg.block k (lt_of_hp hc) fun e => ha k hk e.symm

theorem QRel.drew {S N A n m0 m6 m8 : Nat} {id : ByteArray} {pv nv : Value} {pa q rseq : Int} {lst : Bool} {tx : Nat → ByteArray} {k : Nat} {w : World}
    (h : QRel S N A n m0 m6 m8 id pv nv pa q rseq lst tx k w) : QRel S N A n m0 m6 m8 id pv nv pa q rseq lst tx k w.drew := ⟨h.st, h.req, h.pb, h.asks⟩

def one (n : Nat) : Nat := if 0 < n then 1 else 0
def onel (n : Nat) (v : Value) : List Value := if 0 < n then [v] else []

/-- What queueRequest leaves. -/
structure QPost (base S N A n np nn m0 m6 m8 : Nat) (id : ByteArray) (pv nv : Value) (pa q : Int) (tx : Nat → ByteArray) (ps ns : List Value) (w : World) (pv' nv' : Value) (w' : World) : Prop where
  rel : QRel S N A n m0 m6 m8 id pv' nv' (pa + n) q (q + 1) (decide (0 < n)) tx n w'
  pvo : w'.ownsRow base 28 1 pv' (np + one n) (ps ++ onel n (ptr N))
  nvo : w'.ownsRow base 28 1 nv' (nn + one n) (ns ++ onel n (ptr N))
  fr : Fr (fun b => b = S ∨ b = N ∨ isAsk N n b ∨ some b = pv.ownBlock ∨ some b = nv.ownBlock) w w'
  pl : ∀ g, pv'.ownBlock = some g → pv.ownBlock = some g ∨ w.heap.size ≤ g
  nl : ∀ g, nv'.ownBlock = some g → nv.ownBlock = some g ∨ w.heap.size ≤ g
  ap : ∀ g, pv'.ownBlock = some g → nv'.ownBlock ≠ some g

set_option maxRecDepth 100000 in
set_option maxHeartbeats 800000 in
theorem queue_any (base S N A n np nn m0 m6 m8 : Nat) (id : ByteArray) (pv nv : Value) (pa q rseq : Int) (tx : Nat → ByteArray) (ps ns : List Value) (w : World)
    (h : QRel S N A n m0 m6 m8 id pv nv pa q rseq false tx 0 w) (hpv : w.ownsRow base 28 1 pv np ps) (hnv : w.ownsRow base 28 1 nv nn ns) (hap : ∀ g, pv.ownBlock = some g → nv.ownBlock ≠ some g) (hb : base ≤ w.heap.size)
    (hn : n ≤ 1000) (hnp : np ≤ 1000) (hnn : nn ≤ 1000) (hq0 : 0 ≤ q) (hq1 : q ≤ 1000000) (hp0 : 0 ≤ pa) (hp1 : pa ≤ 1000000) :
    Calls Ybaf.prog 13 #[.pointer (some ⟨S, 0, none⟩), .pointer (some ⟨N, 0, none⟩)] w fun e w' => e = .returned (.tuple #[]) ∧ ∃ pv' nv', QPost base S N A n np nn m0 m6 m8 id pv nv pa q tx ps ns w pv' nv' w' := by
  have s15 : w.cell? ⟨S, 15, none⟩ = some (.int .i64 q) := by rw [cells_of h.st]; simp [stCells]
  have r10 : w.cell? ⟨N, 10, none⟩ = some (.slice (some ⟨N + 1, 0, none⟩) n n) := by rw [cells_of h.req]; rfl
  have r11 : w.cell? ⟨N, 11, none⟩ = some (.int .i64 rseq) := by rw [cells_of h.req]; rfl
  have fr11 : w.frozen? ⟨N, 11, none⟩ = false := frozen_of h.req 11
  have H : Hid _ := h
  have HP : Hid _ := hpv
  have HN : Hid _ := hnv
  have HA : Hid _ := hap
  clear h hpv hnv hap
  go_enter Ybaf.func13, Ybaf.ntmps13
  go_wp2
  clear s15 r10 r11 fr11
  go_loopw [19] (fun i wr => ∃ k : Nat, k ≤ n ∧ i = .int .i64 k ∧ QRel S N A n m0 m6 m8 id pv nv pa q (q + 1) false tx k wr ∧ Fr (fun b => b = S ∨ b = N ∨ isAsk N n b) w wr) (fun i _ => n - (intOf i).toNat)
  case atStart => exact ⟨0, Nat.zero_le _, rfl, qrel_step0 H.out, (fr_setCell w N 11 _).mono fun k _ hk => .inr (.inl hk)⟩
  case round =>
    obtain ⟨k, hk, rfl, hR, hFr⟩ := hrel
    by_cases hlt : k < n
    · have s15 : wr.cell? ⟨S, 15, none⟩ = some (.int .i64 (q + k)) := by rw [cells_of hR.st]; simp [stCells]
      have fs15 : wr.frozen? ⟨S, 15, none⟩ = false := frozen_of hR.st 15
      have ck : wr.cell? ⟨N + 1, k, none⟩ = some (.pointer (some ⟨N + 3 + 2 * k, 0, none⟩)) := by rw [cells_of hR.pb, askRow_at _ _ _ _ hlt, if_pos hlt]; rfl
      have c4 : wr.cell? ⟨N + 3 + 2 * k, 4, none⟩ = some (.int .i64 0) := by rw [cells_of (hR.asks k hlt), if_neg (by omega)]; rfl
      have f4 : wr.frozen? ⟨N + 3 + 2 * k, 4, none⟩ = false := frozen_of (hR.asks k hlt) 4
      have nS := ne_of_hp hR.st (hR.asks k hlt) (by decide)
      have nS' := Ne.symm nS
      have HR : Hid _ := hR
      have HF : Hid _ := hFr
      clear hR hFr
      go_wp2
      go_roundw
      case rel => exact ⟨k + 1, by omega, by go_num, qrel_round hlt HR.out, ((HF.out.trans (U := fun b => b = S ∨ b = N ∨ isAsk N n b) (fr_setCell wr S 15 _) (fun _ _ h => h) (fun _ _ h => .inl h)).trans (fr_setCell _ (N + 3 + 2 * k) 4 _) (fun _ _ h => h) (fun _ _ h => .inr (.inr ⟨k, hlt, h⟩)))⟩
      case measure => simp [intOf]; omega
    · have hkn : k = n := by omega
      have hpv : wr.ownsRow base 28 1 pv np ps := owns_moved HP.out fun g hg => by
        obtain ⟨cur, hc⟩ := owns_block HP.out hg
        refine hFr.block g (lt_of_hp hc) ?_
        rintro (e | e | ⟨j, hj, e⟩)
        · exact ne_of_hp hc H.out.st (by decide) e
        · exact ne_of_hp hc H.out.req (by decide) e
        · exact ne_of_hp hc (H.out.asks j hj) (by decide) e
      have hnv : wr.ownsRow base 28 1 nv nn ns := owns_moved HN.out fun g hg => by
        obtain ⟨cur, hc⟩ := owns_block HN.out hg
        refine hFr.block g (lt_of_hp hc) ?_
        rintro (e | e | ⟨j, hj, e⟩)
        · exact ne_of_hp hc H.out.st (by decide) e
        · exact ne_of_hp hc H.out.req (by decide) e
        · exact ne_of_hp hc (H.out.asks j hj) (by decide) e
      have hsz := hFr.size
      have r5 : wr.cell? ⟨N, 5, none⟩ = some (.int .i64 n) := by rw [cells_of hR.req]; rfl
      have s13 : wr.cell? ⟨S, 13, none⟩ = some (.int .i64 pa) := by rw [cells_of hR.st]; rfl
      have fs13 : wr.frozen? ⟨S, 13, none⟩ = false := frozen_of hR.st 13
      by_cases hn0 : 0 < n
      · obtain ⟨i28, hi28, hz28, hs28, hb28⟩ := info_parts info28
        have hR1 := qrel_listed hR
        have hpv1 : (wr.setCell ⟨N, 12, none⟩ (.bool true)).ownsRow base 28 1 pv np ps := owns_setCell hpv hR.req (by decide)
        have hnv1 : (wr.setCell ⟨N, 12, none⟩ (.bool true)).ownsRow base 28 1 nv nn ns := owns_setCell hnv hR.req (by decide)
        have r12 : wr.cell? ⟨N, 12, none⟩ = some (.bool false) := by rw [cells_of hR.req]; rfl
        have fr12 : wr.frozen? ⟨N, 12, none⟩ = false := frozen_of hR.req 12
        have f1 := (fr_setCell wr N 12 (.bool true))
        have lw : (wr.setCell ⟨N, 12, none⟩ (.bool true)).heap.size = wr.heap.size := by simp
        generalize hW1 : wr.setCell ⟨N, 12, none⟩ (.bool true) = W1 at hR1 hpv1 hnv1 f1 lw
        obtain ⟨pv', w2, hr2, ho2, hg2, _, hat2⟩ := run_append_own_at (P := Ybaf.prog) (W1.alloc (.cells #[.pointer (some ⟨N, 0, none⟩)] 28)) base 27 27 28 i28 _ 1 8 Ybaf.underlying27 hi28 hz28 hs28 hb28 rfl (by omega) pv np ps (hpv1.alloc _) ⟨W1.heap.size, 0, none⟩ 1 1 [ptr N] rfl
          (World.news_of_block (cs := #[ptr N]) (t := 28) (fr := (0, 0)) (heap_alloc_new W1 _)) (by simp [Value.oneCell', ptr]) (by unfold maxLen; omega) (by omega) (by simp; omega)
        obtain ⟨x2, c2, rfl⟩ := owns_form ho2
        have hR2 := qrel_moved (w' := w2) hR1 hpv1 rfl (fun b hb hne => by rw [hg2.block b (by simp; omega) hne, hp_alloc_lt hb])
        have hnv2 : w2.ownsRow base 28 1 nv nn ns := owns_grown (hnv1.alloc _) hg2 fun g hg e => HA.out g e hg
        have f2 := (((fr_alloc W1 _).trans (U := fun k => some k = pv.ownBlock) (fr_grown hg2) (fun _ _ hf => hf.elim) (fun _ _ hk => hk)))
        have s11 : w2.cell? ⟨S, 11, none⟩ = some pv := by rw [cells_of hR2.st]; rfl
        have fs11 : w2.frozen? ⟨S, 11, none⟩ = false := frozen_of hR2.st 11
        have hR3 := qrel_st (i := 11) (v := .slice x2 (np + 1) c2) (pv' := .slice x2 (np + 1) c2) (nv' := nv) (pa' := pa) hR2 rfl
        have ho3 := owns_setCell (i := 11) (u := .slice x2 (np + 1) c2) ho2 hR2.st (by decide)
        have hnv3 := owns_setCell (i := 11) (u := .slice x2 (np + 1) c2) hnv2 hR2.st (by decide)
        have f3 := fr_setCell w2 S 11 (.slice x2 (np + 1) c2)
        have lw3 : (w2.setCell ⟨S, 11, none⟩ (.slice x2 (np + 1) c2)).heap.size = w2.heap.size := by simp
        generalize hW3 : w2.setCell ⟨S, 11, none⟩ (.slice x2 (np + 1) c2) = W3 at hR3 ho3 hnv3 f3 lw3
        have lz2 := hg2.size
        simp only [World.size_alloc] at lz2
        obtain ⟨nv', w4, hr4, ho4, hg4, _, hat4⟩ := run_append_own_at (P := Ybaf.prog) (W3.alloc (.cells #[.pointer (some ⟨N, 0, none⟩)] 28)) base 27 27 28 i28 _ 1 8 Ybaf.underlying27 hi28 hz28 hs28 hb28 rfl (by omega) nv nn ns (hnv3.alloc _) ⟨W3.heap.size, 0, none⟩ 1 1 [ptr N] rfl
          (World.news_of_block (cs := #[ptr N]) (t := 28) (fr := (0, 0)) (heap_alloc_new W3 _)) (by simp [Value.oneCell', ptr]) (by unfold maxLen; omega) (by omega) (by simp; omega)
        obtain ⟨x4, c4, rfl⟩ := owns_form ho4
        have hR4 := qrel_moved (w' := w4) hR3 hnv3 rfl (fun b hb hne => by rw [hg4.block b (by simp; omega) hne, hp_alloc_lt hb])
        have hap3 : ∀ g, (Value.slice x2 (np + 1) c2).ownBlock = some g → nv.ownBlock ≠ some g := fun g hg e => by
          rcases hat2 with h2 | h2
          · exact HA.out g (h2 ▸ hg) e
          · rw [h2] at hg; injection hg with hg
            obtain ⟨cur, hc⟩ := owns_block hnv1 e
            have := lt_of_hp hc; simp at hg; omega
        have ho4' : w4.ownsRow base 28 1 (.slice x2 (np + 1) c2) (np + 1) (ps ++ [ptr N]) := owns_grown (ho3.alloc _) hg4 fun g hg e => hap3 g hg e
        have f4 := (((fr_alloc W3 _).trans (U := fun k => some k = nv.ownBlock) (fr_grown hg4) (fun _ _ hf => hf.elim) (fun _ _ hk => hk)))
        have s14 : w4.cell? ⟨S, 14, none⟩ = some nv := by rw [cells_of hR4.st]; rfl
        have fs14 : w4.frozen? ⟨S, 14, none⟩ = false := frozen_of hR4.st 14
        have lz4 := hg4.size
        simp only [World.size_alloc] at lz4
        have hap4 : ∀ g, (Value.slice x2 (np + 1) c2).ownBlock = some g → (Value.slice x4 (nn + 1) c4).ownBlock ≠ some g := fun g hg e => by
          rcases hat4 with h4 | h4
          · exact hap3 g hg (h4 ▸ e)
          · rw [h4] at e; injection e with e
            obtain ⟨cur, hc⟩ := owns_block ho3 hg
            have := lt_of_hp hc; simp at e; omega
        have s11a : W1.cell? ⟨S, 11, none⟩ = some pv := by rw [cells_of hR1.st]; rfl
        have s14a : W3.cell? ⟨S, 14, none⟩ = some nv := by rw [cells_of hR3.st]; rfl
        have hR5 := qrel_st (i := 14) (v := .slice x4 (nn + 1) c4) (pv' := .slice x2 (np + 1) c2) (nv' := .slice x4 (nn + 1) c4) (pa' := pa) hR4 rfl
        have ho5 := owns_setCell (i := 14) (u := .slice x4 (nn + 1) c4) ho4 hR4.st (by decide)
        have ho5' := owns_setCell (i := 14) (u := .slice x4 (nn + 1) c4) ho4' hR4.st (by decide)
        have f5 := fr_setCell w4 S 14 (.slice x4 (nn + 1) c4)
        generalize hW5 : w4.setCell ⟨S, 14, none⟩ (.slice x4 (nn + 1) c4) = W5 at hR5 ho5 ho5' f5
        have s13a : W5.cell? ⟨S, 13, none⟩ = some (.int .i64 pa) := by rw [cells_of hR5.st]; rfl
        have fs13a : W5.frozen? ⟨S, 13, none⟩ = false := frozen_of hR5.st 13
        have r5a : W5.cell? ⟨N, 5, none⟩ = some (.int .i64 n) := by rw [cells_of hR5.req]; rfl
        have fAll : Fr (fun b => b = S ∨ b = N ∨ isAsk N n b ∨ some b = pv.ownBlock ∨ some b = nv.ownBlock) w W5 := by
          have a1 := hFr.trans (U := fun b => b = S ∨ b = N ∨ isAsk N n b ∨ some b = pv.ownBlock ∨ some b = nv.ownBlock) f1 (fun b _ hb => hb.elim .inl fun e => .inr (e.elim .inl fun e => .inr (.inl e))) (fun b _ hb => .inr (.inl hb))
          have a2 := a1.trans (U := fun b => b = S ∨ b = N ∨ isAsk N n b ∨ some b = pv.ownBlock ∨ some b = nv.ownBlock) f2 (fun _ _ h => h) (fun b _ hb => .inr (.inr (.inr (.inl hb))))
          have a3 := a2.trans (U := fun b => b = S ∨ b = N ∨ isAsk N n b ∨ some b = pv.ownBlock ∨ some b = nv.ownBlock) f3 (fun _ _ h => h) (fun b _ hb => .inl hb)
          have a4 := a3.trans (U := fun b => b = S ∨ b = N ∨ isAsk N n b ∨ some b = pv.ownBlock ∨ some b = nv.ownBlock) f4 (fun _ _ h => h) (fun b _ hb => .inr (.inr (.inr (.inr hb))))
          exact a4.trans f5 (fun _ _ h => h) (fun b _ hb => .inl hb)
        have pl : ∀ g, (Value.slice x2 (np + 1) c2).ownBlock = some g → pv.ownBlock = some g ∨ w.heap.size ≤ g := fun g hg => by
          rcases hat2 with e | e
          · left; rw [← e]; exact hg
          · right; rw [e] at hg; injection hg with hg; simp at hg; omega
        have nl : ∀ g, (Value.slice x4 (nn + 1) c4).ownBlock = some g → nv.ownBlock = some g ∨ w.heap.size ≤ g := fun g hg => by
          rcases hat4 with e | e
          · left; rw [← e]; exact hg
          · right; rw [e] at hg; injection hg with hg; simp at hg; omega
        have HX : Hid _ := And.intro hR5 (And.intro ho5' (And.intro ho5 (And.intro fAll (And.intro pl (And.intro nl (And.intro hap4 hkn))))))
        clear hR hFr hpv hnv hR1 hpv1 hnv1 f1 lw hR2 ho2 hg2 hat2 hnv2 f2 hR3 ho3 hnv3 f3 lw3 lz2 hR4 ho4 hg4 hat4 hap3 ho4' f4 lz4 hap4 hR5 ho5 ho5' f5 fAll pl nl hkn H HP HN
        go_wp2_with (at_builtin; first | (refine wpList_append_run (by rfl) _ _ 27 (by rfl) pv _ _ w2 (by rfl) (by rfl) hr2 ?_) | (refine wpList_append_run (by rfl) _ _ 27 (by rfl) nv _ _ w4 (by rfl) (by rfl) hr4 ?_))
        clear hr2 hr4 s11 fs11 s14 fs14 s11a s14a hW1 hW3 hW5
        go_region
        all_goals
          go_end0
          obtain ⟨hR5, hop, hon, fAll, pl, nl, hap4, hkn⟩ := HX.out
          subst hkn
          have e1 : one k = 1 := by simp [one, hn0]
          have e2 : onel k (ptr N) = [ptr N] := by simp [onel, hn0]
          refine ⟨rfl, _, _, ?_, ?_, ?_, ?_, pl, nl, hap4⟩
          · rw [decide_eq_true hn0]
            exact (qrel_st (i := 13) (v := .int .i64 (pa + k)) (pv' := .slice x2 (np + 1) c2) (nv' := .slice x4 (nn + 1) c4) (pa' := pa + k) hR5 (by simp [stCells])).drew
          · rw [e1, e2]; exact owns_setCell hop hR5.st (by decide)
          · rw [e1, e2]; exact owns_setCell hon hR5.st (by decide)
          · exact fAll.trans (fr_setCell W5 S 13 _).drew (fun b _ hb => hb) (fun b _ hb => .inl hb)
      · have hz : n = 0 := by omega
        have HR : Hid _ := And.intro hR (And.intro hFr (And.intro hpv (And.intro hnv (And.intro hz hkn))))
        clear hR hFr hpv hnv hz hkn H HP HN
        go_wp2
        go_region
        all_goals
          go_end0
          obtain ⟨hR, hFr, hpv, hnv, hz, hkn⟩ := HR.out
          subst hkn
          have e1 : one k = 0 := by simp [one, hz]
          have e2 : onel k (ptr N) = [] := by simp [onel, hz]
          refine ⟨rfl, pv, nv, ?_, ?_, ?_, ?_, fun g hg => .inl hg, fun g hg => .inl hg, HA.out⟩
          · rw [decide_eq_false hn0]
            exact (qrel_st (i := 13) (v := .int .i64 (pa + k)) (pv' := pv) (nv' := nv) (pa' := pa + k) hR (by simp [stCells])).drew
          · rw [e1, e2, List.append_nil]; exact owns_setCell hpv hR.st (by decide)
          · rw [e1, e2, List.append_nil]; exact owns_setCell hnv hR.st (by decide)
          · exact hFr.trans (fr_setCell wr S 13 _).drew (fun b _ hb => hb.elim .inl fun e => .inr (e.elim .inl fun e => .inr (.inl e))) (fun b _ hb => .inl hb)
end Go.Proofs.YbulkbwokFmt
