/- DERIVED. The walk of (*State).AddRequest. -/
import Derived.Test.YbulkbwokFmtQ
namespace Go.Proofs.YbulkbwokFmt
open Go.RowKit Go.Extern.Stop Go.Stop Go.Extern

theorem hid {p : Prop} (h : p) : Hid p := h

/-- Two slices of the call's own lie in different blocks. -/
def Apart (v u : Value) : Prop := ∀ g, v.ownBlock = some g → u.ownBlock ≠ some g

/-- The application and the state, as the law has them. -/
structure Inv (base S A M m0 m6 m8 nr na np : Nat) (aid q : ByteArray) (st : Int) (rv av lv pv nv : Value) (pend rel seq pa aq : Int) (es : Array MapEntry) (clock : Nat) (rs aks ps ns : List Value) (w : World) : Prop where
  app : w.heap[A]? = some (.cells (appCells aid q st rv av lv M pend rel seq) 44)
  st : w.heap[S]? = some (.cells (stCells m0 m6 m8 pv nv pa aq) 57)
  map : w.heap[M]? = some (.map es clock)
  rvo : w.ownsRow base 28 1 rv nr rs
  avo : w.ownsRow base 45 1 av na aks
  pvo : w.ownsRow base 28 1 pv np ps
  nvo : w.ownsRow base 28 1 nv np ns
  rp : Apart rv pv
  rn : Apart rv nv
  pn : Apart pv nv
  bas : base ≤ w.heap.size

/-- A request of n asks at N, its asks numbered from q + 1 on (or not yet). -/
structure ReqAt (N A n : Nat) (id : ByteArray) (rseq : Int) (lst : Bool) (tx : Nat → ByteArray) (sq : Nat → Int) (w : World) : Prop where
  req : w.heap[N]? = some (.cells (reqCells id n (.slice (some ⟨N + 1, 0, none⟩) n n) rseq lst) 38)
  pb : w.heap[N + 1]? = some (.cells (askRow N n n) 45)
  asks : ∀ j, j < n → w.heap[N + 3 + 2 * j]? = some (.cells (askCells A N (tx j) (sq j)) 48)

/-- What AddRequest may write of the old memory. -/
def Wr (S A M N n : Nat) (rv av pv nv : Value) (k : Nat) : Prop := k = A ∨ k = M ∨ k = S ∨ k = N ∨ isAsk N n k ∨ some k = rv.ownBlock ∨ some k = av.ownBlock ∨ some k = pv.ownBlock ∨ some k = nv.ownBlock

/-- Where a slice that was appended to lies: where it lay, or in new memory. -/
def Loc (w : World) (v v' : Value) : Prop := ∀ g, v'.ownBlock = some g → v.ownBlock = some g ∨ w.heap.size ≤ g

def rowL (N n : Nat) : List Value := (List.range n).map fun j => ptr (N + 3 + 2 * j)
theorem askRow_full (N n : Nat) : askRow N n n = (rowL N n).toArray := by
  unfold askRow rowL
  congr 1
  apply List.map_congr_left
  intro j hj
  rw [if_pos (List.mem_range.1 hj)]

theorem Apart.moved {v u v' : Value} {H : Nat} {w : World} {base : Nat} {e : TypeId} {size n : Nat} {xs : List Value} (h : Apart v u) (hu : w.ownsRow base e size u n xs) (hH : w.heap.size ≤ H) (hl : ∀ g, v'.ownBlock = some g → v.ownBlock = some g ∨ H ≤ g) : Apart v' u := fun g hg e => by
  rcases hl g hg with h1 | h1
  · exact h g h1 e
  · obtain ⟨cur, hc⟩ := owns_block hu e
    have := lt_of_hp hc; omega
theorem Apart.symm {v u : Value} (h : Apart v u) : Apart u v := fun g hg e => h g e hg

/-- A row of the call's own outside of what may be written. -/
theorem owns_fr {w w' : World} {base : Nat} {e : TypeId} {size : Nat} {v : Value} {n : Nat} {xs : List Value} {T : Nat → Prop} (h : w.ownsRow base e size v n xs) (hf : Fr T w w') (hT : ∀ g, v.ownBlock = some g → ¬ T g) : w'.ownsRow base e size v n xs :=
  owns_moved h fun k hk => by
    obtain ⟨cur, hc⟩ := owns_block h hk
    exact hf.block k (lt_of_hp hc) (hT k hk)
theorem hp_fr {w w' : World} {T : Nat → Prop} {k : Nat} {o : Obj} (hf : Fr T w w') (h : w.heap[k]? = some o) (hT : ¬ T k) : w'.heap[k]? = some o := by
  rw [hf.block k (lt_of_hp h) hT]; exact h

set_option maxRecDepth 100000 in
set_option maxHeartbeats 800000 in
theorem add_full (base S A M N n m0 m6 m8 nr na np ln lc : Nat) (id aid q : ByteArray) (st : Int) (rv av pv nv : Value) (lx : Option Addr) (pend rel seq pa aq : Int) (es : Array MapEntry) (clock : Nat) (rs aks ps ns : List Value) (tx : Nat → ByteArray) (w : World)
    (hI : Inv base S A M m0 m6 m8 nr na np aid q st rv av (.slice lx ln lc) pv nv pend rel seq pa aq es clock rs aks ps ns w) (hR : ReqAt N A n id 0 false tx (fun _ => 0) w) (hap : av.ownBlock ≠ some (N + 1))
    (hn : n ≤ 1000) (hnr : nr ≤ 1000) (hna : na ≤ 100000) (hnp : np ≤ 1000) (hp0 : 0 ≤ pend) (hp1 : pend ≤ 100000) (hq0 : 0 ≤ aq) (hq1 : aq ≤ 100000) (hpa0 : 0 ≤ pa) (hpa1 : pa ≤ 100000)
    (hfree : ∀ e ∈ es.toList, ∃ s, e.key = .string s ∧ (id == s) = false) :
    Calls Ybaf.prog 9 #[.pointer (some ⟨S, 0, none⟩), .pointer (some ⟨A, 0, none⟩), .pointer (some ⟨N, 0, none⟩)] w fun e w' => e = .returned (.tuple #[]) ∧ ∃ rv' av' pv' nv',
      Inv base S A M m0 m6 m8 (nr + 1) (na + n) (np + one n) aid q (stOf ln (pend + n) rel) rv' av' (.slice lx ln lc) pv' nv' (pend + n) rel seq (pa + n) (aq + n) (es.push { key := .string id, val := ptr N, born := clock }) (clock + 1) (rs ++ [ptr N]) (aks ++ rowL N n) (ps ++ onel n (ptr N)) (ns ++ onel n (ptr N)) w' ∧
      ReqAt N A n id (aq + 1) (decide (0 < n)) tx (fun j => aq + j + 1) w' ∧ Fr (Wr S A M N n rv av pv nv) w w' ∧ Loc w rv rv' ∧ Loc w pv pv' ∧ Loc w nv nv' := by
  have hpre : HoldPre base A N M (N + 1) n nr na id aid q st rv av (.slice lx ln lc) pend rel seq 0 false es clock rs aks (rowL N n) w :=
    ⟨hI.app, hR.req, hI.map, by rw [hR.pb, askRow_full], hI.rvo, hI.avo, hap, hI.bas⟩
  have hrl : (rowL N n).length = n := by simp [rowL]
  have hr1 : ∀ u ∈ rowL N n, u.oneCell' = true := by
    intro u hu
    simp only [rowL, List.mem_map] at hu
    obtain ⟨j, _, rfl⟩ := hu
    rfl
  have hold := hold_any base A N M (N + 1) n nr na id aid q st rv av (.slice lx ln lc) pend rel seq 0 false es clock rs aks (rowL N n) w hpre hrl hr1 hn hnr (by omega) hp0 (by omega) hfree
  have H := hid (And.intro hI (And.intro hR hap))
  have HH := hid hold
  clear hI hR hap hpre hrl hr1 hold hfree
  go_enter Ybaf.func9, Ybaf.ntmps9
  go_wp2_with fail
  refine Calls.mono HH.out ?_
  rintro e w1 ⟨rfl, rv', av', h1, f1, l1, l2⟩
  obtain ⟨hI, hR, hap⟩ := H.out
  clear HH H
  -- the state behind hold
  have nSA : S ≠ A := ne_of_hp hI.st hI.app (by decide)
  have nSM : S ≠ M := ne_of_map hI.st hI.map
  have fS : ∀ {k c t}, w.heap[k]? = some (.cells c t) → t ≠ 44 → t ≠ 28 → t ≠ 45 → ¬ (k = A ∨ k = M ∨ some k = rv.ownBlock ∨ some k = av.ownBlock) := fun hk h44 h28 h45 => by
    rintro (e | e | e | e)
    · exact ne_of_hp hk hI.app h44 e
    · exact ne_of_map hk hI.map e
    · exact owns_apart hI.rvo hk h28 e
    · exact owns_apart hI.avo hk h45 e
  have st1 := hp_fr f1 hI.st (fS hI.st (by decide) (by decide) (by decide))
  have hT : ∀ {v : Value} {xs : List Value}, w.ownsRow base 28 1 v np xs → Apart rv v → ∀ g, v.ownBlock = some g → ¬ (g = A ∨ g = M ∨ some g = rv.ownBlock ∨ some g = av.ownBlock) := fun hv hap g hg => by
    obtain ⟨cur, hc⟩ := owns_block hv hg
    rintro (e | e | e | e)
    · exact ne_of_hp hc hI.app (by decide) e
    · exact ne_of_map hc hI.map e
    · exact hap g e.symm hg
    · exact owns_apart hI.avo hc (by decide) e
  have pv1 := owns_fr hI.pvo f1 (hT hI.pvo hI.rp)
  have nv1 := owns_fr hI.nvo f1 (hT hI.nvo hI.rn)
  have q1 : QRel S N A n m0 m6 m8 id pv nv pa aq 0 false tx 0 w1 :=
    ⟨by rw [st1]; simp, h1.req, by rw [h1.pb, askRow_full], fun j hj => by rw [if_neg (by omega)]; exact hp_fr f1 (hR.asks j hj) (fS (hR.asks j hj) (by decide) (by decide) (by decide))⟩
  have hqu := queue_any base S N A n np np m0 m6 m8 id pv nv pa aq 0 tx ps ns w1 q1 pv1 nv1 hI.pn h1.bas hn hnp hnp hq0 (by omega) hpa0 (by omega)
  have H := hid (And.intro hI (And.intro hR (And.intro q1 (And.intro h1 (And.intro f1 (And.intro l1 (And.intro l2 hqu)))))))
  clear hI hR hap h1 f1 l1 l2 hqu nSA nSM st1 pv1 nv1 q1 fS hT
  go_wp2_with fail
  refine Calls.mono H.out.2.2.2.2.2.2.2 ?_
  rintro e w2 ⟨rfl, pv', nv', h2⟩
  obtain ⟨hI, hR, q1, h1, f1, l1, l2, _⟩ := H.out
  clear H
  have app2 : w2.heap[A]? = some (.cells (appCells aid q st rv' av' (.slice lx ln lc) M (pend + n) rel seq) 44) := by
    refine hp_fr h2.fr h1.app ?_
    rintro (e | e | ⟨j, hj, e⟩ | e | e)
    · exact ne_of_hp hI.app hI.st (by decide) e
    · exact ne_of_hp hI.app hR.req (by decide) e
    · exact ne_of_hp hI.app (hR.asks j hj) (by decide) e
    · exact owns_apart hI.pvo hI.app (by decide) e
    · exact owns_apart hI.nvo hI.app (by decide) e
  have hset := settle_any A ln lc lx (pend + n) rel (.int .i64 st) w2 (by omega) (by omega) (by rw [cells_of app2]; rfl) (frozen_of app2 2) (by rw [cells_of app2]; rfl) (by rw [cells_of app2]; rfl) (by rw [cells_of app2]; rfl)
  have H := hid (And.intro hI (And.intro hR (And.intro q1 (And.intro h1 (And.intro f1 (And.intro l1 (And.intro l2 (And.intro h2 (And.intro app2 hset)))))))))
  clear hI hR q1 h1 f1 l1 l2 h2 app2 hset
  go_wp2_with fail
  refine Calls.mono H.out.2.2.2.2.2.2.2.2.2 ?_
  rintro e w3 ⟨rfl, k, rfl⟩
  go_wp2_with fail
  go_end0
  obtain ⟨hI, hR, q1, h1, f1, l1, l2, h2, app2, _⟩ := H.out
  clear H
  have rv1 : Apart rv' pv := hI.rp.moved hI.pvo (Nat.le_refl _) l1
  have rn1 : Apart rv' nv := hI.rn.moved hI.nvo (Nat.le_refl _) l1
  have tR : ∀ g, rv'.ownBlock = some g → ¬ (g = S ∨ g = N ∨ isAsk N n g ∨ some g = pv.ownBlock ∨ some g = nv.ownBlock) := fun g hg => by
    obtain ⟨cur, hc⟩ := owns_block h1.rvo hg
    rintro (e | e | ⟨j, hj, e⟩ | e | e)
    · exact ne_of_hp hc q1.st (by decide) e
    · exact ne_of_hp hc q1.req (by decide) e
    · exact ne_of_hp hc (q1.asks j hj) (by decide) e
    · exact rv1 g hg e.symm
    · exact rn1 g hg e.symm
  have tA : ∀ g, av'.ownBlock = some g → ¬ (g = S ∨ g = N ∨ isAsk N n g ∨ some g = pv.ownBlock ∨ some g = nv.ownBlock) := fun g hg => by
    obtain ⟨cur, hc⟩ := owns_block h1.avo hg
    have hp1 := owns_fr hI.pvo f1 (fun g hg => by
      obtain ⟨cur, hc⟩ := owns_block hI.pvo hg
      rintro (e | e | e | e)
      · exact ne_of_hp hc hI.app (by decide) e
      · exact ne_of_map hc hI.map e
      · exact hI.rp g e.symm hg
      · exact owns_apart hI.avo hc (by decide) e)
    have hn1 := owns_fr hI.nvo f1 (fun g hg => by
      obtain ⟨cur, hc⟩ := owns_block hI.nvo hg
      rintro (e | e | e | e)
      · exact ne_of_hp hc hI.app (by decide) e
      · exact ne_of_map hc hI.map e
      · exact hI.rn g e.symm hg
      · exact owns_apart hI.avo hc (by decide) e)
    rintro (e | e | ⟨j, hj, e⟩ | e | e)
    · exact ne_of_hp hc q1.st (by decide) e
    · exact ne_of_hp hc q1.req (by decide) e
    · exact ne_of_hp hc (q1.asks j hj) (by decide) e
    · exact owns_apart hp1 hc (by decide) e
    · exact owns_apart hn1 hc (by decide) e
  have rvo2 := owns_fr h1.rvo h2.fr tR
  have avo2 := owns_fr h1.avo h2.fr tA
  have map2 := hp_fr h2.fr h1.map (by
    rintro (e | e | ⟨j, hj, e⟩ | e | e)
    · exact ne_of_map q1.st h1.map e.symm
    · exact ne_of_map q1.req h1.map e.symm
    · exact ne_of_map (q1.asks j hj) h1.map e.symm
    · exact owns_apart_map hI.pvo hI.map e
    · exact owns_apart_map hI.nvo hI.map e)
  refine ⟨rfl, rv', av', pv', nv', ?_, ?_, ?_, l1, fun g hg => ?_, fun g hg => ?_⟩
  · refine ⟨?_, ?_, ?_, ?_, ?_, ?_, ?_, ?_, ?_, h2.ap, ?_⟩ <;> (try simp only [hp_drewN])
    · rw [hp_setCell_at app2]; rfl
    · rw [hp_setCell_ne (ne_of_hp h2.rel.st app2 (by decide))]; exact h2.rel.st
    · rw [hp_setCell_ne (fun e => ne_of_map app2 map2 e.symm)]; exact map2
    · exact owns_setCell rvo2 app2 (by decide)
    · exact owns_setCell avo2 app2 (by decide)
    · exact owns_setCell h2.pvo app2 (by decide)
    · exact owns_setCell h2.nvo app2 (by decide)
    · exact (rv1.symm.moved h1.rvo (Nat.le_refl _) h2.pl).symm
    · exact (rn1.symm.moved h1.rvo (Nat.le_refl _) h2.nl).symm
    · have := h1.bas; have := h2.fr.size; simp; omega
  · refine ⟨?_, ?_, ?_⟩ <;> (try simp only [hp_drewN])
    · rw [hp_setCell_ne (ne_of_hp h2.rel.req app2 (by decide))]; exact h2.rel.req
    · rw [hp_setCell_ne (ne_of_hp h2.rel.pb app2 (by decide))]; exact h2.rel.pb
    · intro j hj
      rw [hp_setCell_ne (ne_of_hp (h2.rel.asks j hj) app2 (by decide)), h2.rel.asks j hj, if_pos hj]
  · have a1 := f1.trans (U := Wr S A M N n rv av pv nv) h2.fr (fun k _ h => by
      rcases h with e | e | e | e
      · exact .inl e
      · exact .inr (.inl e)
      · exact .inr (.inr (.inr (.inr (.inr (.inl e)))))
      · exact .inr (.inr (.inr (.inr (.inr (.inr (.inl e))))))) (fun k _ h => by
      rcases h with e | e | e | e | e
      · exact .inr (.inr (.inl e))
      · exact .inr (.inr (.inr (.inl e)))
      · exact .inr (.inr (.inr (.inr (.inl e))))
      · exact .inr (.inr (.inr (.inr (.inr (.inr (.inr (.inl e)))))))
      · exact .inr (.inr (.inr (.inr (.inr (.inr (.inr (.inr e))))))))
    exact (a1.trans (fr_setCell w2 A 2 _) (fun _ _ h => h) (fun _ _ h => .inl h)).drewN k
  · rcases h2.pl g hg with e | e
    · exact .inl e
    · have := f1.size; exact .inr (by omega)
  · rcases h2.nl g hg with e | e
    · exact .inl e
    · have := f1.size; exact .inr (by omega)

theorem add_any (base S A M N n m0 m6 m8 nr na np ln lc : Nat) (id aid q : ByteArray) (st : Int) (rv av pv nv : Value) (lx : Option Addr) (pend rel seq pa aq : Int) (es : Array MapEntry) (clock : Nat) (rs aks ps ns : List Value) (tx : Nat → ByteArray) (w : World)
    (hI : Inv base S A M m0 m6 m8 nr na np aid q st rv av (.slice lx ln lc) pv nv pend rel seq pa aq es clock rs aks ps ns w) (hR : ReqAt N A n id 0 false tx (fun _ => 0) w) (hap : av.ownBlock ≠ some (N + 1))
    (hn : n ≤ 1000) (hnr : nr ≤ 1000) (hna : na ≤ 100000) (hnp : np ≤ 1000) (hp0 : 0 ≤ pend) (hp1 : pend ≤ 100000) (hq0 : 0 ≤ aq) (hq1 : aq ≤ 100000) (hpa0 : 0 ≤ pa) (hpa1 : pa ≤ 100000)
    (hfree : ∀ e ∈ es.toList, ∃ s, e.key = .string s ∧ (id == s) = false) :
    Calls Ybaf.prog 9 #[.pointer (some ⟨S, 0, none⟩), .pointer (some ⟨A, 0, none⟩), .pointer (some ⟨N, 0, none⟩)] w fun e w' => e = .returned (.tuple #[]) ∧ ∃ rv' av' pv' nv',
      Inv base S A M m0 m6 m8 (nr + 1) (na + n) (np + one n) aid q (stOf ln (pend + n) rel) rv' av' (.slice lx ln lc) pv' nv' (pend + n) rel seq (pa + n) (aq + n) (es.push { key := .string id, val := ptr N, born := clock }) (clock + 1) (rs ++ [ptr N]) (aks ++ rowL N n) (ps ++ onel n (ptr N)) (ns ++ onel n (ptr N)) w' ∧
      ReqAt N A n id (aq + 1) (decide (0 < n)) tx (fun j => aq + j + 1) w' ∧ Fr (Wr S A M N n rv av pv nv) w w' := by
  refine (add_full base S A M N n m0 m6 m8 nr na np ln lc id aid q st rv av pv nv lx pend rel seq pa aq es clock rs aks ps ns tx w hI hR hap hn hnr hna hnp hp0 hp1 hq0 hq1 hpa0 hpa1 hfree).mono ?_
  rintro e w' ⟨he, rv', av', pv', nv', h1, h2, h3, _⟩
  exact ⟨he, rv', av', pv', nv', h1, h2, h3⟩
end Go.Proofs.YbulkbwokFmt
