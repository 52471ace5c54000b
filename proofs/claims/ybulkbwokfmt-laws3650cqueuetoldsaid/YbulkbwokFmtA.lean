/- DERIVED. Walks of this seat: fmt's front, New, NewApplication, NewRequest, StateWith, settle. -/
import Derived.Test.YbulkbwokFmtRows
import Derived.Test.YbulkbwokFmtHp
import Derived.WalkKit
import Derived.WalkSpells
import Derived.WalkLawsBesides
import Derived.Deep.QuietTactic
import Derived.BigQuiet
import Derived.Deep.RegionHeld3
import Derived.Deep.AppendLies
import Derived.Deep.OwnRows
import Derived.Stop.CallBack
import Derived.Stop.IfaceNil
namespace Go.Proofs.YbulkbwokFmt
open Go.RowKit Go.Extern.Stop Go.Stop Go.Extern

/-! fmt.Sprintf at this format -/
theorem call11 (args : Array Value) (w : World) : (callFunc 11 args).run Ybaf.prog w = ((FmtStop.sprintf #[9, 111] #[9] args).run Ybaf.prog w).andThen fun v w' => .ok (.value v) w' :=
  run_callFunc_extern Ybaf.func11 (by kernel_rfl) (by kernel_rfl) (by kernel_rfl) (by kernel_rfl) args w
theorem guard11 (name : String) (w : World) : (FmtStop.guard name).run Ybaf.prog w = .ok () w := by kernel_rfl
theorem fmt2 : FmtStop.printed? ⟨#[37, 115, 47, 37, 100]⟩ 2 = some [(0, 115, false), (1, 100, false)] := by kernel_rfl
theorem op3_100 (name : String) (x : Int) (w : World) : (FmtStop.operand name false 100 false (.iface 3 (.int .i64 x))).run Ybaf.prog w = .ok ([5, 3, 0, 0, 0, 0, 0, 0, 0, 105, 110, 116], Go.Extern.Stop.digits 8 (x % 2 ^ 64).toNat) w := by kernel_rfl
theorem op9_115 (name : String) (x : ByteArray) (w : World) : (FmtStop.operand name false 115 false (.iface 9 (.string x))).run Ybaf.prog w = .ok ([12, 6, 0, 0, 0, 0, 0, 0, 0, 115, 116, 114, 105, 110, 103], FmtStop.pack x.data.toList) w := by kernel_rfl

def spf (F : Interp) (s : ByteArray) (k : Int) : ByteArray := FmtStop.textOf (F "fmt.Sprintf" [[37, 115, 47, 37, 100], [12, 6, 0, 0, 0, 0, 0, 0, 0, 115, 116, 114, 105, 110, 103], FmtStop.pack s.data.toList, [5, 3, 0, 0, 0, 0, 0, 0, 0, 105, 110, 116], Go.Extern.Stop.digits 8 (k % 2 ^ 64).toNat] 0)

theorem run11 (F : Interp) (s : ByteArray) (k : Int) (b : Nat) (w : World) (hF : F.answers w.tape) (h0 : w.cell? ⟨b, 0, none⟩ = some (.iface 9 (.string s))) (h1 : w.cell? ⟨b, 1, none⟩ = some (.iface 3 (.int .i64 k))) :
    (callFunc 11 #[.string ⟨#[37, 115, 47, 37, 100]⟩, .slice (some ⟨b, 0, none⟩) 2 2]).run Ybaf.prog w = .ok (.value (.string (spf F s k))) w.drew := by
  have hF' := answers_open hF
  rw [call11]
  have hg := guard11 "fmt.Sprintf" w
  simp [go_sem, hg, h0, h1, fmt2, op3_100, op9_115, FmtStop.readAll, hF', spf]

theorem info45 : (Ybaf.prog.info? 45).map (fun i => (i.zero, i.size, i.bytes)) = some (some (.pointer none), 1, 8) := by kernel_rfl
theorem info28 : (Ybaf.prog.info? 28).map (fun i => (i.zero, i.size, i.bytes)) = some (some (.pointer none), 1, 8) := by kernel_rfl

/-- The request's block: id, count, pending slice, seq, listed. -/
def reqCells (id : ByteArray) (n : Nat) (pv : Value) (seq : Int) (listed : Bool) : Array Value :=
  #[.string id, .map none, .map none, .bool false, .bool false, .int .i64 n, .int .i64 0, .int .i64 0, .int .i64 0, .int .i64 0, pv, .int .i64 seq, .bool listed]
def askCells (A N : Nat) (s : ByteArray) (seq : Int) : Array Value := #[.string s, ptr A, ptr N, .pointer none, .int .i64 seq]

/-- What NewRequest has made when k of the n asks are made. -/
structure MkRel (F : Interp) (A n : Nat) (id : ByteArray) (w : World) (k : Nat) (wr : World) : Prop where
  below : Below w.heap.size w wr
  size : wr.heap.size = w.heap.size + 2 + 2 * k
  req : wr.heap[w.heap.size]? = some (.cells (reqCells id n (.slice (some ⟨w.heap.size + 1, 0, none⟩) n n) 0 false) 38)
  row : wr.heap[w.heap.size + 1]? = some (.cells (askRow w.heap.size k n) 45)
  asks : ∀ j, j < k → wr.heap[w.heap.size + 3 + 2 * j]? = some (.cells (askCells A w.heap.size (spf F id j) 0) 48)

theorem mk_start (F : Interp) (A n : Nat) (id : ByteArray) (w : World) :
    MkRel F A n id w 0 ((w.alloc (.cells (reqCells id n (.slice (some ⟨w.heap.size + 1, 0, none⟩) n n) 0 false) 38)).alloc (.cells (madeCells #[.pointer none] n) 45)) where
  below := ((Below.refl _ _).alloc (Nat.le_refl _) _).alloc (by simp) _
  size := by simp
  req := by rw [hp_alloc_lt (by simp), hp_alloc_at rfl]
  row := by rw [hp_alloc_at (by simp), askRow_zero]
  asks := fun j hj => by omega

theorem mk_step (F : Interp) (A n : Nat) (id : ByteArray) (w : World) (k : Nat) (wr : World) (hk : k < n) (h : MkRel F A n id w k wr) (o : Obj) :
    MkRel F A n id w (k + 1) ((((wr.setCell ⟨w.heap.size + 1, k, none⟩ (ptr (wr.heap.size + 1))).alloc o).alloc (.cells (askCells A w.heap.size (spf F id k) 0) 48)).drew.drew) := by
  have hs := h.size
  refine ⟨?_, ?_, ?_, ?_, ?_⟩
  · exact ((((h.below.setCell (p := ⟨w.heap.size + 1, k, none⟩) (by simp) _).alloc (by simp; omega) _).alloc (by simp; omega) _).drew).drew
  · simp [hs]; omega
  · rw [hp_drew, hp_drew, hp_alloc_lt (by simp; omega), hp_alloc_lt (by simp; omega), hp_setCell_ne (by omega)]; exact h.req
  · rw [hp_drew, hp_drew, hp_alloc_lt (by simp; omega), hp_alloc_lt (by simp; omega), hp_setCell_at h.row, hs]
    rw [show w.heap.size + 2 + 2 * k + 1 = w.heap.size + 3 + 2 * k by omega, askRow_succ _ _ _ hk]
  · intro j hj
    rw [hp_drew, hp_drew]
    by_cases e : j = k
    · subst e
      rw [hp_alloc_at (by simp; omega)]
    · rw [hp_alloc_lt (by simp; omega), hp_alloc_lt (by simp; omega), hp_setCell_ne (by omega)]
      exact h.asks j (by omega)

set_option maxHeartbeats 400000 in
theorem newRequest_any (F : Interp) (A n : Nat) (id : ByteArray) (w : World) (hF : F.answers w.tape) (hn : n ≤ 1000) :
    Calls Ybaf.prog 7 #[.pointer (some ⟨A, 0, none⟩), .agg #[.string id, .map none, .map none, .bool false, .bool false, .int .i64 n, .int .i64 0, .int .i64 0, .int .i64 0, .int .i64 0, .slice none 0 0, .int .i64 0, .bool false]] w
      fun e w' => e = .returned (.pointer (some ⟨w.heap.size, 0, none⟩)) ∧ MkRel F A n id w n w' := by
  have hmk : ∀ w : World, (Instr.makeSlice 36 (.int .i64 n) (.int .i64 n)).run Ybaf.prog w = .ok (.slice (some ⟨w.heap.size, 0, none⟩) n n) (w.alloc (.cells (madeCells #[.pointer none] n) 45)) :=
    fun w => run_make_row' 36 45 _ 8 Ybaf.underlying36 info45 rfl .i64 .i64 n (by omega) (by omega) w
  go_enter Ybaf.func7, Ybaf.ntmps7
  go_wp2
  clear hmk
  go_loopw [19] (fun i wr => ∃ k : Nat, k ≤ n ∧ i = .int .i64 k ∧ MkRel F A n id w k wr) (fun i _ => n - (intOf i).toNat)
  case atStart => exact ⟨0, Nat.zero_le _, rfl, mk_start F A n id w⟩
  case round =>
    obtain ⟨k, hk, rfl, hR⟩ := hrel
    by_cases hlt : k < n
    · have c0 : wr.cell? ⟨w.heap.size, 0, none⟩ = some (.string id) := by rw [cells_of hR.req]; rfl
      have c10 : wr.cell? ⟨w.heap.size, 10, none⟩ = some (.slice (some ⟨w.heap.size + 1, 0, none⟩) n n) := by rw [cells_of hR.req]; rfl
      have ck : wr.cell? ⟨w.heap.size + 1, k, none⟩ = some (.pointer none) := by rw [cells_of hR.row, askRow_at _ _ _ _ hlt, if_neg (by omega)]
      have fk : wr.frozen? ⟨w.heap.size + 1, k, none⟩ = false := frozen_of hR.row k
      have hs := hR.size
      have hFr : F.answers wr.tape := by rw [hR.below.tape]; exact hF
      have h11 : (callFunc 11 #[.string ⟨#[37, 115, 47, 37, 100]⟩, .slice (some ⟨wr.heap.size, 0, none⟩) 2 2]).run Ybaf.prog (wr.alloc (.cells #[.iface 9 (.string id), .iface 3 (.int .i64 k)] 20)).drew = .ok (.value (.string (spf F id k))) (wr.alloc (.cells #[.iface 9 (.string id), .iface 3 (.int .i64 k)] 20)).drew.drew :=
        run11 F id k _ _ hFr (by rw [World.cell?_drew, World.cell?_alloc_at _ _ _ _ rfl]; rfl) (by rw [World.cell?_drew, World.cell?_alloc_at _ _ _ _ rfl]; rfl)
      have i1 : (k : Int) < (n : Int) := by omega
      have i0 : (0 : Int) ≤ (k : Int) := by omega
      have lt0 : w.heap.size < wr.heap.size := by omega
      have lt1 : w.heap.size + 1 < wr.heap.size := by omega
      have HS : Hid (MkRel F A n id w k wr) := hR
      clear hs hR hF hk
      go_wp2
      go_region_held3 (fun w' => w'.cell? ⟨w.heap.size, 0, none⟩ = some (.string id) ∧ w'.cell? ⟨w.heap.size, 10, none⟩ = some (.slice (some ⟨w.heap.size + 1, 0, none⟩) n n)) (first | (go_keep; done) | (go_split_ands; refine ⟨?_, ?_⟩ <;> (simp (disch := (first | omega | (simp only [World.size_alloc, World.size_setCell, World.size_drew]; omega))) only [World.cell?_drew, World.cell?_alloc_past, setCell_ne]; assumption))) (fail)
      go_wp2
      go_roundw
      case rel => exact ⟨k + 1, by omega, by go_num, mk_step F A n id w k wr hlt HS.out _⟩
      case measure => simp [intOf]; omega
    · have hkn : k = n := by omega
      subst hkn
      go_wp2
      go_ret
      exact ⟨rfl, hR⟩

def stOf (n : Nat) (pend rel : Int) : Int :=
  if 0 < n ∧ 0 < pend then 1 else if 0 < n then 2 else if rel = 0 then 0 else if 0 < pend then 1 else 3

theorem ret_int {k : IntKind} {a b : Int} (h : a = b) : Ending.returned (.int k a) = .returned (.int k b) := by rw [h]

set_option maxHeartbeats 400000 in
theorem stateWith_any (A n cap : Nat) (x : Option Addr) (pend rel : Int) (w : World) (hp0 : 0 ≤ pend) (hp1 : pend ≤ 1000000)
    (h5 : w.cell? ⟨A, 5, none⟩ = some (.slice x n cap)) (h7 : w.cell? ⟨A, 7, none⟩ = some (.int .i64 pend)) (h8 : w.cell? ⟨A, 8, none⟩ = some (.int .i64 rel)) :
    Calls Ybaf.prog 16 #[.pointer (some ⟨A, 0, none⟩), .int .i64 0] w fun e w' => e = .returned (.int .i64 (stOf n pend rel)) ∧ ∃ k, w' = w.drewN k := by
  go_enter Ybaf.func16, Ybaf.ntmps16
  go_wp2
  go_quiet (fail)
  go_wp2
  all_goals
    go_ret
    exact ⟨ret_int (by simp_all [stOf]), _, rfl⟩

set_option maxHeartbeats 400000 in
theorem settle_any (A n cap : Nat) (x : Option Addr) (pend rel : Int) (st : Value) (w : World) (hp0 : 0 ≤ pend) (hp1 : pend ≤ 1000000) (h2 : w.cell? ⟨A, 2, none⟩ = some st) (f2 : w.frozen? ⟨A, 2, none⟩ = false)
    (h5 : w.cell? ⟨A, 5, none⟩ = some (.slice x n cap)) (h7 : w.cell? ⟨A, 7, none⟩ = some (.int .i64 pend)) (h8 : w.cell? ⟨A, 8, none⟩ = some (.int .i64 rel)) :
    Calls Ybaf.prog 14 #[.pointer (some ⟨A, 0, none⟩)] w fun e w' => e = .returned (.tuple #[]) ∧ ∃ k, w' = (w.setCell ⟨A, 2, none⟩ (.int .i64 (stOf n pend rel))).drewN k := by
  go_enter Ybaf.func14, Ybaf.ntmps14
  go_wp2_with (go_at_call 16; refine (stateWith_any A n cap x pend rel _ hp0 hp1 h5 h7 h8).mono ?_; rintro e w' ⟨rfl, k, rfl⟩)
  go_end0
  exact ⟨rfl, k, rfl⟩

end Go.Proofs.YbulkbwokFmt
