/- DERIVED. The seams, compared. -/
import Derived.Test.YbulkbwqoC
import Derived.Deep.QuietTactic
import Derived.BigQuiet
namespace Go.Proofs.Ybulkbwqo
open Go.RowKit

theorem owns50_cell {w : World} {base : Nat} {v : Value} {n : Nat} {xs : List Value} (h : w.ownsRow base 50 1 v n xs) : ∃ x cap, v = .slice x n cap ∧ ∀ j, j < n → ∃ g, x = some ⟨g, 0, none⟩ ∧ w.cell? ⟨g, j, none⟩ = xs[j]? := by
  rcases h.2 with ⟨rfl, rfl⟩ | ⟨g, cap, cur, rfl, hb, hh, h1, _, h3, h4⟩
  · exact ⟨none, 0, rfl, fun j hj => by omega⟩
  · refine ⟨_, cap, rfl, fun j hj => ⟨g, rfl, ?_⟩⟩
    have hc : w.cell? ⟨g, j, none⟩ = cur[j]? := by simp [World.cell?, hh]
    rw [hc, ← h4, List.getElem?_take]
    simp [hj]

set_option maxRecDepth 100000 in
set_option maxHeartbeats 4000000 in
theorem seams_same (B1 B2 n : Nat) (v1 v2 : Value) (sl : List Value) (w : World) (hn : n ≤ 100000) (h1 : w.ownsRow B1 50 1 v1 n sl) (h2 : w.ownsRow B2 50 1 v2 n sl) (hu : ∀ j, j < n → ∃ a : Nat, sl[j]? = some (.int .u8 a)) :
    Calls Yba.prog 14 #[v1, v2] w fun e w' => e = .returned (.bool true) ∧ ∃ q, w' = w.drewN q := by
  obtain ⟨x1, cap1, rfl, hc1⟩ := owns50_cell h1
  obtain ⟨x2, cap2, rfl, hc2⟩ := owns50_cell h2
  have HC := hid (And.intro hc1 (And.intro hc2 hu))
  clear hc1 hc2 hu h1 h2
  go_enter Yba.func14, Yba.ntmps14
  go_wp2
  go_loopw [5] (fun iv wr => ∃ i : Nat, i ≤ n ∧ iv = .int .i64 i ∧ ∃ q, wr = w.drewN q) (fun iv _ => n - (intOf iv).toNat)
  case atStart => exact ⟨0, Nat.zero_le _, rfl, 0, rfl⟩
  case round =>
    obtain ⟨i, hi, rfl, q, rfl⟩ := hrel
    by_cases hlt : i < n
    · have i1 : (i : Int) < (n : Int) := by omega
      have i0 : (0 : Int) ≤ (i : Int) := by omega
      obtain ⟨g1, rfl, e1⟩ := HC.out.1 i hlt
      obtain ⟨g2, rfl, e2⟩ := HC.out.2.1 i hlt
      obtain ⟨a, ha⟩ := HC.out.2.2 i hlt
      rw [ha] at e1 e2
      clear ha
      go_wp2
      go_quiet (fail)
      go_wp2
      go_roundw
      case rel => exact ⟨i + 1, by omega, by go_num, _, rfl⟩
      case measure => simp [intOf]; omega
    · have i1 : ¬ (i : Int) < (n : Int) := by omega
      go_wp2
      go_ret
      exact ⟨rfl, _, rfl⟩
end Go.Proofs.Ybulkbwqo
