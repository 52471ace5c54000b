/- DERIVED. Pointers' equality. -/
import Derived.Test.YbulkbwokFmtAdd
import Derived.LaidEql
namespace Go.Proofs.YbulkbwokFmt
open Go.RowKit
theorem equalIn28 (d : Nat) (a : Addr) (w : World) : (Op.equalIn (d + 1) 28 (.pointer (some a)) (.pointer (some a))).run Ybaf.prog w = .ok true w := by
  simp [Op.equalIn, run_underlying Ybaf.underlying28, run_sameAddr_same]
theorem equal28 (a : Addr) (w : World) : (Op.equal 28 (.pointer (some a)) (.pointer (some a))).run Ybaf.prog w = .ok true w := by
  exact equalIn28 9999 a w
theorem eql28 (a : Addr) (w : World) : (binOp .eql 28 (.pointer (some a)) (.pointer (some a))).run Ybaf.prog w = .ok (.bool true) w := by
  simp only [binOp]
  simp [equal28]
theorem neq28 (a : Addr) (w : World) : (binOp .neq 28 (.pointer (some a)) (.pointer (some a))).run Ybaf.prog w = .ok (.bool false) w := by
  simp only [binOp]
  simp [equal28]
theorem equalIn45 (d : Nat) (a : Addr) (w : World) : (Op.equalIn (d + 1) 45 (.pointer (some a)) (.pointer (some a))).run Ybaf.prog w = .ok true w := by
  simp [Op.equalIn, run_underlying Ybaf.underlying45, run_sameAddr_same]
theorem equal45 (a : Addr) (w : World) : (Op.equal 45 (.pointer (some a)) (.pointer (some a))).run Ybaf.prog w = .ok true w := by
  exact equalIn45 9999 a w
theorem neq45 (a : Addr) (w : World) : (binOp .neq 45 (.pointer (some a)) (.pointer (some a))).run Ybaf.prog w = .ok (.bool false) w := by
  simp only [binOp]
  simp [equal45]
end Go.Proofs.YbulkbwokFmt
