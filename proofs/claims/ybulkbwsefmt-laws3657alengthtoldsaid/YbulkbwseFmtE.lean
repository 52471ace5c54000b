/- DERIVED. fmt.errorf at this seat's three formats. -/
import Derived.Test.YbulkbwseFmtRows
import Derived.WalkKit
import Derived.WalkSpells
import Derived.WalkLawsBesides
import Derived.Deep.QuietTactic
import Derived.BigQuiet
import Derived.Stop.CallBack
import Derived.Stop.IfaceNil
namespace Go.Proofs.YbulkbwseFmt
open Go.RowKit Go.Extern.Stop Go.Stop Go.Extern

theorem call21 (args : Array Value) (w : World) : (callFunc 21 args).run Ybaf.prog w = ((FmtStop.errorf #[9, 70] #[26] args).run Ybaf.prog w).andThen fun v w' => .ok (.value v) w' :=
  run_callFunc_extern Ybaf.func21 (by kernel_rfl) (by kernel_rfl) (by kernel_rfl) (by kernel_rfl) args w
theorem guardF (name : String) (w : World) : (FmtStop.guard name).run Ybaf.prog w = .ok () w := by kernel_rfl
abbrev fName : ByteArray := ⟨#[110, 97, 109, 101, 32, 37, 113, 32, 104, 111, 108, 100, 115, 32, 97, 32, 99, 111, 110, 116, 114, 111, 108, 32, 99, 104, 97, 114, 97, 99, 116, 101, 114]⟩
abbrev fWrap : ByteArray := ⟨#[101, 110, 116, 105, 116, 121, 32, 105, 100, 58, 32, 37, 119]⟩
abbrev fLong : ByteArray := ⟨#[101, 110, 116, 105, 116, 121, 32, 105, 100, 32, 37, 113, 32, 105, 115, 32, 108, 111, 110, 103, 101, 114, 32, 116, 104, 97, 110, 32, 37, 100, 32, 98, 121, 116, 101, 115]⟩
theorem pName (w : World) : (FmtDoors.printed fName 1).run Ybaf.prog w = .ok [(0, 113, false)] w := by kernel_rfl
theorem pWrap (w : World) : (FmtDoors.printed fWrap 1).run Ybaf.prog w = .ok [(0, 119, false)] w := by kernel_rfl
theorem pLong (w : World) : (FmtDoors.printed fLong 2).run Ybaf.prog w = .ok [(0, 113, false), (1, 100, false)] w := by kernel_rfl
theorem op9 (name : String) (x : ByteArray) (w : World) : (FmtStop.operand name true 113 false (.iface 9 (.string x))).run Ybaf.prog w = .ok ([12, 6, 0, 0, 0, 0, 0, 0, 0, 115, 116, 114, 105, 110, 103], FmtStop.pack x.data.toList) w := by kernel_rfl
theorem op3 (name : String) (x : Int) (w : World) : (FmtStop.operand name true 100 false (.iface 3 (.int .i64 x))).run Ybaf.prog w = .ok ([5, 3, 0, 0, 0, 0, 0, 0, 0, 105, 110, 116], Go.Extern.Stop.digits 8 (x % 2 ^ 64).toNat) w := by kernel_rfl
theorem ptr76 (w : World) : (FmtStop.ptrTo "errors.errorString").run Ybaf.prog w = .ok 76 w := by kernel_rfl
theorem elem76 (w : World) : (elemOf 76).run Ybaf.prog w = .ok 78 w := by kernel_rfl
theorem ptr71 (w : World) : (FmtStop.ptrTo "fmt.wrapError").run Ybaf.prog w = .ok 71 w := by kernel_rfl
theorem elem71 (w : World) : (elemOf 71).run Ybaf.prog w = .ok 129 w := by kernel_rfl
theorem isErr76 (w : World) : (FmtDoors.textMethod 76 "Error").run Ybaf.prog w = .ok true w := by kernel_rfl

theorem run_name (F : Interp) (s : ByteArray) (b : Nat) (w : World) (hF : F.answers w.tape) (h0 : w.cell? ⟨b, 0, none⟩ = some (.iface 9 (.string s))) :
    (callFunc 21 #[.string fName, .slice (some ⟨b, 0, none⟩) 1 1]).run Ybaf.prog w = .ok (.value (.iface 76 (.pointer (some ⟨w.heap.size, 0, none⟩)))) (w.alloc (.cells #[.string (FmtStop.textOf (F "fmt.errorf" [fName.data.toList, [12, 6, 0, 0, 0, 0, 0, 0, 0, 115, 116, 114, 105, 110, 103], FmtStop.pack s.data.toList] 0))] 78)).drew := by
  have hF' := answers_open hF
  rw [call21]
  have hg := guardF "fmt.errorf" w
  have h1 := pName w
  simp [go_sem, hg, h0, h1, op9, FmtStop.readAll, hF', ptr76, elem76]
theorem op76 (a : Addr) (s : ByteArray) (w : World) (hc : w.cell? a = some (.string s)) :
    (FmtStop.operand "fmt.errorf" true 119 false (.iface 76 (.pointer (some a)))).run Ybaf.prog w = .ok (14 :: FmtStop.pack Ybaf.t76.str.toUTF8.data.toList, s.data.toList) w := by
  have h1 : (typeStr 76).run Ybaf.prog w = .ok Ybaf.t76.str w := by kernel_rfl
  have d2 : Ybaf.t76.desc = .pointer 78 := rfl
  have d3 : Ybaf.t78.desc = .named "errors.errorString" 77 := rfl
  simp [FmtStop.operand, h1, d2, d3, run_load, hc]
theorem run_wrap (F : Interp) (a : Addr) (s : ByteArray) (b : Nat) (w : World) (hF : F.answers w.tape) (h0 : w.cell? ⟨b, 0, none⟩ = some (.iface 76 (.pointer (some a)))) (hc : w.cell? a = some (.string s)) :
    (callFunc 21 #[.string fWrap, .slice (some ⟨b, 0, none⟩) 1 1]).run Ybaf.prog w = .ok (.value (.iface 71 (.pointer (some ⟨w.heap.size, 0, none⟩)))) (w.alloc (.cells #[.string (FmtStop.textOf (F "fmt.errorf" [fWrap.data.toList, 14 :: FmtStop.pack Ybaf.t76.str.toUTF8.data.toList, s.data.toList] 0)), .iface 76 (.pointer (some a))] 129)).drew := by
  have hF' := answers_open hF
  rw [call21]
  have hg := guardF "fmt.errorf" w
  have h1 := pWrap w
  have h2 := op76 a s w hc
  simp [go_sem, hg, h0, h1, h2, FmtStop.readAll, hF', ptr71, elem71, isErr76]
theorem run_long (F : Interp) (s : ByteArray) (k : Int) (b : Nat) (w : World) (hF : F.answers w.tape) (h0 : w.cell? ⟨b, 0, none⟩ = some (.iface 9 (.string s))) (h1' : w.cell? ⟨b, 1, none⟩ = some (.iface 3 (.int .i64 k))) :
    (callFunc 21 #[.string fLong, .slice (some ⟨b, 0, none⟩) 2 2]).run Ybaf.prog w = .ok (.value (.iface 76 (.pointer (some ⟨w.heap.size, 0, none⟩)))) (w.alloc (.cells #[.string (FmtStop.textOf (F "fmt.errorf" [fLong.data.toList, [12, 6, 0, 0, 0, 0, 0, 0, 0, 115, 116, 114, 105, 110, 103], FmtStop.pack s.data.toList, [5, 3, 0, 0, 0, 0, 0, 0, 0, 105, 110, 116], Go.Extern.Stop.digits 8 (k % 2 ^ 64).toNat] 0))] 78)).drew := by
  have hF' := answers_open hF
  rw [call21]
  have hg := guardF "fmt.errorf" w
  have h1 := pLong w
  simp [go_sem, hg, h0, h1', h1, op9, op3, FmtStop.readAll, hF', ptr76, elem76]
end Go.Proofs.YbulkbwseFmt
