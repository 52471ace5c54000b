/-
  NARROWER THAN 'FOR EVERY INPUT', by the rows' own cells (each row's printed sentence says how): LawS3657AModel: laid · LawS3657BTable: laid · LawS3657BTwice: laid.
  DERIVED. THE GIVEN ROWS OF THIS SEAT. 4 by the template 'for every input the law returns true; each argument reads behind the call as it read before'; 0 by the template 'total and deterministic' (their statements: YbulkbwseFmtTotals.lean).
  GIVEN WITH THE SEED: the statements are not yours to turn. If you find one false, say at which input.
  Laid BY PROGRAM, IN A SANDBOX (cutbox-rows.mjs): the forced cells as the released guide's own fill.sh prints them over the translation 20b1ba321dee52f1… (all of the seat's roots in one cut). By AI agents, Wed Nov 11 2026. No macro, syntax, notation, axiom, sorry.
-/
import Derived.Test.YbulkbwseFmtChecked
import GoSem.PinnedTables
import GoSem.Claim
import GoSem.ClaimJoined
import GoSem.ClaimMapViews
import Derived.JoinedTies
import Derived.KernelRfl
namespace Go.Proofs.YbulkbwseFmt
/- THE CELL 'sum', in the pinned program and in every row, IS THE sha256 OF THE DUMP (.gsa) THAT YbulkbwseFmtProg.lean LOADS. Nothing in Lean hashes anything: it is a label: what it is worth is what the hold of that sum in a sandbox is worth. -/
noncomputable def Ybaf.pinned : Pinned := { name := "ybulkbwsefmt", sum := "20b1ba321dee52f1dc36c9231eecd32986c2c0eb0546327d9d88e3209422fa3b", checked := Ybaf.checked }
namespace Rows
def none {H : Type} : Left H := { results := [], args := [] }

/- WHAT THE LISTED PACKAGE-LEVEL VARIABLES READ AS WHEN THE CALL BEGINS. Each datum BY PROGRAM (the guide's laid-datum.mjs) off the statement by which the dump's own 'gosem.cut.vars' lays the variable. In a bare row this is a premise. The card (YbulkbwseFmtCards.lean) ties it to the program's text. -/
def laid_unicode_utf8_acceptRanges {H : Type} : DataW H := .agg [.agg [.lit (.int .u8 128), .lit (.int .u8 191)], .agg [.lit (.int .u8 160), .lit (.int .u8 191)], .agg [.lit (.int .u8 128), .lit (.int .u8 159)], .agg [.lit (.int .u8 144), .lit (.int .u8 191)], .agg [.lit (.int .u8 128), .lit (.int .u8 143)], .agg [.lit (.int .u8 0), .lit (.int .u8 0)], .agg [.lit (.int .u8 0), .lit (.int .u8 0)], .agg [.lit (.int .u8 0), .lit (.int .u8 0)], .agg [.lit (.int .u8 0), .lit (.int .u8 0)], .agg [.lit (.int .u8 0), .lit (.int .u8 0)], .agg [.lit (.int .u8 0), .lit (.int .u8 0)], .agg [.lit (.int .u8 0), .lit (.int .u8 0)], .agg [.lit (.int .u8 0), .lit (.int .u8 0)], .agg [.lit (.int .u8 0), .lit (.int .u8 0)], .agg [.lit (.int .u8 0), .lit (.int .u8 0)], .agg [.lit (.int .u8 0), .lit (.int .u8 0)]]
/-- One of Go's own tables, pinned by name: the form's constant. -/
def laid_unicode_utf8_first : DataW Unit := Go.Pinned.utf8First
def laid_unicode_White_Space {H : Type} : DataW H := .ptr (.agg [.slice [.agg [.lit (.int .u16 9), .lit (.int .u16 13), .lit (.int .u16 1)], .agg [.lit (.int .u16 32), .lit (.int .u16 133), .lit (.int .u16 101)], .agg [.lit (.int .u16 160), .lit (.int .u16 5760), .lit (.int .u16 5600)], .agg [.lit (.int .u16 8192), .lit (.int .u16 8202), .lit (.int .u16 1)], .agg [.lit (.int .u16 8232), .lit (.int .u16 8233), .lit (.int .u16 1)], .agg [.lit (.int .u16 8239), .lit (.int .u16 8287), .lit (.int .u16 48)], .agg [.lit (.int .u16 12288), .lit (.int .u16 12288), .lit (.int .u16 1)]] [], .nil, .lit (.int .i64 2)])

/-- 'store.LawS3657AModel': WHATEVER THE INPUT: true; the input reads as it did. -/
def lawS3657AModelSpec : ChangeSpec := { name := "lawS3657AModel", fn := fun _ => fun
  | [d] => { results := [.lit (.bool true)], args := [d] }
  | _ => none }
def lawS3657AModelRow : OpenClaim := { program := "ybulkbwsefmt", sum := "20b1ba321dee52f1dc36c9231eecd32986c2c0eb0546327d9d88e3209422fa3b", func := "example.com/statewright/statewright/store.LawS3657AModel", spec := "lawS3657AModel", stops := ["fmt.errorf", "fmt.Sprintf"], inPlace := ["fmt.errorf"], named := ["unicode/utf8.first", "unicode/utf8.acceptRanges"], apart := false, laid := [("unicode/utf8.acceptRanges", laid_unicode_utf8_acceptRanges), ("unicode/utf8.first", laid_unicode_utf8_first)] }
/-- NO THEOREM (fmt's text is open here; it may be false): for the released tool's asking of the row's closed facts alone. THE STATEMENT IS 'LawS3657AModelToldSaid' (YbulkbwseFmtCards.lean). -/
def LawS3657AModelFormAsk : Prop := lawS3657AModelRow.holds Ybaf.pinned (OpenSpec.ofChange lawS3657AModelSpec)

/-- ITS FALSE NEIGHBOUR: 'it returns false'. Refute it at one input. -/
def lawS3657AModelWrong : ChangeSpec := { name := "lawS3657AModel", fn := fun _ => fun
  | [d] => { results := [.lit (.bool false)], args := [d] }
  | _ => none }
def LawS3657AModelWrongFormAsk : Prop := lawS3657AModelRow.holds Ybaf.pinned (OpenSpec.ofChange lawS3657AModelWrong)

/-- 'store.LawS3657ALength': WHATEVER THE INPUT: true; the input reads as it did. -/
def lawS3657ALengthSpec : ChangeSpec := { name := "lawS3657ALength", fn := fun _ => fun
  | [d1, d2, d3] => { results := [.lit (.bool true)], args := [d1, d2, d3] }
  | _ => none }
def lawS3657ALengthRow : OpenClaim := { program := "ybulkbwsefmt", sum := "20b1ba321dee52f1dc36c9231eecd32986c2c0eb0546327d9d88e3209422fa3b", func := "example.com/statewright/statewright/store.LawS3657ALength", spec := "lawS3657ALength", stops := ["fmt.errorf", "fmt.Sprintf"], inPlace := ["fmt.errorf"], apart := false }
/-- NO THEOREM (fmt's text is open here; it may be false): for the released tool's asking of the row's closed facts alone. THE STATEMENT IS 'LawS3657ALengthToldSaid' (YbulkbwseFmtCards.lean). -/
def LawS3657ALengthFormAsk : Prop := lawS3657ALengthRow.holds Ybaf.pinned (OpenSpec.ofChange lawS3657ALengthSpec)

/-- ITS FALSE NEIGHBOUR: 'it returns false'. Refute it at one input. -/
def lawS3657ALengthWrong : ChangeSpec := { name := "lawS3657ALength", fn := fun _ => fun
  | [d1, d2, d3] => { results := [.lit (.bool false)], args := [d1, d2, d3] }
  | _ => none }
def LawS3657ALengthWrongFormAsk : Prop := lawS3657ALengthRow.holds Ybaf.pinned (OpenSpec.ofChange lawS3657ALengthWrong)

/-- 'statewright.LawS3657BTable': WHATEVER THE INPUT: true; the input reads as it did. -/
def lawS3657BTableSpec : ChangeSpec := { name := "lawS3657BTable", fn := fun _ => fun
  | [d1, d2] => { results := [.lit (.bool true)], args := [d1, d2] }
  | _ => none }
def lawS3657BTableRow : OpenClaim := { program := "ybulkbwsefmt", sum := "20b1ba321dee52f1dc36c9231eecd32986c2c0eb0546327d9d88e3209422fa3b", func := "example.com/statewright/statewright.LawS3657BTable", spec := "lawS3657BTable", stops := ["fmt.errorf", "fmt.Sprintf"], inPlace := ["fmt.errorf", "internal/bytealg.IndexByteString", "internal/bytealg.IndexString", "fmt.Sprintf"], unfollowed := true, recurses := true, named := ["internal/bytealg.MaxLen", "unicode.White_Space"], apart := false, laid := [("unicode.White_Space", laid_unicode_White_Space)] }
/-- NO THEOREM (fmt's text is open here; it may be false): for the released tool's asking of the row's closed facts alone. THE STATEMENT IS 'LawS3657BTableToldSaid' (YbulkbwseFmtCards.lean). -/
def LawS3657BTableFormAsk : Prop := lawS3657BTableRow.holds Ybaf.pinned (OpenSpec.ofChange lawS3657BTableSpec)

/-- ITS FALSE NEIGHBOUR: 'it returns false'. Refute it at one input. -/
def lawS3657BTableWrong : ChangeSpec := { name := "lawS3657BTable", fn := fun _ => fun
  | [d1, d2] => { results := [.lit (.bool false)], args := [d1, d2] }
  | _ => none }
def LawS3657BTableWrongFormAsk : Prop := lawS3657BTableRow.holds Ybaf.pinned (OpenSpec.ofChange lawS3657BTableWrong)

/-- 'statewright.LawS3657BTwice': WHATEVER THE INPUT: true; the input reads as it did. -/
def lawS3657BTwiceSpec : ChangeSpec := { name := "lawS3657BTwice", fn := fun _ => fun
  | [d] => { results := [.lit (.bool true)], args := [d] }
  | _ => none }
def lawS3657BTwiceRow : OpenClaim := { program := "ybulkbwsefmt", sum := "20b1ba321dee52f1dc36c9231eecd32986c2c0eb0546327d9d88e3209422fa3b", func := "example.com/statewright/statewright.LawS3657BTwice", spec := "lawS3657BTwice", stops := ["fmt.errorf", "fmt.Sprintf"], inPlace := ["fmt.errorf", "internal/bytealg.IndexByteString", "internal/bytealg.IndexString", "fmt.Sprintf"], unfollowed := true, recurses := true, named := ["internal/bytealg.MaxLen", "unicode.White_Space"], apart := false, laid := [("unicode.White_Space", laid_unicode_White_Space)] }
/-- NO THEOREM (fmt's text is open here; it may be false): for the released tool's asking of the row's closed facts alone. THE STATEMENT IS 'LawS3657BTwiceToldSaid' (YbulkbwseFmtCards.lean). -/
def LawS3657BTwiceFormAsk : Prop := lawS3657BTwiceRow.holds Ybaf.pinned (OpenSpec.ofChange lawS3657BTwiceSpec)

/-- ITS FALSE NEIGHBOUR: 'it returns false'. Refute it at one input. -/
def lawS3657BTwiceWrong : ChangeSpec := { name := "lawS3657BTwice", fn := fun _ => fun
  | [d] => { results := [.lit (.bool false)], args := [d] }
  | _ => none }
def LawS3657BTwiceWrongFormAsk : Prop := lawS3657BTwiceRow.holds Ybaf.pinned (OpenSpec.ofChange lawS3657BTwiceWrong)

end Rows
end Go.Proofs.YbulkbwseFmt
