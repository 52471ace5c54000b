/-
  DERIVED. GIVEN WITH THE SEED: THE CARDS: each row of YbulkbwseFmtRows.lean that lists a variable, with what it lists TIED to the program's text (the seventh form; the later family's looks); each row that meets fmt, with fmt's text TOLD by the authors' own Lean function (tested against real Go, not proved from fmt's source: count such statements apart). THE CARD IS WHAT COUNTS. Prove the row's statement (the work); the ties are given (YbulkbwseFmtTie.lean); close each card by the builder's one call (the guide's Derived/Test/ToyasCard.lean, 'card_holds'). Laid BY PROGRAM, IN A SANDBOX (cutbox-door.mjs). By AI agents, Wed Nov 11 2026. No macro, syntax, notation, axiom, sorry.
-/
import Derived.Test.YbulkbwseFmtRows
import GoSem.ClaimSeven
namespace Go.Proofs.YbulkbwseFmt
namespace Rows

/-- THE TOLD AND TIED CARD OF 'store.LawS3657AModel'. -/
def lawS3657AModelCard : Claim7 := { stood := { row := lawS3657AModelRow, standIns := [], harness := (true, "648a17d1f7f02be7c4b4aaf3fed7d93230312fe5ab4040d14e9abd5dabe4fa52"), looks := false }, told := true, laidByText := true, laidKinds := [.data, .pinned], laidTests := true, laidLooks := .later, goes := false }
def LawS3657AModelToldSaid : Prop := Claim7.holds Ybaf.pinned (.plain (OpenSpec.ofChange lawS3657AModelSpec)) lawS3657AModelCard
/-- ITS FALSE NEIGHBOUR. Refute it at one input. -/
def LawS3657AModelToldWrongFalsely : Prop := Claim7.holds Ybaf.pinned (.plain (OpenSpec.ofChange lawS3657AModelWrong)) lawS3657AModelCard

/-- THE TOLD CARD OF 'store.LawS3657ALength'. -/
def lawS3657ALengthCard : Claim7 := { stood := { row := lawS3657ALengthRow, standIns := [], harness := (true, "648a17d1f7f02be7c4b4aaf3fed7d93230312fe5ab4040d14e9abd5dabe4fa52"), looks := false }, told := true, goes := false }
def LawS3657ALengthToldSaid : Prop := Claim7.holds Ybaf.pinned (.plain (OpenSpec.ofChange lawS3657ALengthSpec)) lawS3657ALengthCard
/-- ITS FALSE NEIGHBOUR. Refute it at one input. -/
def LawS3657ALengthToldWrongFalsely : Prop := Claim7.holds Ybaf.pinned (.plain (OpenSpec.ofChange lawS3657ALengthWrong)) lawS3657ALengthCard

/-- THE TOLD AND TIED CARD OF 'statewright.LawS3657BTable'. -/
def lawS3657BTableCard : Claim7 := { stood := { row := lawS3657BTableRow, standIns := [], harness := (true, "648a17d1f7f02be7c4b4aaf3fed7d93230312fe5ab4040d14e9abd5dabe4fa52"), looks := false }, told := true, laidByText := true, laidKinds := [.listed], laidTests := true, laidLooks := .later, goes := false }
def LawS3657BTableToldSaid : Prop := Claim7.holds Ybaf.pinned (.plain (OpenSpec.ofChange lawS3657BTableSpec)) lawS3657BTableCard
/-- ITS FALSE NEIGHBOUR. Refute it at one input. -/
def LawS3657BTableToldWrongFalsely : Prop := Claim7.holds Ybaf.pinned (.plain (OpenSpec.ofChange lawS3657BTableWrong)) lawS3657BTableCard

/-- THE TOLD AND TIED CARD OF 'statewright.LawS3657BTwice'. -/
def lawS3657BTwiceCard : Claim7 := { stood := { row := lawS3657BTwiceRow, standIns := [], harness := (true, "648a17d1f7f02be7c4b4aaf3fed7d93230312fe5ab4040d14e9abd5dabe4fa52"), looks := false }, told := true, laidByText := true, laidKinds := [.listed], laidTests := true, laidLooks := .later, goes := false }
def LawS3657BTwiceToldSaid : Prop := Claim7.holds Ybaf.pinned (.plain (OpenSpec.ofChange lawS3657BTwiceSpec)) lawS3657BTwiceCard
/-- ITS FALSE NEIGHBOUR. Refute it at one input. -/
def LawS3657BTwiceToldWrongFalsely : Prop := Claim7.holds Ybaf.pinned (.plain (OpenSpec.ofChange lawS3657BTwiceWrong)) lawS3657BTwiceCard
end Rows
end Go.Proofs.YbulkbwseFmt
