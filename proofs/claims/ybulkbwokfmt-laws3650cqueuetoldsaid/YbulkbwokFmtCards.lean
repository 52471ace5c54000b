/-
  DERIVED. GIVEN WITH THE SEED: THE CARDS: each row of YbulkbwokFmtRows.lean that lists a variable, with what it lists TIED to the program's text (the seventh form; the later family's looks); each row that meets fmt, with fmt's text TOLD by the authors' own Lean function (tested against real Go, not proved from fmt's source: count such statements apart). THE CARD IS WHAT COUNTS. Prove the row's statement (the work); the ties are given (YbulkbwokFmtTie.lean); close each card by the builder's one call (the guide's Derived/Test/ToyasCard.lean, 'card_holds'). Laid BY PROGRAM, IN A SANDBOX (cutbox-door.mjs). By AI agents, Wed Nov 11 2026. No macro, syntax, notation, axiom, sorry.
-/
import Derived.Test.YbulkbwokFmtRows
import GoSem.ClaimSeven
namespace Go.Proofs.YbulkbwokFmt
namespace Rows

/-- THE TOLD AND TIED CARD OF 'state.LawS3650CQueue'. -/
def lawS3650CQueueCard : Claim7 := { stood := { row := lawS3650CQueueRow, standIns := [], harness := (true, "5513759c891781c0a360f7a44ea690982dd3411161f52fe56a66cbde913fc309"), looks := false }, told := true, laidByText := true, laidKinds := [.data, .data, .data], laidTests := true, laidLooks := .later, goes := false }
def LawS3650CQueueToldSaid : Prop := Claim7.holds Ybaf.pinned (.plain (OpenSpec.ofChange lawS3650CQueueSpec)) lawS3650CQueueCard
/-- ITS FALSE NEIGHBOUR. Refute it at one input. -/
def LawS3650CQueueToldWrongFalsely : Prop := Claim7.holds Ybaf.pinned (.plain (OpenSpec.ofChange lawS3650CQueueWrong)) lawS3650CQueueCard

/-- THE TOLD CARD OF 'state.LawS3650CSettle'. -/
def lawS3650CSettleCard : Claim7 := { stood := { row := lawS3650CSettleRow, standIns := [], harness := (true, "5513759c891781c0a360f7a44ea690982dd3411161f52fe56a66cbde913fc309"), looks := false }, told := true, goes := false }
def LawS3650CSettleToldSaid : Prop := Claim7.holds Ybaf.pinned (.plain (OpenSpec.ofChange lawS3650CSettleSpec)) lawS3650CSettleCard
/-- ITS FALSE NEIGHBOUR. Refute it at one input. -/
def LawS3650CSettleToldWrongFalsely : Prop := Claim7.holds Ybaf.pinned (.plain (OpenSpec.ofChange lawS3650CSettleWrong)) lawS3650CSettleCard
end Rows
end Go.Proofs.YbulkbwokFmt
