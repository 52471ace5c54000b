/-
  No cell of these rows narrows 'for every input' (looked for: loops, veiled, ifaces, maps, wideKeys, modest, calm, conditions, laid).
  DERIVED. THE GIVEN ROWS OF THIS SEAT. 2 by the template 'for every input the law returns true; each argument reads behind the call as it read before'; 0 by the template 'total and deterministic' (their statements: YbulkbwseTotals.lean).
  GIVEN WITH THE SEED: the statements are not yours to turn. If you find one false, say at which input.
  Laid BY PROGRAM, IN A SANDBOX (cutbox-rows.mjs): the forced cells as the released guide's own fill.sh prints them over the translation b49a4d62a9073d87… (all of the seat's roots in one cut). By AI agents, Wed Nov 11 2026. No macro, syntax, notation, axiom, sorry.
-/
import Derived.Test.YbulkbwseChecked
import GoSem.Claim
import GoSem.ClaimJoined
import GoSem.ClaimMapViews
import Derived.JoinedTies
import Derived.KernelRfl
namespace Go.Proofs.Ybulkbwse
/- THE CELL 'sum', in the pinned program and in every row, IS THE sha256 OF THE DUMP (.gsa) THAT YbulkbwseProg.lean LOADS. Nothing in Lean hashes anything: it is a label: what it is worth is what the hold of that sum in a sandbox is worth. -/
noncomputable def Yba.pinned : Pinned := { name := "ybulkbwse", sum := "b49a4d62a9073d87dc0731ee68bf1d535359c61fcaa4d3a9cc7e5296ea51cbf7", checked := Yba.checked }
namespace Rows
def none {H : Type} : Left H := { results := [], args := [] }

/-- 'statewright.LawS3657CBuilt': WHATEVER THE INPUT: true; the input reads as it did. -/
def lawS3657CBuiltSpec : ChangeSpec := { name := "lawS3657CBuilt", fn := fun _ => fun
  | [d1, d2] => { results := [.lit (.bool true)], args := [d1, d2] }
  | _ => none }
def lawS3657CBuiltRow : OpenClaim := { program := "ybulkbwse", sum := "b49a4d62a9073d87dc0731ee68bf1d535359c61fcaa4d3a9cc7e5296ea51cbf7", func := "example.com/statewright/statewright.LawS3657CBuilt", spec := "lawS3657CBuilt", apart := false }
def LawS3657CBuiltSaid : Prop := lawS3657CBuiltRow.holds Yba.pinned (OpenSpec.ofChange lawS3657CBuiltSpec)

/-- ITS FALSE NEIGHBOUR: 'it returns false'. Refute it at one input. -/
def lawS3657CBuiltWrong : ChangeSpec := { name := "lawS3657CBuilt", fn := fun _ => fun
  | [d1, d2] => { results := [.lit (.bool false)], args := [d1, d2] }
  | _ => none }
def LawS3657CBuiltWrongFalsely : Prop := lawS3657CBuiltRow.holds Yba.pinned (OpenSpec.ofChange lawS3657CBuiltWrong)

/-- 'statewright.LawS3657CRaw': WHATEVER THE INPUT: true; the input reads as it did. -/
def lawS3657CRawSpec : ChangeSpec := { name := "lawS3657CRaw", fn := fun _ => fun
  | [d1, d2, d3] => { results := [.lit (.bool true)], args := [d1, d2, d3] }
  | _ => none }
def lawS3657CRawRow : OpenClaim := { program := "ybulkbwse", sum := "b49a4d62a9073d87dc0731ee68bf1d535359c61fcaa4d3a9cc7e5296ea51cbf7", func := "example.com/statewright/statewright.LawS3657CRaw", spec := "lawS3657CRaw", apart := false }
def LawS3657CRawSaid : Prop := lawS3657CRawRow.holds Yba.pinned (OpenSpec.ofChange lawS3657CRawSpec)

/-- ITS FALSE NEIGHBOUR: 'it returns false'. Refute it at one input. -/
def lawS3657CRawWrong : ChangeSpec := { name := "lawS3657CRaw", fn := fun _ => fun
  | [d1, d2, d3] => { results := [.lit (.bool false)], args := [d1, d2, d3] }
  | _ => none }
def LawS3657CRawWrongFalsely : Prop := lawS3657CRawRow.holds Yba.pinned (OpenSpec.ofChange lawS3657CRawWrong)

end Rows
end Go.Proofs.Ybulkbwse
