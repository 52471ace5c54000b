/-
  No cell of these rows narrows 'for every input' (looked for: loops, veiled, ifaces, maps, wideKeys, modest, calm, conditions, laid).
  DERIVED. THE GIVEN ROWS OF THIS SEAT. 3 by the template 'for every input the law returns true; each argument reads behind the call as it read before'; 0 by the template 'total and deterministic' (their statements: YbulkbwqoTotals.lean).
  GIVEN WITH THE SEED: the statements are not yours to turn. If you find one false, say at which input.
  Laid BY PROGRAM, IN A SANDBOX (cutbox-rows.mjs): the forced cells as the released guide's own fill.sh prints them over the translation 12c18c2c8db0b7fb… (all of the seat's roots in one cut). By AI agents, Wed Nov 11 2026. No macro, syntax, notation, axiom, sorry.
-/
import Derived.Test.YbulkbwqoChecked
import GoSem.Claim
import GoSem.ClaimJoined
import GoSem.ClaimMapViews
import Derived.JoinedTies
import Derived.KernelRfl
namespace Go.Proofs.Ybulkbwqo
/- THE CELL 'sum', in the pinned program and in every row, IS THE sha256 OF THE DUMP (.gsa) THAT YbulkbwqoProg.lean LOADS. Nothing in Lean hashes anything: it is a label: what it is worth is what the hold of that sum in a sandbox is worth. -/
noncomputable def Yba.pinned : Pinned := { name := "ybulkbwqo", sum := "12c18c2c8db0b7fb7ba64c13ccb16ad4a46326404b561fef32d08285517eac4b", checked := Yba.checked }
namespace Rows
def none {H : Type} : Left H := { results := [], args := [] }

/-- 'sink.LawS3654ACompact': WHATEVER THE INPUT: true; the input reads as it did. -/
def lawS3654ACompactSpec : ChangeSpec := { name := "lawS3654ACompact", fn := fun _ => fun
  | [d1, d2, d3, d4, d5, d6, d7, d8] => { results := [.lit (.bool true)], args := [d1, d2, d3, d4, d5, d6, d7, d8] }
  | _ => none }
def lawS3654ACompactRow : OpenClaim := { program := "ybulkbwqo", sum := "12c18c2c8db0b7fb7ba64c13ccb16ad4a46326404b561fef32d08285517eac4b", func := "example.com/hyoki/hyoki/internal/sink.LawS3654ACompact", spec := "lawS3654ACompact", unfollowed := true, recurses := true, apart := false }
def LawS3654ACompactSaid : Prop := lawS3654ACompactRow.holds Yba.pinned (OpenSpec.ofChange lawS3654ACompactSpec)

/-- ITS FALSE NEIGHBOUR: 'it returns false'. Refute it at one input. -/
def lawS3654ACompactWrong : ChangeSpec := { name := "lawS3654ACompact", fn := fun _ => fun
  | [d1, d2, d3, d4, d5, d6, d7, d8] => { results := [.lit (.bool false)], args := [d1, d2, d3, d4, d5, d6, d7, d8] }
  | _ => none }
def LawS3654ACompactWrongFalsely : Prop := lawS3654ACompactRow.holds Yba.pinned (OpenSpec.ofChange lawS3654ACompactWrong)

/-- 'sink.LawS3654AExpanded': WHATEVER THE INPUT: true; the input reads as it did. -/
def lawS3654AExpandedSpec : ChangeSpec := { name := "lawS3654AExpanded", fn := fun _ => fun
  | [d1, d2, d3, d4, d5, d6, d7, d8, d9] => { results := [.lit (.bool true)], args := [d1, d2, d3, d4, d5, d6, d7, d8, d9] }
  | _ => none }
def lawS3654AExpandedRow : OpenClaim := { program := "ybulkbwqo", sum := "12c18c2c8db0b7fb7ba64c13ccb16ad4a46326404b561fef32d08285517eac4b", func := "example.com/hyoki/hyoki/internal/sink.LawS3654AExpanded", spec := "lawS3654AExpanded", unfollowed := true, recurses := true, apart := false }
def LawS3654AExpandedSaid : Prop := lawS3654AExpandedRow.holds Yba.pinned (OpenSpec.ofChange lawS3654AExpandedSpec)

/-- ITS FALSE NEIGHBOUR: 'it returns false'. Refute it at one input. -/
def lawS3654AExpandedWrong : ChangeSpec := { name := "lawS3654AExpanded", fn := fun _ => fun
  | [d1, d2, d3, d4, d5, d6, d7, d8, d9] => { results := [.lit (.bool false)], args := [d1, d2, d3, d4, d5, d6, d7, d8, d9] }
  | _ => none }
def LawS3654AExpandedWrongFalsely : Prop := lawS3654AExpandedRow.holds Yba.pinned (OpenSpec.ofChange lawS3654AExpandedWrong)

/-- 'sink.LawS3654AGaps': WHATEVER THE INPUT: true; the input reads as it did. -/
def lawS3654AGapsSpec : ChangeSpec := { name := "lawS3654AGaps", fn := fun _ => fun
  | [d1, d2, d3, d4, d5, d6, d7, d8, d9, d10, d11, d12] => { results := [.lit (.bool true)], args := [d1, d2, d3, d4, d5, d6, d7, d8, d9, d10, d11, d12] }
  | _ => none }
def lawS3654AGapsRow : OpenClaim := { program := "ybulkbwqo", sum := "12c18c2c8db0b7fb7ba64c13ccb16ad4a46326404b561fef32d08285517eac4b", func := "example.com/hyoki/hyoki/internal/sink.LawS3654AGaps", spec := "lawS3654AGaps", unfollowed := true, recurses := true, apart := false }
def LawS3654AGapsSaid : Prop := lawS3654AGapsRow.holds Yba.pinned (OpenSpec.ofChange lawS3654AGapsSpec)

/-- ITS FALSE NEIGHBOUR: 'it returns false'. Refute it at one input. -/
def lawS3654AGapsWrong : ChangeSpec := { name := "lawS3654AGaps", fn := fun _ => fun
  | [d1, d2, d3, d4, d5, d6, d7, d8, d9, d10, d11, d12] => { results := [.lit (.bool false)], args := [d1, d2, d3, d4, d5, d6, d7, d8, d9, d10, d11, d12] }
  | _ => none }
def LawS3654AGapsWrongFalsely : Prop := lawS3654AGapsRow.holds Yba.pinned (OpenSpec.ofChange lawS3654AGapsWrong)

end Rows
end Go.Proofs.Ybulkbwqo
