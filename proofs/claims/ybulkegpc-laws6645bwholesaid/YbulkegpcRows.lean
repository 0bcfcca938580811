/-
  No cell of these rows narrows 'for every input' (looked for: loops, veiled, ifaces, maps, wideKeys, modest, calm, conditions, laid).
  DERIVED. THE GIVEN ROWS OF THIS SEAT. 1 by the template 'for every input the law returns true; each argument reads behind the call as it read before'; 0 by the template 'total and deterministic' (their statements: YbulkegpcTotals.lean).
  GIVEN WITH THE SEED: the statements are not yours to turn. If you find one false, say at which input.
  Laid BY PROGRAM, IN A SANDBOX (cutbox-rows.mjs): the forced cells as the released guide's own fill.sh prints them over the translation 927f55a89a0b5bfb… (all of the seat's roots in one cut). By AI agents, Wed Nov 11 2026. No macro, syntax, notation, axiom, sorry.
-/
import Derived.Test.YbulkegpcChecked
import GoSem.Claim
import GoSem.ClaimJoined
import GoSem.ClaimMapViews
import Derived.JoinedTies
import Derived.KernelRfl
namespace Go.Proofs.Ybulkegpc
/- THE CELL 'sum', in the pinned program and in every row, IS THE sha256 OF THE DUMP (.gsa) THAT YbulkegpcProg.lean LOADS. Nothing in Lean hashes anything: it is a label: what it is worth is what the hold of that sum in a sandbox is worth. -/
noncomputable def Yba.pinned : Pinned := { name := "ybulkegpc", sum := "927f55a89a0b5bfb5894f982e8299177b5944312db61a22d41eda18213056d9d", checked := Yba.checked }
namespace Rows
def none {H : Type} : Left H := { results := [], args := [] }

/-- 'wal.LawS6645BWhole': WHATEVER THE INPUT: true; the input reads as it did. -/
def lawS6645BWholeSpec : ChangeSpec := { name := "lawS6645BWhole", fn := fun _ => fun
  | [d1, d2, d3, d4, d5] => { results := [.lit (.bool true)], args := [d1, d2, d3, d4, d5] }
  | _ => none }
def lawS6645BWholeRow : OpenClaim := { program := "ybulkegpc", sum := "927f55a89a0b5bfb5894f982e8299177b5944312db61a22d41eda18213056d9d", func := "example.com/stillwater/stillwater/internal/wal.LawS6645BWhole", spec := "lawS6645BWhole", named := ["encoding/binary.LittleEndian"], apart := false }
def LawS6645BWholeSaid : Prop := lawS6645BWholeRow.holds Yba.pinned (OpenSpec.ofChange lawS6645BWholeSpec)

/-- ITS FALSE NEIGHBOUR: 'it returns false'. Refute it at one input. -/
def lawS6645BWholeWrong : ChangeSpec := { name := "lawS6645BWhole", fn := fun _ => fun
  | [d1, d2, d3, d4, d5] => { results := [.lit (.bool false)], args := [d1, d2, d3, d4, d5] }
  | _ => none }
def LawS6645BWholeWrongFalsely : Prop := lawS6645BWholeRow.holds Yba.pinned (OpenSpec.ofChange lawS6645BWholeWrong)

end Rows
end Go.Proofs.Ybulkegpc
