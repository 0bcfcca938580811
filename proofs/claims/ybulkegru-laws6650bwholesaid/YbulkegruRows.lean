/-
  No cell of these rows narrows 'for every input' (looked for: loops, veiled, ifaces, maps, wideKeys, modest, calm, conditions, laid).
  DERIVED. THE GIVEN ROWS OF THIS SEAT. 2 by the template 'for every input the law returns true; each argument reads behind the call as it read before'; 0 by the template 'total and deterministic' (their statements: YbulkegruTotals.lean).
  GIVEN WITH THE SEED: the statements are not yours to turn. If you find one false, say at which input.
  Laid BY PROGRAM, IN A SANDBOX (cutbox-rows.mjs): the forced cells as the released guide's own fill.sh prints them over the translation 1cfc88822e177f1d… (all of the seat's roots in one cut). By AI agents, Wed Nov 11 2026. No macro, syntax, notation, axiom, sorry.
-/
import Derived.Test.YbulkegruChecked
import GoSem.Claim
import GoSem.ClaimJoined
import GoSem.ClaimMapViews
import Derived.JoinedTies
import Derived.KernelRfl
namespace Go.Proofs.Ybulkegru
/- THE CELL 'sum', in the pinned program and in every row, IS THE sha256 OF THE DUMP (.gsa) THAT YbulkegruProg.lean LOADS. Nothing in Lean hashes anything: it is a label: what it is worth is what the hold of that sum in a sandbox is worth. -/
noncomputable def Yba.pinned : Pinned := { name := "ybulkegru", sum := "1cfc88822e177f1dbfda1eba4ef48137ec7da97627199d85f2e3e6b430a2dbea", checked := Yba.checked }
namespace Rows
def none {H : Type} : Left H := { results := [], args := [] }

/-- 'decimant.LawS6650AWhole': WHATEVER THE INPUT: true; the input reads as it did. -/
def lawS6650AWholeSpec : ChangeSpec := { name := "lawS6650AWhole", fn := fun _ => fun
  | [d1, d2, d3, d4, d5, d6] => { results := [.lit (.bool true)], args := [d1, d2, d3, d4, d5, d6] }
  | _ => none }
def lawS6650AWholeRow : OpenClaim := { program := "ybulkegru", sum := "1cfc88822e177f1dbfda1eba4ef48137ec7da97627199d85f2e3e6b430a2dbea", func := "example.com/decimant/decimant.LawS6650AWhole", spec := "lawS6650AWhole", apart := false }
def LawS6650AWholeSaid : Prop := lawS6650AWholeRow.holds Yba.pinned (OpenSpec.ofChange lawS6650AWholeSpec)

/-- ITS FALSE NEIGHBOUR: 'it returns false'. Refute it at one input. -/
def lawS6650AWholeWrong : ChangeSpec := { name := "lawS6650AWhole", fn := fun _ => fun
  | [d1, d2, d3, d4, d5, d6] => { results := [.lit (.bool false)], args := [d1, d2, d3, d4, d5, d6] }
  | _ => none }
def LawS6650AWholeWrongFalsely : Prop := lawS6650AWholeRow.holds Yba.pinned (OpenSpec.ofChange lawS6650AWholeWrong)

/-- 'decimant.LawS6650BWhole': WHATEVER THE INPUT: true; the input reads as it did. -/
def lawS6650BWholeSpec : ChangeSpec := { name := "lawS6650BWhole", fn := fun _ => fun
  | [d1, d2, d3] => { results := [.lit (.bool true)], args := [d1, d2, d3] }
  | _ => none }
def lawS6650BWholeRow : OpenClaim := { program := "ybulkegru", sum := "1cfc88822e177f1dbfda1eba4ef48137ec7da97627199d85f2e3e6b430a2dbea", func := "example.com/decimant/decimant.LawS6650BWhole", spec := "lawS6650BWhole", inPlace := ["math.Float64frombits", "math.Float64bits"], apart := false }
def LawS6650BWholeSaid : Prop := lawS6650BWholeRow.holds Yba.pinned (OpenSpec.ofChange lawS6650BWholeSpec)

/-- ITS FALSE NEIGHBOUR: 'it returns false'. Refute it at one input. -/
def lawS6650BWholeWrong : ChangeSpec := { name := "lawS6650BWhole", fn := fun _ => fun
  | [d1, d2, d3] => { results := [.lit (.bool false)], args := [d1, d2, d3] }
  | _ => none }
def LawS6650BWholeWrongFalsely : Prop := lawS6650BWholeRow.holds Yba.pinned (OpenSpec.ofChange lawS6650BWholeWrong)

end Rows
end Go.Proofs.Ybulkegru
