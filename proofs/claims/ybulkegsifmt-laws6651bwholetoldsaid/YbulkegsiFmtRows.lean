/-
  No cell of these rows narrows 'for every input' (looked for: loops, veiled, ifaces, maps, wideKeys, modest, calm, conditions, laid).
  DERIVED. THE GIVEN ROWS OF THIS SEAT. 2 by the template 'for every input the law returns true; each argument reads behind the call as it read before'; 0 by the template 'total and deterministic' (their statements: YbulkegsiFmtTotals.lean).
  GIVEN WITH THE SEED: the statements are not yours to turn. If you find one false, say at which input.
  Laid BY PROGRAM, IN A SANDBOX (cutbox-rows.mjs): the forced cells as the released guide's own fill.sh prints them over the translation 00cdadc6ddfb3fd2… (all of the seat's roots in one cut). By AI agents, Wed Nov 11 2026. No macro, syntax, notation, axiom, sorry.
-/
import Derived.Test.YbulkegsiFmtChecked
import GoSem.Claim
import GoSem.ClaimJoined
import GoSem.ClaimMapViews
import Derived.JoinedTies
import Derived.KernelRfl
namespace Go.Proofs.YbulkegsiFmt
/- THE CELL 'sum', in the pinned program and in every row, IS THE sha256 OF THE DUMP (.gsa) THAT YbulkegsiFmtProg.lean LOADS. Nothing in Lean hashes anything: it is a label: what it is worth is what the hold of that sum in a sandbox is worth. -/
noncomputable def Ybaf.pinned : Pinned := { name := "ybulkegsifmt", sum := "00cdadc6ddfb3fd2ed3c0f44e033c8dcdca1922660d6a4e3593ece1e98d2705a", checked := Ybaf.checked }
namespace Rows
def none {H : Type} : Left H := { results := [], args := [] }

/-- 'der.LawS6651APart': WHATEVER THE INPUT: true; the input reads as it did. -/
def lawS6651APartSpec : ChangeSpec := { name := "lawS6651APart", fn := fun _ => fun
  | [d1, d2] => { results := [.lit (.bool true)], args := [d1, d2] }
  | _ => none }
def lawS6651APartRow : OpenClaim := { program := "ybulkegsifmt", sum := "00cdadc6ddfb3fd2ed3c0f44e033c8dcdca1922660d6a4e3593ece1e98d2705a", func := "example.com/saltmask/saltmask/internal/der.LawS6651APart", spec := "lawS6651APart", stops := ["fmt.Sprintf, its operands' methods called", "fmt.errorf, its operands' methods called"], inPlace := ["fmt.Sprintf"], unfollowed := true, recurses := true, apart := false }
/-- NO THEOREM (fmt's text is open here; it may be false): for the released tool's asking of the row's closed facts alone. THE STATEMENT IS 'LawS6651APartToldSaid' (YbulkegsiFmtCards.lean). -/
def LawS6651APartFormAsk : Prop := lawS6651APartRow.holds Ybaf.pinned (OpenSpec.ofChange lawS6651APartSpec)

/-- ITS FALSE NEIGHBOUR: 'it returns false'. Refute it at one input. -/
def lawS6651APartWrong : ChangeSpec := { name := "lawS6651APart", fn := fun _ => fun
  | [d1, d2] => { results := [.lit (.bool false)], args := [d1, d2] }
  | _ => none }
def LawS6651APartWrongFormAsk : Prop := lawS6651APartRow.holds Ybaf.pinned (OpenSpec.ofChange lawS6651APartWrong)

/-- 'der.LawS6651BWhole': WHATEVER THE INPUT: true; the input reads as it did. -/
def lawS6651BWholeSpec : ChangeSpec := { name := "lawS6651BWhole", fn := fun _ => fun
  | [d1, d2, d3] => { results := [.lit (.bool true)], args := [d1, d2, d3] }
  | _ => none }
def lawS6651BWholeRow : OpenClaim := { program := "ybulkegsifmt", sum := "00cdadc6ddfb3fd2ed3c0f44e033c8dcdca1922660d6a4e3593ece1e98d2705a", func := "example.com/saltmask/saltmask/internal/der.LawS6651BWhole", spec := "lawS6651BWhole", stops := ["fmt.Sprintf, its operands' methods called", "fmt.errorf, its operands' methods called"], inPlace := ["fmt.errorf"], unfollowed := true, recurses := true, apart := false }
/-- NO THEOREM (fmt's text is open here; it may be false): for the released tool's asking of the row's closed facts alone. THE STATEMENT IS 'LawS6651BWholeToldSaid' (YbulkegsiFmtCards.lean). -/
def LawS6651BWholeFormAsk : Prop := lawS6651BWholeRow.holds Ybaf.pinned (OpenSpec.ofChange lawS6651BWholeSpec)

/-- ITS FALSE NEIGHBOUR: 'it returns false'. Refute it at one input. -/
def lawS6651BWholeWrong : ChangeSpec := { name := "lawS6651BWhole", fn := fun _ => fun
  | [d1, d2, d3] => { results := [.lit (.bool false)], args := [d1, d2, d3] }
  | _ => none }
def LawS6651BWholeWrongFormAsk : Prop := lawS6651BWholeRow.holds Ybaf.pinned (OpenSpec.ofChange lawS6651BWholeWrong)

end Rows
end Go.Proofs.YbulkegsiFmt
