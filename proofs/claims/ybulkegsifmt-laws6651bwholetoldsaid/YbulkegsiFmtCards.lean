/-
  DERIVED. GIVEN WITH THE SEED: THE CARDS: each row of YbulkegsiFmtRows.lean that lists a variable, with what it lists TIED to the program's text (the seventh form; the later family's looks); each row that meets fmt, with fmt's text TOLD by the authors' own Lean function (tested against real Go, not proved from fmt's source: count such statements apart). THE CARD IS WHAT COUNTS. Prove the row's statement (the work); the ties are given (YbulkegsiFmtTie.lean); close each card by the builder's one call (the guide's Derived/Test/ToyasCard.lean, 'card_holds'). Laid BY PROGRAM, IN A SANDBOX (cutbox-door.mjs). By AI agents, Wed Nov 11 2026. No macro, syntax, notation, axiom, sorry.
-/
import Derived.Test.YbulkegsiFmtRows
import GoSem.ClaimSeven
namespace Go.Proofs.YbulkegsiFmt
namespace Rows

/-- THE TOLD CARD OF 'der.LawS6651APart'. -/
def lawS6651APartCard : Claim7 := { stood := { row := lawS6651APartRow, standIns := [], harness := (true, "5c7a6d12e8b5596aa63f75288476a1f44bb4b8de395b6fcc89372aa650ef49b1"), looks := false }, told := true, goes := false }
def LawS6651APartToldSaid : Prop := Claim7.holds Ybaf.pinned (.plain (OpenSpec.ofChange lawS6651APartSpec)) lawS6651APartCard
/-- ITS FALSE NEIGHBOUR. Refute it at one input. -/
def LawS6651APartToldWrongFalsely : Prop := Claim7.holds Ybaf.pinned (.plain (OpenSpec.ofChange lawS6651APartWrong)) lawS6651APartCard

/-- THE TOLD CARD OF 'der.LawS6651BWhole'. -/
def lawS6651BWholeCard : Claim7 := { stood := { row := lawS6651BWholeRow, standIns := [], harness := (true, "5c7a6d12e8b5596aa63f75288476a1f44bb4b8de395b6fcc89372aa650ef49b1"), looks := false }, told := true, goes := false }
def LawS6651BWholeToldSaid : Prop := Claim7.holds Ybaf.pinned (.plain (OpenSpec.ofChange lawS6651BWholeSpec)) lawS6651BWholeCard
/-- ITS FALSE NEIGHBOUR. Refute it at one input. -/
def LawS6651BWholeToldWrongFalsely : Prop := Claim7.holds Ybaf.pinned (.plain (OpenSpec.ofChange lawS6651BWholeWrong)) lawS6651BWholeCard
end Rows
end Go.Proofs.YbulkegsiFmt
