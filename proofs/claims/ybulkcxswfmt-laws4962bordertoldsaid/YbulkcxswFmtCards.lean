/-
  DERIVED. GIVEN WITH THE SEED: THE CARDS: each row of YbulkcxswFmtRows.lean that lists a variable, with what it lists TIED to the program's text (the seventh form; the later family's looks); each row that meets fmt, with fmt's text TOLD by the authors' own Lean function (tested against real Go, not proved from fmt's source: count such statements apart). THE CARD IS WHAT COUNTS. Prove the row's statement (the work); the ties are given (YbulkcxswFmtTie.lean); close each card by the builder's one call (the guide's Derived/Test/ToyasCard.lean, 'card_holds'). Laid BY PROGRAM, IN A SANDBOX (cutbox-door.mjs). By AI agents, Wed Nov 11 2026. No macro, syntax, notation, axiom, sorry.
-/
import Derived.Test.YbulkcxswFmtRows
import GoSem.ClaimSeven
namespace Go.Proofs.YbulkcxswFmt
namespace Rows

/-- THE TOLD AND TIED CARD OF 'template.LawS4962BOrder'. -/
def lawS4962BOrderCard : Claim7 := { stood := { row := lawS4962BOrderRow, standIns := [], harness := (true, "da8b52ff1a27c39678bc72839b4b5a94ae9f4d93b7c46bd878af3fe55530fc3e"), looks := true }, told := true, laidByText := true, laidKinds := [.sentinel], laidTests := true, laidLooks := .later, goes := false }
def LawS4962BOrderToldSaid : Prop := Claim7.holds Ybaf.pinned (.plain (OpenSpec.ofChange lawS4962BOrderSpec)) lawS4962BOrderCard
/-- ITS FALSE NEIGHBOUR. Refute it at one input. -/
def LawS4962BOrderToldWrongFalsely : Prop := Claim7.holds Ybaf.pinned (.plain (OpenSpec.ofChange lawS4962BOrderWrong)) lawS4962BOrderCard
end Rows
end Go.Proofs.YbulkcxswFmt
