/-
  DERIVED. GIVEN WITH THE SEED: THE CARDS: each row of YbulkcxpqFmtRows.lean that lists a variable, with what it lists TIED to the program's text (the seventh form; the later family's looks); each row that meets fmt, with fmt's text TOLD by the authors' own Lean function (tested against real Go, not proved from fmt's source: count such statements apart). THE CARD IS WHAT COUNTS. Prove the row's statement (the work); the ties are given (YbulkcxpqFmtTie.lean); close each card by the builder's one call (the guide's Derived/Test/ToyasCard.lean, 'card_holds'). Laid BY PROGRAM, IN A SANDBOX (cutbox-door.mjs). By AI agents, Wed Nov 11 2026. No macro, syntax, notation, axiom, sorry.
-/
import Derived.Test.YbulkcxpqFmtRows
import GoSem.ClaimSeven
namespace Go.Proofs.YbulkcxpqFmt
namespace Rows

/-- THE TOLD AND TIED CARD OF 'node.LawS4956CRoundTrip'. -/
def lawS4956CRoundTripCard : Claim7 := { stood := { row := lawS4956CRoundTripRow, standIns := [], harness := (true, "99f4e57273d2981e4f10cc29936094fc086b3fbf803a881196da3c858d681e76"), looks := true }, told := true, laidByText := true, laidKinds := [.sentinel, .sentinel, .sentinel], laidTests := true, laidLooks := .later, goes := false }
def LawS4956CRoundTripToldSaid : Prop := Claim7.holds Ybaf.pinned (.plain (OpenSpec.ofChange lawS4956CRoundTripSpec)) lawS4956CRoundTripCard
/-- ITS FALSE NEIGHBOUR. Refute it at one input. -/
def LawS4956CRoundTripToldWrongFalsely : Prop := Claim7.holds Ybaf.pinned (.plain (OpenSpec.ofChange lawS4956CRoundTripWrong)) lawS4956CRoundTripCard

/-- THE TOLD AND TIED CARD OF 'node.LawS4956CModel'. -/
def lawS4956CModelCard : Claim7 := { stood := { row := lawS4956CModelRow, standIns := [], harness := (true, "99f4e57273d2981e4f10cc29936094fc086b3fbf803a881196da3c858d681e76"), looks := true }, told := true, laidByText := true, laidKinds := [.sentinel, .sentinel, .sentinel], laidTests := true, laidLooks := .later, goes := false }
def LawS4956CModelToldSaid : Prop := Claim7.holds Ybaf.pinned (.plain (OpenSpec.ofChange lawS4956CModelSpec)) lawS4956CModelCard
/-- ITS FALSE NEIGHBOUR. Refute it at one input. -/
def LawS4956CModelToldWrongFalsely : Prop := Claim7.holds Ybaf.pinned (.plain (OpenSpec.ofChange lawS4956CModelWrong)) lawS4956CModelCard
end Rows
end Go.Proofs.YbulkcxpqFmt
