/-
  No cell of these rows narrows 'for every input' (looked for: loops, veiled, ifaces, maps, wideKeys, modest, calm, conditions, laid).
  DERIVED. THE GIVEN ROWS OF THIS SEAT. 1 by the template 'for every input the law returns true; each argument reads behind the call as it read before'; 0 by the template 'total and deterministic' (their statements: YbulkcxumTotals.lean).
  GIVEN WITH THE SEED: the statements are not yours to turn. If you find one false, say at which input.
  Laid BY PROGRAM, IN A SANDBOX (cutbox-rows.mjs): the forced cells as the released guide's own fill.sh prints them over the translation 567ac3ea959fcc0e… (all of the seat's roots in one cut). By AI agents, Wed Nov 11 2026. No macro, syntax, notation, axiom, sorry.
-/
import Derived.Test.YbulkcxumChecked
import GoSem.Claim
import GoSem.ClaimJoined
import GoSem.ClaimMapViews
import Derived.JoinedTies
import Derived.KernelRfl
namespace Go.Proofs.Ybulkcxum
/- THE CELL 'sum', in the pinned program and in every row, IS THE sha256 OF THE DUMP (.gsa) THAT YbulkcxumProg.lean LOADS. Nothing in Lean hashes anything: it is a label: what it is worth is what the hold of that sum in a sandbox is worth. -/
noncomputable def Yba.pinned : Pinned := { name := "ybulkcxum", sum := "567ac3ea959fcc0eb36992a5568cac976fc28a9c34db77d32c69b110ac34e952", checked := Yba.checked }
namespace Rows
def none {H : Type} : Left H := { results := [], args := [] }

/-- 'check.LawS4965CTable': WHATEVER THE INPUT: true; the input reads as it did. -/
def lawS4965CTableSpec : ChangeSpec := { name := "lawS4965CTable", fn := fun _ => fun
  | [d1, d2, d3, d4] => { results := [.lit (.bool true)], args := [d1, d2, d3, d4] }
  | _ => none }
def lawS4965CTableRow : OpenClaim := { program := "ybulkcxum", sum := "567ac3ea959fcc0eb36992a5568cac976fc28a9c34db77d32c69b110ac34e952", func := "example.com/mortise/mortise/internal/check.LawS4965CTable", spec := "lawS4965CTable", apart := false }
def LawS4965CTableSaid : Prop := lawS4965CTableRow.holds Yba.pinned (OpenSpec.ofChange lawS4965CTableSpec)

/-- ITS FALSE NEIGHBOUR: 'it returns false'. Refute it at one input. -/
def lawS4965CTableWrong : ChangeSpec := { name := "lawS4965CTable", fn := fun _ => fun
  | [d1, d2, d3, d4] => { results := [.lit (.bool false)], args := [d1, d2, d3, d4] }
  | _ => none }
def LawS4965CTableWrongFalsely : Prop := lawS4965CTableRow.holds Yba.pinned (OpenSpec.ofChange lawS4965CTableWrong)

end Rows
end Go.Proofs.Ybulkcxum
