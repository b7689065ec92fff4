/-
  No cell of these rows narrows 'for every input' (looked for: loops, veiled, ifaces, maps, wideKeys, modest, calm, conditions, laid).
  DERIVED. THE GIVEN ROWS OF THIS SEAT. 4 by the template 'for every input the law returns true; each argument reads behind the call as it read before'; 0 by the template 'total and deterministic' (their statements: YbulkcxqeTotals.lean).
  GIVEN WITH THE SEED: the statements are not yours to turn. If you find one false, say at which input.
  Laid BY PROGRAM, IN A SANDBOX (cutbox-rows.mjs): the forced cells as the released guide's own fill.sh prints them over the translation 3b93b091620f3f6d… (all of the seat's roots in one cut). By AI agents, Wed Nov 11 2026. No macro, syntax, notation, axiom, sorry.
-/
import Derived.Test.YbulkcxqeChecked
import GoSem.Claim
import GoSem.ClaimJoined
import GoSem.ClaimMapViews
import Derived.JoinedTies
import Derived.KernelRfl
namespace Go.Proofs.Ybulkcxqe
/- THE CELL 'sum', in the pinned program and in every row, IS THE sha256 OF THE DUMP (.gsa) THAT YbulkcxqeProg.lean LOADS. Nothing in Lean hashes anything: it is a label: what it is worth is what the hold of that sum in a sandbox is worth. -/
noncomputable def Yba.pinned : Pinned := { name := "ybulkcxqe", sum := "3b93b091620f3f6d6b707cc4a1152d75fe11ad72672e83fafa149b941846f364", checked := Yba.checked }
namespace Rows
def none {H : Type} : Left H := { results := [], args := [] }

/-- 'ballotwheel.LawS4957AOrder': WHATEVER THE INPUT: true; the input reads as it did. -/
def lawS4957AOrderSpec : ChangeSpec := { name := "lawS4957AOrder", fn := fun _ => fun
  | [d] => { results := [.lit (.bool true)], args := [d] }
  | _ => none }
def lawS4957AOrderRow : OpenClaim := { program := "ybulkcxqe", sum := "3b93b091620f3f6d6b707cc4a1152d75fe11ad72672e83fafa149b941846f364", func := "example.com/ballotwheel/ballotwheel.LawS4957AOrder", spec := "lawS4957AOrder", apart := false }
def LawS4957AOrderSaid : Prop := lawS4957AOrderRow.holds Yba.pinned (OpenSpec.ofChange lawS4957AOrderSpec)

/-- ITS FALSE NEIGHBOUR: 'it returns false'. Refute it at one input. -/
def lawS4957AOrderWrong : ChangeSpec := { name := "lawS4957AOrder", fn := fun _ => fun
  | [d] => { results := [.lit (.bool false)], args := [d] }
  | _ => none }
def LawS4957AOrderWrongFalsely : Prop := lawS4957AOrderRow.holds Yba.pinned (OpenSpec.ofChange lawS4957AOrderWrong)

/-- 'ballotwheel.LawS4957AScale': WHATEVER THE INPUT: true; the input reads as it did. -/
def lawS4957AScaleSpec : ChangeSpec := { name := "lawS4957AScale", fn := fun _ => fun
  | [d] => { results := [.lit (.bool true)], args := [d] }
  | _ => none }
def lawS4957AScaleRow : OpenClaim := { program := "ybulkcxqe", sum := "3b93b091620f3f6d6b707cc4a1152d75fe11ad72672e83fafa149b941846f364", func := "example.com/ballotwheel/ballotwheel.LawS4957AScale", spec := "lawS4957AScale", apart := false }
def LawS4957AScaleSaid : Prop := lawS4957AScaleRow.holds Yba.pinned (OpenSpec.ofChange lawS4957AScaleSpec)

/-- ITS FALSE NEIGHBOUR: 'it returns false'. Refute it at one input. -/
def lawS4957AScaleWrong : ChangeSpec := { name := "lawS4957AScale", fn := fun _ => fun
  | [d] => { results := [.lit (.bool false)], args := [d] }
  | _ => none }
def LawS4957AScaleWrongFalsely : Prop := lawS4957AScaleRow.holds Yba.pinned (OpenSpec.ofChange lawS4957AScaleWrong)

/-- 'ballotwheel.LawS4957CExact': WHATEVER THE INPUT: true; the input reads as it did. -/
def lawS4957CExactSpec : ChangeSpec := { name := "lawS4957CExact", fn := fun _ => fun
  | [d1, d2] => { results := [.lit (.bool true)], args := [d1, d2] }
  | _ => none }
def lawS4957CExactRow : OpenClaim := { program := "ybulkcxqe", sum := "3b93b091620f3f6d6b707cc4a1152d75fe11ad72672e83fafa149b941846f364", func := "example.com/ballotwheel/ballotwheel.LawS4957CExact", spec := "lawS4957CExact", apart := false }
def LawS4957CExactSaid : Prop := lawS4957CExactRow.holds Yba.pinned (OpenSpec.ofChange lawS4957CExactSpec)

/-- ITS FALSE NEIGHBOUR: 'it returns false'. Refute it at one input. -/
def lawS4957CExactWrong : ChangeSpec := { name := "lawS4957CExact", fn := fun _ => fun
  | [d1, d2] => { results := [.lit (.bool false)], args := [d1, d2] }
  | _ => none }
def LawS4957CExactWrongFalsely : Prop := lawS4957CExactRow.holds Yba.pinned (OpenSpec.ofChange lawS4957CExactWrong)

/-- 'ballotwheel.LawS4957CRoundTrip': WHATEVER THE INPUT: true; the input reads as it did. -/
def lawS4957CRoundTripSpec : ChangeSpec := { name := "lawS4957CRoundTrip", fn := fun _ => fun
  | [d1, d2] => { results := [.lit (.bool true)], args := [d1, d2] }
  | _ => none }
def lawS4957CRoundTripRow : OpenClaim := { program := "ybulkcxqe", sum := "3b93b091620f3f6d6b707cc4a1152d75fe11ad72672e83fafa149b941846f364", func := "example.com/ballotwheel/ballotwheel.LawS4957CRoundTrip", spec := "lawS4957CRoundTrip", apart := false }
def LawS4957CRoundTripSaid : Prop := lawS4957CRoundTripRow.holds Yba.pinned (OpenSpec.ofChange lawS4957CRoundTripSpec)

/-- ITS FALSE NEIGHBOUR: 'it returns false'. Refute it at one input. -/
def lawS4957CRoundTripWrong : ChangeSpec := { name := "lawS4957CRoundTrip", fn := fun _ => fun
  | [d1, d2] => { results := [.lit (.bool false)], args := [d1, d2] }
  | _ => none }
def LawS4957CRoundTripWrongFalsely : Prop := lawS4957CRoundTripRow.holds Yba.pinned (OpenSpec.ofChange lawS4957CRoundTripWrong)

end Rows
end Go.Proofs.Ybulkcxqe
