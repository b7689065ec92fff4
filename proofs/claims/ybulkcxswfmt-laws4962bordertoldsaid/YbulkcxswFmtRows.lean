/-
  NARROWER THAN 'FOR EVERY INPUT', by the rows' own cells (each row's printed sentence says how): LawS4962BOrder: ifaces, laid.
  DERIVED. THE GIVEN ROWS OF THIS SEAT. 1 by the template 'for every input the law returns true; each argument reads behind the call as it read before'; 0 by the template 'total and deterministic' (their statements: YbulkcxswFmtTotals.lean).
  GIVEN WITH THE SEED: the statements are not yours to turn. If you find one false, say at which input.
  Laid BY PROGRAM, IN A SANDBOX (cutbox-rows.mjs): the forced cells as the released guide's own fill.sh prints them over the translation 8084e7f5b7c73555… (all of the seat's roots in one cut). By AI agents, Wed Nov 11 2026. No macro, syntax, notation, axiom, sorry.
-/
import Derived.Test.YbulkcxswFmtChecked
import GoSem.Claim
import GoSem.ClaimJoined
import GoSem.ClaimMapViews
import Derived.JoinedTies
import Derived.KernelRfl
namespace Go.Proofs.YbulkcxswFmt
/- THE CELL 'sum', in the pinned program and in every row, IS THE sha256 OF THE DUMP (.gsa) THAT YbulkcxswFmtProg.lean LOADS. Nothing in Lean hashes anything: it is a label: what it is worth is what the hold of that sum in a sandbox is worth. -/
noncomputable def Ybaf.pinned : Pinned := { name := "ybulkcxswfmt", sum := "8084e7f5b7c73555ea3bbbb06720e0f3a136e284ffe562d6a75e84cfec8908bf", checked := Ybaf.checked }
namespace Rows
def none {H : Type} : Left H := { results := [], args := [] }

/- WHAT THE LISTED PACKAGE-LEVEL VARIABLES READ AS WHEN THE CALL BEGINS. Each datum BY PROGRAM (the guide's laid-datum.mjs) off the statement by which the dump's own 'gosem.cut.vars' lays the variable. In a bare row this is a premise. The card (YbulkcxswFmtCards.lean) ties it to the program's text. -/
def laid_example_com_stackwright_stackwright_internal_template_ErrCycle {H : Type} : DataW H := .iface "*errors.errorString" (.ptr (.agg [.lit (.string [100, 101, 112, 101, 110, 100, 101, 110, 99, 121, 32, 99, 121, 99, 108, 101])]))

/-- 'template.LawS4962BOrder': WHATEVER THE INPUT: true; the input reads as it did. -/
def lawS4962BOrderSpec : ChangeSpec := { name := "lawS4962BOrder", vars := ["example.com/stackwright/stackwright/internal/template.ErrCycle"], fn := fun _ => fun
  | [d, g1] => { results := [.lit (.bool true)], args := [d], vars := [g1] }
  | _ => none }
def lawS4962BOrderRow : OpenClaim := { program := "ybulkcxswfmt", sum := "8084e7f5b7c73555ea3bbbb06720e0f3a136e284ffe562d6a75e84cfec8908bf", func := "example.com/stackwright/stackwright/internal/template.LawS4962BOrder", spec := "lawS4962BOrder", stops := ["fmt.errorf"], inPlace := ["internal/abi.NoEscape", "internal/bytealg.MakeNoZero", "fmt.errorf", "internal/reflectlite.TypeOf"], unfollowed := true, recurses := true, named := ["example.com/stackwright/stackwright/internal/template.ErrCycle"], ifaces := true, apart := false, laid := [("example.com/stackwright/stackwright/internal/template.ErrCycle", laid_example_com_stackwright_stackwright_internal_template_ErrCycle)] }
/-- NO THEOREM (fmt's text is open here; it may be false): for the released tool's asking of the row's closed facts alone. THE STATEMENT IS 'LawS4962BOrderToldSaid' (YbulkcxswFmtCards.lean). -/
def LawS4962BOrderFormAsk : Prop := lawS4962BOrderRow.holds Ybaf.pinned (OpenSpec.ofChange lawS4962BOrderSpec)

/-- ITS FALSE NEIGHBOUR: 'it returns false'. Refute it at one input. -/
def lawS4962BOrderWrong : ChangeSpec := { name := "lawS4962BOrder", vars := ["example.com/stackwright/stackwright/internal/template.ErrCycle"], fn := fun _ => fun
  | [d, g1] => { results := [.lit (.bool false)], args := [d], vars := [g1] }
  | _ => none }
def LawS4962BOrderWrongFormAsk : Prop := lawS4962BOrderRow.holds Ybaf.pinned (OpenSpec.ofChange lawS4962BOrderWrong)

end Rows
end Go.Proofs.YbulkcxswFmt
