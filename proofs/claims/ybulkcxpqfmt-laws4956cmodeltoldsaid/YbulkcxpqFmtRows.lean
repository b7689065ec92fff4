/-
  NARROWER THAN 'FOR EVERY INPUT', by the rows' own cells (each row's printed sentence says how): LawS4956CRoundTrip: laid · LawS4956CModel: laid.
  DERIVED. THE GIVEN ROWS OF THIS SEAT. 2 by the template 'for every input the law returns true; each argument reads behind the call as it read before'; 0 by the template 'total and deterministic' (their statements: YbulkcxpqFmtTotals.lean).
  GIVEN WITH THE SEED: the statements are not yours to turn. If you find one false, say at which input.
  Laid BY PROGRAM, IN A SANDBOX (cutbox-rows.mjs): the forced cells as the released guide's own fill.sh prints them over the translation 6c12ba865c331f35… (all of the seat's roots in one cut). By AI agents, Wed Nov 11 2026. No macro, syntax, notation, axiom, sorry.
-/
import Derived.Test.YbulkcxpqFmtChecked
import GoSem.Claim
import GoSem.ClaimJoined
import GoSem.ClaimMapViews
import Derived.JoinedTies
import Derived.KernelRfl
namespace Go.Proofs.YbulkcxpqFmt
/- THE CELL 'sum', in the pinned program and in every row, IS THE sha256 OF THE DUMP (.gsa) THAT YbulkcxpqFmtProg.lean LOADS. Nothing in Lean hashes anything: it is a label: what it is worth is what the hold of that sum in a sandbox is worth. -/
noncomputable def Ybaf.pinned : Pinned := { name := "ybulkcxpqfmt", sum := "6c12ba865c331f35ee653fa8fa3ad2435a3577c6435e32ffd7c78d2103a56df3", checked := Ybaf.checked }
namespace Rows
def none {H : Type} : Left H := { results := [], args := [] }

/- WHAT THE LISTED PACKAGE-LEVEL VARIABLES READ AS WHEN THE CALL BEGINS. Each datum BY PROGRAM (the guide's laid-datum.mjs) off the statement by which the dump's own 'gosem.cut.vars' lays the variable. In a bare row this is a premise. The card (YbulkcxpqFmtCards.lean) ties it to the program's text. -/
def laid_io_ErrShortBuffer {H : Type} : DataW H := .iface "*errors.errorString" (.ptr (.agg [.lit (.string [115, 104, 111, 114, 116, 32, 98, 117, 102, 102, 101, 114])]))
def laid_io_EOF {H : Type} : DataW H := .iface "*errors.errorString" (.ptr (.agg [.lit (.string [69, 79, 70])]))
def laid_io_ErrUnexpectedEOF {H : Type} : DataW H := .iface "*errors.errorString" (.ptr (.agg [.lit (.string [117, 110, 101, 120, 112, 101, 99, 116, 101, 100, 32, 69, 79, 70])]))

/-- 'node.LawS4956CRoundTrip': WHATEVER THE INPUT: true; the input reads as it did. -/
def lawS4956CRoundTripSpec : ChangeSpec := { name := "lawS4956CRoundTrip", fn := fun _ => fun
  | [d1, d2] => { results := [.lit (.bool true)], args := [d1, d2] }
  | _ => none }
def lawS4956CRoundTripRow : OpenClaim := { program := "ybulkcxpqfmt", sum := "6c12ba865c331f35ee653fa8fa3ad2435a3577c6435e32ffd7c78d2103a56df3", func := "example.com/graupel/graupel/node.LawS4956CRoundTrip", spec := "lawS4956CRoundTrip", stops := ["fmt.errorf"], inPlace := ["fmt.errorf"], unfollowed := true, recurses := true, named := ["encoding/binary.BigEndian", "io.ErrShortBuffer", "io.EOF", "io.ErrUnexpectedEOF"], apart := false, laid := [("io.ErrShortBuffer", laid_io_ErrShortBuffer), ("io.EOF", laid_io_EOF), ("io.ErrUnexpectedEOF", laid_io_ErrUnexpectedEOF)] }
/-- NO THEOREM (fmt's text is open here; it may be false): for the released tool's asking of the row's closed facts alone. THE STATEMENT IS 'LawS4956CRoundTripToldSaid' (YbulkcxpqFmtCards.lean). -/
def LawS4956CRoundTripFormAsk : Prop := lawS4956CRoundTripRow.holds Ybaf.pinned (OpenSpec.ofChange lawS4956CRoundTripSpec)

/-- ITS FALSE NEIGHBOUR: 'it returns false'. Refute it at one input. -/
def lawS4956CRoundTripWrong : ChangeSpec := { name := "lawS4956CRoundTrip", fn := fun _ => fun
  | [d1, d2] => { results := [.lit (.bool false)], args := [d1, d2] }
  | _ => none }
def LawS4956CRoundTripWrongFormAsk : Prop := lawS4956CRoundTripRow.holds Ybaf.pinned (OpenSpec.ofChange lawS4956CRoundTripWrong)

/-- 'node.LawS4956CModel': WHATEVER THE INPUT: true; the input reads as it did. -/
def lawS4956CModelSpec : ChangeSpec := { name := "lawS4956CModel", fn := fun _ => fun
  | [d] => { results := [.lit (.bool true)], args := [d] }
  | _ => none }
def lawS4956CModelRow : OpenClaim := { program := "ybulkcxpqfmt", sum := "6c12ba865c331f35ee653fa8fa3ad2435a3577c6435e32ffd7c78d2103a56df3", func := "example.com/graupel/graupel/node.LawS4956CModel", spec := "lawS4956CModel", stops := ["fmt.errorf"], inPlace := ["fmt.errorf"], unfollowed := true, recurses := true, named := ["encoding/binary.BigEndian", "io.ErrShortBuffer", "io.EOF", "io.ErrUnexpectedEOF"], apart := false, laid := [("io.ErrShortBuffer", laid_io_ErrShortBuffer), ("io.EOF", laid_io_EOF), ("io.ErrUnexpectedEOF", laid_io_ErrUnexpectedEOF)] }
/-- NO THEOREM (fmt's text is open here; it may be false): for the released tool's asking of the row's closed facts alone. THE STATEMENT IS 'LawS4956CModelToldSaid' (YbulkcxpqFmtCards.lean). -/
def LawS4956CModelFormAsk : Prop := lawS4956CModelRow.holds Ybaf.pinned (OpenSpec.ofChange lawS4956CModelSpec)

/-- ITS FALSE NEIGHBOUR: 'it returns false'. Refute it at one input. -/
def lawS4956CModelWrong : ChangeSpec := { name := "lawS4956CModel", fn := fun _ => fun
  | [d] => { results := [.lit (.bool false)], args := [d] }
  | _ => none }
def LawS4956CModelWrongFormAsk : Prop := lawS4956CModelRow.holds Ybaf.pinned (OpenSpec.ofChange lawS4956CModelWrong)

end Rows
end Go.Proofs.YbulkcxpqFmt
