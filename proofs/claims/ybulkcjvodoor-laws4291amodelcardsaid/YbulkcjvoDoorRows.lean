/-
  NARROWER THAN 'FOR EVERY INPUT', by the rows' own cells (each row's printed sentence says how): LawS4291AModel: laid · LawS4291AFrame: laid.
  DERIVED. THE GIVEN ROWS OF THIS SEAT. 2 by the template 'for every input the law returns true; each argument reads behind the call as it read before'; 0 by the template 'total and deterministic' (their statements: YbulkcjvoDoorTotals.lean).
  GIVEN WITH THE SEED: the statements are not yours to turn. If you find one false, say at which input.
  Laid BY PROGRAM, IN A SANDBOX (cutbox-rows.mjs): the forced cells as the released guide's own fill.sh prints them over the translation cdc5519eff9c8830… (all of the seat's roots in one cut). By AI agents, Wed Nov 11 2026. No macro, syntax, notation, axiom, sorry.
-/
import Derived.Test.YbulkcjvoDoorChecked
import GoSem.Claim
import GoSem.ClaimJoined
import GoSem.ClaimMapViews
import Derived.JoinedTies
import Derived.KernelRfl
namespace Go.Proofs.YbulkcjvoDoor
/- THE CELL 'sum', in the pinned program and in every row, IS THE sha256 OF THE DUMP (.gsa) THAT YbulkcjvoDoorProg.lean LOADS. Nothing in Lean hashes anything: it is a label: what it is worth is what the hold of that sum in a sandbox is worth. -/
noncomputable def Ybad.pinned : Pinned := { name := "ybulkcjvodoor", sum := "cdc5519eff9c8830429ad440fd96dd9d5dcda245bc39ea7f29f91abcb6f6f26a", checked := Ybad.checked }
namespace Rows
def none {H : Type} : Left H := { results := [], args := [] }

/- WHAT THE LISTED PACKAGE-LEVEL VARIABLES READ AS WHEN THE CALL BEGINS. Each datum BY PROGRAM (the guide's laid-datum.mjs) off the statement by which the dump's own 'gosem.cut.vars' lays the variable. In a bare row this is a premise. The card (YbulkcjvoDoorCards.lean) ties it to the program's text. -/
def laid_io_ErrShortBuffer {H : Type} : DataW H := .iface "*errors.errorString" (.ptr (.agg [.lit (.string [115, 104, 111, 114, 116, 32, 98, 117, 102, 102, 101, 114])]))
def laid_io_EOF {H : Type} : DataW H := .iface "*errors.errorString" (.ptr (.agg [.lit (.string [69, 79, 70])]))
def laid_io_ErrUnexpectedEOF {H : Type} : DataW H := .iface "*errors.errorString" (.ptr (.agg [.lit (.string [117, 110, 101, 120, 112, 101, 99, 116, 101, 100, 32, 69, 79, 70])]))

/-- 'link.LawS4291AModel': WHATEVER THE INPUT: true; the input reads as it did. -/
def lawS4291AModelSpec : ChangeSpec := { name := "lawS4291AModel", fn := fun _ => fun
  | [d1, d2, d3] => { results := [.lit (.bool true)], args := [d1, d2, d3] }
  | _ => none }
def lawS4291AModelRow : OpenClaim := { program := "ybulkcjvodoor", sum := "cdc5519eff9c8830429ad440fd96dd9d5dcda245bc39ea7f29f91abcb6f6f26a", func := "example.com/roamkey/roamkey/link.LawS4291AModel", spec := "lawS4291AModel", unfollowed := true, recurses := true, named := ["io.EOF", "io.ErrUnexpectedEOF", "encoding/binary.BigEndian", "io.ErrShortBuffer"], apart := false, laid := [("io.ErrShortBuffer", laid_io_ErrShortBuffer), ("io.EOF", laid_io_EOF), ("io.ErrUnexpectedEOF", laid_io_ErrUnexpectedEOF)] }
def LawS4291AModelSaid : Prop := lawS4291AModelRow.holds Ybad.pinned (OpenSpec.ofChange lawS4291AModelSpec)

/-- ITS FALSE NEIGHBOUR: 'it returns false'. Refute it at one input. -/
def lawS4291AModelWrong : ChangeSpec := { name := "lawS4291AModel", fn := fun _ => fun
  | [d1, d2, d3] => { results := [.lit (.bool false)], args := [d1, d2, d3] }
  | _ => none }
def LawS4291AModelWrongFalsely : Prop := lawS4291AModelRow.holds Ybad.pinned (OpenSpec.ofChange lawS4291AModelWrong)

/-- 'link.LawS4291AFrame': WHATEVER THE INPUT: true; the input reads as it did. -/
def lawS4291AFrameSpec : ChangeSpec := { name := "lawS4291AFrame", fn := fun _ => fun
  | [d1, d2, d3, d4] => { results := [.lit (.bool true)], args := [d1, d2, d3, d4] }
  | _ => none }
def lawS4291AFrameRow : OpenClaim := { program := "ybulkcjvodoor", sum := "cdc5519eff9c8830429ad440fd96dd9d5dcda245bc39ea7f29f91abcb6f6f26a", func := "example.com/roamkey/roamkey/link.LawS4291AFrame", spec := "lawS4291AFrame", unfollowed := true, recurses := true, named := ["io.EOF", "encoding/binary.BigEndian", "io.ErrShortBuffer", "io.ErrUnexpectedEOF"], apart := false, laid := [("io.ErrShortBuffer", laid_io_ErrShortBuffer), ("io.EOF", laid_io_EOF), ("io.ErrUnexpectedEOF", laid_io_ErrUnexpectedEOF)] }
def LawS4291AFrameSaid : Prop := lawS4291AFrameRow.holds Ybad.pinned (OpenSpec.ofChange lawS4291AFrameSpec)

/-- ITS FALSE NEIGHBOUR: 'it returns false'. Refute it at one input. -/
def lawS4291AFrameWrong : ChangeSpec := { name := "lawS4291AFrame", fn := fun _ => fun
  | [d1, d2, d3, d4] => { results := [.lit (.bool false)], args := [d1, d2, d3, d4] }
  | _ => none }
def LawS4291AFrameWrongFalsely : Prop := lawS4291AFrameRow.holds Ybad.pinned (OpenSpec.ofChange lawS4291AFrameWrong)

end Rows
end Go.Proofs.YbulkcjvoDoor
