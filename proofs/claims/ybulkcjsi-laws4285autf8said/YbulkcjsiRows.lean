/-
  No cell of these rows narrows 'for every input' (looked for: loops, veiled, ifaces, maps, wideKeys, modest, calm, conditions, laid).
  DERIVED. THE GIVEN ROWS OF THIS SEAT. 3 by the template 'for every input the law returns true; each argument reads behind the call as it read before'; 0 by the template 'total and deterministic' (their statements: YbulkcjsiTotals.lean).
  GIVEN WITH THE SEED: the statements are not yours to turn. If you find one false, say at which input.
  Laid BY PROGRAM, IN A SANDBOX (cutbox-rows.mjs): the forced cells as the released guide's own fill.sh prints them over the translation 4c64127502e81d4b… (all of the seat's roots in one cut). By AI agents, Wed Nov 11 2026. No macro, syntax, notation, axiom, sorry.
-/
import Derived.Test.YbulkcjsiChecked
import GoSem.Claim
import GoSem.ClaimJoined
import GoSem.ClaimMapViews
import Derived.JoinedTies
import Derived.KernelRfl
namespace Go.Proofs.Ybulkcjsi
/- THE CELL 'sum', in the pinned program and in every row, IS THE sha256 OF THE DUMP (.gsa) THAT YbulkcjsiProg.lean LOADS. Nothing in Lean hashes anything: it is a label: what it is worth is what the hold of that sum in a sandbox is worth. -/
noncomputable def Yba.pinned : Pinned := { name := "ybulkcjsi", sum := "4c64127502e81d4beb1965fb562f77d04209339efd66969fa6b5adb0e8542014", checked := Yba.checked }
namespace Rows
def none {H : Type} : Left H := { results := [], args := [] }

/-- 'plist.LawS4285AUTF8': WHATEVER THE INPUT: true; the input reads as it did. -/
def lawS4285AUTF8Spec : ChangeSpec := { name := "lawS4285AUTF8", fn := fun _ => fun
  | [d1, d2, d3, d4] => { results := [.lit (.bool true)], args := [d1, d2, d3, d4] }
  | _ => none }
def lawS4285AUTF8Row : OpenClaim := { program := "ybulkcjsi", sum := "4c64127502e81d4beb1965fb562f77d04209339efd66969fa6b5adb0e8542014", func := "example.com/preboot/preboot/internal/plist.LawS4285AUTF8", spec := "lawS4285AUTF8", apart := false }
def LawS4285AUTF8Said : Prop := lawS4285AUTF8Row.holds Yba.pinned (OpenSpec.ofChange lawS4285AUTF8Spec)

/-- ITS FALSE NEIGHBOUR: 'it returns false'. Refute it at one input. -/
def lawS4285AUTF8Wrong : ChangeSpec := { name := "lawS4285AUTF8", fn := fun _ => fun
  | [d1, d2, d3, d4] => { results := [.lit (.bool false)], args := [d1, d2, d3, d4] }
  | _ => none }
def LawS4285AUTF8WrongFalsely : Prop := lawS4285AUTF8Row.holds Yba.pinned (OpenSpec.ofChange lawS4285AUTF8Wrong)

/-- 'plist.LawS4285ALatin1': WHATEVER THE INPUT: true; the input reads as it did. -/
def lawS4285ALatin1Spec : ChangeSpec := { name := "lawS4285ALatin1", fn := fun _ => fun
  | [d1, d2, d3, d4] => { results := [.lit (.bool true)], args := [d1, d2, d3, d4] }
  | _ => none }
def lawS4285ALatin1Row : OpenClaim := { program := "ybulkcjsi", sum := "4c64127502e81d4beb1965fb562f77d04209339efd66969fa6b5adb0e8542014", func := "example.com/preboot/preboot/internal/plist.LawS4285ALatin1", spec := "lawS4285ALatin1", apart := false }
def LawS4285ALatin1Said : Prop := lawS4285ALatin1Row.holds Yba.pinned (OpenSpec.ofChange lawS4285ALatin1Spec)

/-- ITS FALSE NEIGHBOUR: 'it returns false'. Refute it at one input. -/
def lawS4285ALatin1Wrong : ChangeSpec := { name := "lawS4285ALatin1", fn := fun _ => fun
  | [d1, d2, d3, d4] => { results := [.lit (.bool false)], args := [d1, d2, d3, d4] }
  | _ => none }
def LawS4285ALatin1WrongFalsely : Prop := lawS4285ALatin1Row.holds Yba.pinned (OpenSpec.ofChange lawS4285ALatin1Wrong)

/-- 'plist.LawS4285BPlace': WHATEVER THE INPUT: true; the input reads as it did. -/
def lawS4285BPlaceSpec : ChangeSpec := { name := "lawS4285BPlace", fn := fun _ => fun
  | [d1, d2, d3, d4, d5, d6] => { results := [.lit (.bool true)], args := [d1, d2, d3, d4, d5, d6] }
  | _ => none }
def lawS4285BPlaceRow : OpenClaim := { program := "ybulkcjsi", sum := "4c64127502e81d4beb1965fb562f77d04209339efd66969fa6b5adb0e8542014", func := "example.com/preboot/preboot/internal/plist.LawS4285BPlace", spec := "lawS4285BPlace", inPlace := ["internal/bytealg.Count", "internal/bytealg.IndexByte", "internal/bytealg.Index"], named := ["internal/bytealg.MaxLen"], apart := false }
def LawS4285BPlaceSaid : Prop := lawS4285BPlaceRow.holds Yba.pinned (OpenSpec.ofChange lawS4285BPlaceSpec)

/-- ITS FALSE NEIGHBOUR: 'it returns false'. Refute it at one input. -/
def lawS4285BPlaceWrong : ChangeSpec := { name := "lawS4285BPlace", fn := fun _ => fun
  | [d1, d2, d3, d4, d5, d6] => { results := [.lit (.bool false)], args := [d1, d2, d3, d4, d5, d6] }
  | _ => none }
def LawS4285BPlaceWrongFalsely : Prop := lawS4285BPlaceRow.holds Yba.pinned (OpenSpec.ofChange lawS4285BPlaceWrong)

end Rows
end Go.Proofs.Ybulkcjsi
