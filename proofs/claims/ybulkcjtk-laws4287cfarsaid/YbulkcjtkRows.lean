/-
  No cell of these rows narrows 'for every input' (looked for: loops, veiled, ifaces, maps, wideKeys, modest, calm, conditions, laid).
  DERIVED. THE GIVEN ROWS OF THIS SEAT. 2 by the template 'for every input the law returns true; each argument reads behind the call as it read before'; 0 by the template 'total and deterministic' (their statements: YbulkcjtkTotals.lean).
  GIVEN WITH THE SEED: the statements are not yours to turn. If you find one false, say at which input.
  Laid BY PROGRAM, IN A SANDBOX (cutbox-rows.mjs): the forced cells as the released guide's own fill.sh prints them over the translation 5011ea663dc81e7c… (all of the seat's roots in one cut). By AI agents, Wed Nov 11 2026. No macro, syntax, notation, axiom, sorry.
-/
import Derived.Test.YbulkcjtkChecked
import GoSem.Claim
import GoSem.ClaimJoined
import GoSem.ClaimMapViews
import Derived.JoinedTies
import Derived.KernelRfl
namespace Go.Proofs.Ybulkcjtk
/- THE CELL 'sum', in the pinned program and in every row, IS THE sha256 OF THE DUMP (.gsa) THAT YbulkcjtkProg.lean LOADS. Nothing in Lean hashes anything: it is a label: what it is worth is what the hold of that sum in a sandbox is worth. -/
noncomputable def Yba.pinned : Pinned := { name := "ybulkcjtk", sum := "5011ea663dc81e7ce7902b86c2af05d3390b33519a0ee5fc37df6801224b2bfe", checked := Yba.checked }
namespace Rows
def none {H : Type} : Left H := { results := [], args := [] }

/-- 'grid.LawS4287CNear': WHATEVER THE INPUT: true; the input reads as it did. -/
def lawS4287CNearSpec : ChangeSpec := { name := "lawS4287CNear", fn := fun _ => fun
  | [d1, d2, d3] => { results := [.lit (.bool true)], args := [d1, d2, d3] }
  | _ => none }
def lawS4287CNearRow : OpenClaim := { program := "ybulkcjtk", sum := "5011ea663dc81e7ce7902b86c2af05d3390b33519a0ee5fc37df6801224b2bfe", func := "example.com/pulse60/pulse60/internal/grid.LawS4287CNear", spec := "lawS4287CNear", inPlace := ["math/bits.Add64", "math/bits.Sub64"], named := ["math/bits.divideError", "math/bits.overflowError"], apart := false }
def LawS4287CNearSaid : Prop := lawS4287CNearRow.holds Yba.pinned (OpenSpec.ofChange lawS4287CNearSpec)

/-- ITS FALSE NEIGHBOUR: 'it returns false'. Refute it at one input. -/
def lawS4287CNearWrong : ChangeSpec := { name := "lawS4287CNear", fn := fun _ => fun
  | [d1, d2, d3] => { results := [.lit (.bool false)], args := [d1, d2, d3] }
  | _ => none }
def LawS4287CNearWrongFalsely : Prop := lawS4287CNearRow.holds Yba.pinned (OpenSpec.ofChange lawS4287CNearWrong)

/-- 'grid.LawS4287CFar': WHATEVER THE INPUT: true; the input reads as it did. -/
def lawS4287CFarSpec : ChangeSpec := { name := "lawS4287CFar", fn := fun _ => fun
  | [d1, d2, d3, d4, d5, d6] => { results := [.lit (.bool true)], args := [d1, d2, d3, d4, d5, d6] }
  | _ => none }
def lawS4287CFarRow : OpenClaim := { program := "ybulkcjtk", sum := "5011ea663dc81e7ce7902b86c2af05d3390b33519a0ee5fc37df6801224b2bfe", func := "example.com/pulse60/pulse60/internal/grid.LawS4287CFar", spec := "lawS4287CFar", inPlace := ["math/bits.Add64", "math/bits.Sub64"], named := ["math/bits.divideError", "math/bits.overflowError"], apart := false }
def LawS4287CFarSaid : Prop := lawS4287CFarRow.holds Yba.pinned (OpenSpec.ofChange lawS4287CFarSpec)

/-- ITS FALSE NEIGHBOUR: 'it returns false'. Refute it at one input. -/
def lawS4287CFarWrong : ChangeSpec := { name := "lawS4287CFar", fn := fun _ => fun
  | [d1, d2, d3, d4, d5, d6] => { results := [.lit (.bool false)], args := [d1, d2, d3, d4, d5, d6] }
  | _ => none }
def LawS4287CFarWrongFalsely : Prop := lawS4287CFarRow.holds Yba.pinned (OpenSpec.ofChange lawS4287CFarWrong)

end Rows
end Go.Proofs.Ybulkcjtk
