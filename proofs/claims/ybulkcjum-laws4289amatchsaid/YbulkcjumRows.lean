/-
  No cell of these rows narrows 'for every input' (looked for: loops, veiled, ifaces, maps, wideKeys, modest, calm, conditions, laid).
  DERIVED. THE GIVEN ROWS OF THIS SEAT. 1 by the template 'for every input the law returns true; each argument reads behind the call as it read before'; 0 by the template 'total and deterministic' (their statements: YbulkcjumTotals.lean).
  GIVEN WITH THE SEED: the statements are not yours to turn. If you find one false, say at which input.
  Laid BY PROGRAM, IN A SANDBOX (cutbox-rows.mjs): the forced cells as the released guide's own fill.sh prints them over the translation 7c20b81ff151f487… (all of the seat's roots in one cut). By AI agents, Wed Nov 11 2026. No macro, syntax, notation, axiom, sorry.
-/
import Derived.Test.YbulkcjumChecked
import GoSem.Claim
import GoSem.ClaimJoined
import GoSem.ClaimMapViews
import Derived.JoinedTies
import Derived.KernelRfl
namespace Go.Proofs.Ybulkcjum
/- THE CELL 'sum', in the pinned program and in every row, IS THE sha256 OF THE DUMP (.gsa) THAT YbulkcjumProg.lean LOADS. Nothing in Lean hashes anything: it is a label: what it is worth is what the hold of that sum in a sandbox is worth. -/
noncomputable def Yba.pinned : Pinned := { name := "ybulkcjum", sum := "7c20b81ff151f4874b1b25f90af4123c0e1b6cad951e4a718e96d471d8137088", checked := Yba.checked }
namespace Rows
def none {H : Type} : Left H := { results := [], args := [] }

/-- 'strict-conf.LawS4289AMatch': WHATEVER THE INPUT: true; the input reads as it did. -/
def lawS4289AMatchSpec : ChangeSpec := { name := "lawS4289AMatch", fn := fun _ => fun
  | [d1, d2, d3, d4, d5, d6, d7, d8] => { results := [.lit (.bool true)], args := [d1, d2, d3, d4, d5, d6, d7, d8] }
  | _ => none }
def lawS4289AMatchRow : OpenClaim := { program := "ybulkcjum", sum := "7c20b81ff151f4874b1b25f90af4123c0e1b6cad951e4a718e96d471d8137088", func := "example.com/strict-conf/strict-conf.LawS4289AMatch", spec := "lawS4289AMatch", apart := false }
def LawS4289AMatchSaid : Prop := lawS4289AMatchRow.holds Yba.pinned (OpenSpec.ofChange lawS4289AMatchSpec)

/-- ITS FALSE NEIGHBOUR: 'it returns false'. Refute it at one input. -/
def lawS4289AMatchWrong : ChangeSpec := { name := "lawS4289AMatch", fn := fun _ => fun
  | [d1, d2, d3, d4, d5, d6, d7, d8] => { results := [.lit (.bool false)], args := [d1, d2, d3, d4, d5, d6, d7, d8] }
  | _ => none }
def LawS4289AMatchWrongFalsely : Prop := lawS4289AMatchRow.holds Yba.pinned (OpenSpec.ofChange lawS4289AMatchWrong)

end Rows
end Go.Proofs.Ybulkcjum
