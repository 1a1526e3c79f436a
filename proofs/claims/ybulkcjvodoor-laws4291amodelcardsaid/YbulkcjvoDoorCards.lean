/-
  DERIVED. GIVEN WITH THE SEED: THE CARDS: each row of YbulkcjvoDoorRows.lean that lists a variable, with what it lists TIED to the program's text (the seventh form; the later family's looks); each row that meets fmt, with fmt's text TOLD by the authors' own Lean function (tested against real Go, not proved from fmt's source: count such statements apart). THE CARD IS WHAT COUNTS. Prove the row's statement (the work); the ties are given (YbulkcjvoDoorTie.lean); close each card by the builder's one call (the guide's Derived/Test/ToyasCard.lean, 'card_holds'). Laid BY PROGRAM, IN A SANDBOX (cutbox-door.mjs). By AI agents, Wed Nov 11 2026. No macro, syntax, notation, axiom, sorry.
-/
import Derived.Test.YbulkcjvoDoorRows
import GoSem.ClaimSeven
namespace Go.Proofs.YbulkcjvoDoor
namespace Rows

/-- THE TIED CARD OF 'link.LawS4291AModel'. -/
def lawS4291AModelCard : Claim7 := { stood := { row := lawS4291AModelRow, standIns := [], harness := (true, "df6f6dd15917b0219b3837267d50013874d71bcb1978f06f544416fd7689d098"), looks := true }, kinds := [], alts := [], laidByText := true, laidKinds := [.sentinel, .sentinel, .sentinel], laidTests := true, laidLooks := .later }
def LawS4291AModelCardSaid : Prop := Claim7.holds Ybad.pinned (.plain (OpenSpec.ofChange lawS4291AModelSpec)) lawS4291AModelCard

/-- THE TIED CARD OF 'link.LawS4291AFrame'. -/
def lawS4291AFrameCard : Claim7 := { stood := { row := lawS4291AFrameRow, standIns := [], harness := (true, "df6f6dd15917b0219b3837267d50013874d71bcb1978f06f544416fd7689d098"), looks := true }, kinds := [], alts := [], laidByText := true, laidKinds := [.sentinel, .sentinel, .sentinel], laidTests := true, laidLooks := .later }
def LawS4291AFrameCardSaid : Prop := Claim7.holds Ybad.pinned (.plain (OpenSpec.ofChange lawS4291AFrameSpec)) lawS4291AFrameCard
end Rows
end Go.Proofs.YbulkcjvoDoor
