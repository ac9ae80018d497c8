/-
  DERIVED. GIVEN WITH THE SEED: THE CARDS: each row of YbulkcseoDoorRows.lean that lists a variable, with what it lists TIED to the program's text (the seventh form; the later family's looks); each row that meets fmt, with fmt's text TOLD by the authors' own Lean function (tested against real Go, not proved from fmt's source: count such statements apart). THE CARD IS WHAT COUNTS. Prove the row's statement (the work); the ties are given (YbulkcseoDoorTie.lean); close each card by the builder's one call (the guide's Derived/Test/ToyasCard.lean, 'card_holds'). Laid BY PROGRAM, IN A SANDBOX (cutbox-door.mjs). By AI agents, Wed Nov 11 2026. No macro, syntax, notation, axiom, sorry.
-/
import Derived.Test.YbulkcseoDoorRows
import GoSem.ClaimSeven
namespace Go.Proofs.YbulkcseoDoor
namespace Rows

/-- THE TIED CARD OF 'history.LawS4694AFirstFault'. -/
def lawS4694AFirstFaultCard : Claim7 := { stood := { row := lawS4694AFirstFaultRow, standIns := [], harness := (true, "9b32e9c63511324975eba73666a9b25d2876d6a91e32c67038eb0c6bf4467091"), looks := false }, kinds := [], alts := [], laidByText := true, laidKinds := [.data, .data, .data], laidTests := true, laidLooks := .later }
def LawS4694AFirstFaultCardSaid : Prop := Claim7.holds Ybad.pinned (.plain (OpenSpec.ofChange lawS4694AFirstFaultSpec)) lawS4694AFirstFaultCard
end Rows
end Go.Proofs.YbulkcseoDoor
