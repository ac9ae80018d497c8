/-
  DERIVED. GIVEN WITH THE SEED: THE CARDS: each row of YbulkcrxoDoorRows.lean that lists a variable, with what it lists TIED to the program's text (the seventh form; the later family's looks); each row that meets fmt, with fmt's text TOLD by the authors' own Lean function (tested against real Go, not proved from fmt's source: count such statements apart). THE CARD IS WHAT COUNTS. Prove the row's statement (the work); the ties are given (YbulkcrxoDoorTie.lean); close each card by the builder's one call (the guide's Derived/Test/ToyasCard.lean, 'card_holds'). Laid BY PROGRAM, IN A SANDBOX (cutbox-door.mjs). By AI agents, Wed Nov 11 2026. No macro, syntax, notation, axiom, sorry.
-/
import Derived.Test.YbulkcrxoDoorRows
import GoSem.ClaimSeven
namespace Go.Proofs.YbulkcrxoDoor
namespace Rows

/-- THE TIED CARD OF 'server.LawS4681AFires'. -/
def lawS4681AFiresCard : Claim7 := { stood := { row := lawS4681AFiresRow, standIns := [], harness := (true, "d8560b95abc9a274c01f2360b799f3c08ee31fd21263779a8602d6a56665da46"), looks := true }, kinds := [], alts := [], laidByText := true, laidKinds := [.data], laidTests := true, laidLooks := .later }
def LawS4681AFiresCardSaid : Prop := Claim7.holds Ybad.pinned (.plain (OpenSpec.ofChange lawS4681AFiresSpec)) lawS4681AFiresCard

/-- THE TIED CARD OF 'server.LawS4681BFire'. -/
def lawS4681BFireCard : Claim7 := { stood := { row := lawS4681BFireRow, standIns := [], harness := (true, "d8560b95abc9a274c01f2360b799f3c08ee31fd21263779a8602d6a56665da46"), looks := true }, kinds := [], alts := [], laidByText := true, laidKinds := [.data], laidTests := true, laidLooks := .later }
def LawS4681BFireCardSaid : Prop := Claim7.holds Ybad.pinned (.plain (OpenSpec.ofChange lawS4681BFireSpec)) lawS4681BFireCard

/-- THE TIED CARD OF 'wire.LawS4681CFields'. -/
def lawS4681CFieldsCard : Claim7 := { stood := { row := lawS4681CFieldsRow, standIns := [], harness := (true, "d8560b95abc9a274c01f2360b799f3c08ee31fd21263779a8602d6a56665da46"), looks := true }, kinds := [], alts := [], laidByText := true, laidKinds := [.sentinel], laidTests := true, laidLooks := .later }
def LawS4681CFieldsCardSaid : Prop := Claim7.holds Ybad.pinned (.plain (OpenSpec.ofChange lawS4681CFieldsSpec)) lawS4681CFieldsCard

/-- THE TIED CARD OF 'wire.LawS4681CViaDecodable'. -/
def lawS4681CViaDecodableCard : Claim7 := { stood := { row := lawS4681CViaDecodableRow, standIns := [], harness := (true, "d8560b95abc9a274c01f2360b799f3c08ee31fd21263779a8602d6a56665da46"), looks := true }, kinds := [], alts := [], laidByText := true, laidKinds := [.sentinel], laidTests := true, laidLooks := .later }
def LawS4681CViaDecodableCardSaid : Prop := Claim7.holds Ybad.pinned (.plain (OpenSpec.ofChange lawS4681CViaDecodableSpec)) lawS4681CViaDecodableCard
end Rows
end Go.Proofs.YbulkcrxoDoor
