/-
  DERIVED. GIVEN WITH THE SEED: THE CARDS: each row of YbulkcsbwDoorRows.lean that lists a variable, with what it lists TIED to the program's text (the seventh form; the later family's looks); each row that meets fmt, with fmt's text TOLD by the authors' own Lean function (tested against real Go, not proved from fmt's source: count such statements apart). THE CARD IS WHAT COUNTS. Prove the row's statement (the work); the ties are given (YbulkcsbwDoorTie.lean); close each card by the builder's one call (the guide's Derived/Test/ToyasCard.lean, 'card_holds'). Laid BY PROGRAM, IN A SANDBOX (cutbox-door.mjs). By AI agents, Wed Nov 11 2026. No macro, syntax, notation, axiom, sorry.
-/
import Derived.Test.YbulkcsbwDoorRows
import GoSem.ClaimSeven
namespace Go.Proofs.YbulkcsbwDoor
namespace Rows

/-- THE TIED CARD OF 'lab.LawS4689BGrid'. -/
def lawS4689BGridCard : Claim7 := { stood := { row := lawS4689BGridRow, standIns := [], harness := (true, "627ed53f4acc72ce0a7bf796edc08cc47e296fc1b2b78505f6906d88ed875fa2"), looks := true }, kinds := [], alts := [], laidByText := true, laidKinds := [.data, .data, .data, .sentinel, .sentinel], laidTests := true, laidLooks := .later }
def LawS4689BGridCardSaid : Prop := Claim7.holds Ybad.pinned (.plain (OpenSpec.ofChange lawS4689BGridSpec)) lawS4689BGridCard

/-- THE TIED CARD OF 'lab.LawS4689BNotGrid'. -/
def lawS4689BNotGridCard : Claim7 := { stood := { row := lawS4689BNotGridRow, standIns := [], harness := (true, "627ed53f4acc72ce0a7bf796edc08cc47e296fc1b2b78505f6906d88ed875fa2"), looks := true }, kinds := [], alts := [], laidByText := true, laidKinds := [.data, .data, .data, .sentinel, .sentinel], laidTests := true, laidLooks := .later }
def LawS4689BNotGridCardSaid : Prop := Claim7.holds Ybad.pinned (.plain (OpenSpec.ofChange lawS4689BNotGridSpec)) lawS4689BNotGridCard

/-- THE TIED CARD OF 'store.LawS4689CSpend'. -/
def lawS4689CSpendCard : Claim7 := { stood := { row := lawS4689CSpendRow, standIns := [], harness := (true, "627ed53f4acc72ce0a7bf796edc08cc47e296fc1b2b78505f6906d88ed875fa2"), looks := true }, kinds := [], alts := [], laidByText := true, laidKinds := [.sentinel, .sentinel], laidTests := true, laidLooks := .later }
def LawS4689CSpendCardSaid : Prop := Claim7.holds Ybad.pinned (.plain (OpenSpec.ofChange lawS4689CSpendSpec)) lawS4689CSpendCard
end Rows
end Go.Proofs.YbulkcsbwDoor
