/-
  No cell of these rows narrows 'for every input' (looked for: loops, veiled, ifaces, maps, wideKeys, modest, calm, conditions, laid).
  DERIVED. THE GIVEN ROWS OF THIS SEAT. 1 by the template 'for every input the law returns true; each argument reads behind the call as it read before'; 0 by the template 'total and deterministic' (their statements: YbulkcsauTotals.lean).
  GIVEN WITH THE SEED: the statements are not yours to turn. If you find one false, say at which input.
  Laid BY PROGRAM, IN A SANDBOX (cutbox-rows.mjs): the forced cells as the released guide's own fill.sh prints them over the translation ebb5d46a2cb4909f… (all of the seat's roots in one cut). By AI agents, Wed Nov 11 2026. No macro, syntax, notation, axiom, sorry.
-/
import Derived.Test.YbulkcsauChecked
import GoSem.Claim
import GoSem.ClaimJoined
import GoSem.ClaimMapViews
import Derived.JoinedTies
import Derived.KernelRfl
namespace Go.Proofs.Ybulkcsau
/- THE CELL 'sum', in the pinned program and in every row, IS THE sha256 OF THE DUMP (.gsa) THAT YbulkcsauProg.lean LOADS. Nothing in Lean hashes anything: it is a label: what it is worth is what the hold of that sum in a sandbox is worth. -/
noncomputable def Yba.pinned : Pinned := { name := "ybulkcsau", sum := "ebb5d46a2cb4909f6988e28bdbe4c9b89268994777e982579fea8930ff23596b", checked := Yba.checked }
namespace Rows
def none {H : Type} : Left H := { results := [], args := [] }

/-- 'keyhop.LawS4687CFirst': WHATEVER THE INPUT: true; the input reads as it did. -/
def lawS4687CFirstSpec : ChangeSpec := { name := "lawS4687CFirst", fn := fun _ => fun
  | [d1, d2, d3] => { results := [.lit (.bool true)], args := [d1, d2, d3] }
  | _ => none }
def lawS4687CFirstRow : OpenClaim := { program := "ybulkcsau", sum := "ebb5d46a2cb4909f6988e28bdbe4c9b89268994777e982579fea8930ff23596b", func := "example.com/keyhop/keyhop.LawS4687CFirst", spec := "lawS4687CFirst", unfollowed := true, recurses := true, apart := false }
def LawS4687CFirstSaid : Prop := lawS4687CFirstRow.holds Yba.pinned (OpenSpec.ofChange lawS4687CFirstSpec)

/-- ITS FALSE NEIGHBOUR: 'it returns false'. Refute it at one input. -/
def lawS4687CFirstWrong : ChangeSpec := { name := "lawS4687CFirst", fn := fun _ => fun
  | [d1, d2, d3] => { results := [.lit (.bool false)], args := [d1, d2, d3] }
  | _ => none }
def LawS4687CFirstWrongFalsely : Prop := lawS4687CFirstRow.holds Yba.pinned (OpenSpec.ofChange lawS4687CFirstWrong)

end Rows
end Go.Proofs.Ybulkcsau
