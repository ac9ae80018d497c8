/-
  No cell of these rows narrows 'for every input' (looked for: loops, veiled, ifaces, maps, wideKeys, modest, calm, conditions, laid).
  DERIVED. THE GIVEN ROWS OF THIS SEAT. 3 by the template 'for every input the law returns true; each argument reads behind the call as it read before'; 0 by the template 'total and deterministic' (their statements: YbulkcseoTotals.lean).
  GIVEN WITH THE SEED: the statements are not yours to turn. If you find one false, say at which input.
  Laid BY PROGRAM, IN A SANDBOX (cutbox-rows.mjs): the forced cells as the released guide's own fill.sh prints them over the translation 20b210cb4237d14b… (all of the seat's roots in one cut). By AI agents, Wed Nov 11 2026. No macro, syntax, notation, axiom, sorry.
-/
import Derived.Test.YbulkcseoChecked
import GoSem.Claim
import GoSem.ClaimJoined
import GoSem.ClaimMapViews
import Derived.JoinedTies
import Derived.KernelRfl
namespace Go.Proofs.Ybulkcseo
/- THE CELL 'sum', in the pinned program and in every row, IS THE sha256 OF THE DUMP (.gsa) THAT YbulkcseoProg.lean LOADS. Nothing in Lean hashes anything: it is a label: what it is worth is what the hold of that sum in a sandbox is worth. -/
noncomputable def Yba.pinned : Pinned := { name := "ybulkcseo", sum := "20b210cb4237d14bdc7173232e5b87e40433f03432f1c3d2705a7c5dbbd8f5aa", checked := Yba.checked }
namespace Rows
def none {H : Type} : Left H := { results := [], args := [] }

/-- 'caucus.LawS4694BMedian': WHATEVER THE INPUT: true; the input reads as it did. -/
def lawS4694BMedianSpec : ChangeSpec := { name := "lawS4694BMedian", fn := fun _ => fun
  | [d1, d2] => { results := [.lit (.bool true)], args := [d1, d2] }
  | _ => none }
def lawS4694BMedianRow : OpenClaim := { program := "ybulkcseo", sum := "20b210cb4237d14bdc7173232e5b87e40433f03432f1c3d2705a7c5dbbd8f5aa", func := "example.com/caucus/caucus.LawS4694BMedian", spec := "lawS4694BMedian", apart := false }
def LawS4694BMedianSaid : Prop := lawS4694BMedianRow.holds Yba.pinned (OpenSpec.ofChange lawS4694BMedianSpec)

/-- ITS FALSE NEIGHBOUR: 'it returns false'. Refute it at one input. -/
def lawS4694BMedianWrong : ChangeSpec := { name := "lawS4694BMedian", fn := fun _ => fun
  | [d1, d2] => { results := [.lit (.bool false)], args := [d1, d2] }
  | _ => none }
def LawS4694BMedianWrongFalsely : Prop := lawS4694BMedianRow.holds Yba.pinned (OpenSpec.ofChange lawS4694BMedianWrong)

/-- 'caucus.LawS4694CExact': WHATEVER THE INPUT: true; the input reads as it did. -/
def lawS4694CExactSpec : ChangeSpec := { name := "lawS4694CExact", fn := fun _ => fun
  | [d1, d2, d3, d4, d5, d6] => { results := [.lit (.bool true)], args := [d1, d2, d3, d4, d5, d6] }
  | _ => none }
def lawS4694CExactRow : OpenClaim := { program := "ybulkcseo", sum := "20b210cb4237d14bdc7173232e5b87e40433f03432f1c3d2705a7c5dbbd8f5aa", func := "example.com/caucus/caucus.LawS4694CExact", spec := "lawS4694CExact", apart := false }
def LawS4694CExactSaid : Prop := lawS4694CExactRow.holds Yba.pinned (OpenSpec.ofChange lawS4694CExactSpec)

/-- ITS FALSE NEIGHBOUR: 'it returns false'. Refute it at one input. -/
def lawS4694CExactWrong : ChangeSpec := { name := "lawS4694CExact", fn := fun _ => fun
  | [d1, d2, d3, d4, d5, d6] => { results := [.lit (.bool false)], args := [d1, d2, d3, d4, d5, d6] }
  | _ => none }
def LawS4694CExactWrongFalsely : Prop := lawS4694CExactRow.holds Yba.pinned (OpenSpec.ofChange lawS4694CExactWrong)

/-- 'caucus.LawS4694CScript': WHATEVER THE INPUT: true; the input reads as it did. -/
def lawS4694CScriptSpec : ChangeSpec := { name := "lawS4694CScript", fn := fun _ => fun
  | [d1, d2, d3, d4] => { results := [.lit (.bool true)], args := [d1, d2, d3, d4] }
  | _ => none }
def lawS4694CScriptRow : OpenClaim := { program := "ybulkcseo", sum := "20b210cb4237d14bdc7173232e5b87e40433f03432f1c3d2705a7c5dbbd8f5aa", func := "example.com/caucus/caucus.LawS4694CScript", spec := "lawS4694CScript", apart := false }
def LawS4694CScriptSaid : Prop := lawS4694CScriptRow.holds Yba.pinned (OpenSpec.ofChange lawS4694CScriptSpec)

/-- ITS FALSE NEIGHBOUR: 'it returns false'. Refute it at one input. -/
def lawS4694CScriptWrong : ChangeSpec := { name := "lawS4694CScript", fn := fun _ => fun
  | [d1, d2, d3, d4] => { results := [.lit (.bool false)], args := [d1, d2, d3, d4] }
  | _ => none }
def LawS4694CScriptWrongFalsely : Prop := lawS4694CScriptRow.holds Yba.pinned (OpenSpec.ofChange lawS4694CScriptWrong)

end Rows
end Go.Proofs.Ybulkcseo
