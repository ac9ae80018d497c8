/-
  LawS4681BFire: the law's walk is cut into pieces.
-/
import Derived.Test.YbulkcrxoDoorBFe
import Derived.Deep.DeepCutAuto
import Derived.Deep.CutBlock
import Derived.Deep.RegionWith
import Derived.Deep.RegionLaw
set_option linter.unusedVariables false
namespace Go.Proofs.YbulkcrxoDoor.F
open Go.RowKit Go.Any
open Go.ChangeMaps (setBlock)

/-- What stands behind the first n statements. -/
def tlB : Nat → Code → Code
  | 0, c => c
  | n + 1, .seq _ b => tlB n b
  | _ + 1, c => c
noncomputable def restB (n : Nat) : Code := tlB n (Ybad.f4.body.getD .skip)
/-- Here the walk stands. -/
def StopB (c : Code) (Q : Exit → Act → World → Prop) (a : Act) (w : World) : Prop := Code.wp Ybad.prog c Q a w
end Go.Proofs.YbulkcrxoDoor.F
