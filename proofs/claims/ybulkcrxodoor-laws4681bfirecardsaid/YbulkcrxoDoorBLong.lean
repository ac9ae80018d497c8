/-
  LawS4681BFire: the answer to inputs that are too long.
-/
import Derived.Test.YbulkcrxoDoorFLs
set_option linter.unusedVariables false
namespace Go.Proofs.YbulkcrxoDoor.F
open Go.RowKit Go.Any

set_option maxHeartbeats 2000000 in
set_option maxRecDepth 100000 in
theorem blong (wa : Option Addr) (nw wcap : Nat) (a b c : Int) (w : World) (hnw : nw ≤ 9223372036854775807) (h : 1024 < nw) :
    Calls Ybad.prog 4 #[.slice wa nw wcap, .int .u8 a, .int .u8 b, .int .u8 c] w fun e w' => e = .returned (.bool true) ∧ Below w.heap.size w w' := by
  have e1 : (1024 : Int) < nw := by omega
  go_enter Ybad.func4, Ybad.ntmps4
  go_wp2
  go_ret
  exact ⟨rfl, Below.refl _ _⟩
end Go.Proofs.YbulkcrxoDoor.F
