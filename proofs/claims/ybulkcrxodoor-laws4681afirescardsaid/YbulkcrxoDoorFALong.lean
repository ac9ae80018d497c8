/-
  LawS4681AFires: the answer to inputs that are too long.
-/
import Derived.Test.YbulkcrxoDoorFLs
set_option linter.unusedVariables false
namespace Go.Proofs.YbulkcrxoDoor.F
open Go.RowKit Go.Any

set_option maxHeartbeats 2000000 in
set_option maxRecDepth 100000 in
theorem along (cn : Fin 4 → Nat) (wa : Option Addr) (nw wcap : Nat) (ev ps : Int) (ka : Option Addr) (nk kc : Nat) (w : World) (hnw : nw ≤ 9223372036854775807) (h : 1024 < nw) :
    Calls Ybad.prog 3 #[.slice wa nw wcap, .agg #[.int .u8 (cn 0), .int .u8 (cn 1), .int .u8 (cn 2), .int .u8 (cn 3)], .int .i32 ev, .int .u8 ps, .slice ka nk kc] w fun e w' => e = .returned (.bool true) ∧ Below w.heap.size w w' := by
  have e1 : (1024 : Int) < nw := by omega
  go_enter Ybad.func3, Ybad.ntmps3
  go_wp2
  go_ret
  exact ⟨rfl, (Below.refl _ _).alloc (Nat.le_refl _) _⟩

set_option maxHeartbeats 2000000 in
set_option maxRecDepth 100000 in
theorem along2 (cn : Fin 4 → Nat) (wa : Option Addr) (nw wcap : Nat) (ev ps : Int) (ka : Option Addr) (nk kc : Nat) (w : World) (hnw : ¬ 1024 < nw) (h : 1024 < nk) (hnk : nk ≤ 9223372036854775807) :
    Calls Ybad.prog 3 #[.slice wa nw wcap, .agg #[.int .u8 (cn 0), .int .u8 (cn 1), .int .u8 (cn 2), .int .u8 (cn 3)], .int .i32 ev, .int .u8 ps, .slice ka nk kc] w fun e w' => e = .returned (.bool true) ∧ Below w.heap.size w w' := by
  have e1 : ¬ (1024 : Int) < nw := by omega
  have e2 : (1024 : Int) < nk := by omega
  go_enter Ybad.func3, Ybad.ntmps3
  go_wp2
  go_ret
  exact ⟨rfl, (Below.refl _ _).alloc (Nat.le_refl _) _⟩
end Go.Proofs.YbulkcrxoDoor.F
