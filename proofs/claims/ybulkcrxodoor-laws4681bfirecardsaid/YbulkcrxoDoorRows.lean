/-
  NARROWER THAN 'FOR EVERY INPUT', by the rows' own cells (each row's printed sentence says how): LawS4681AFires: laid · LawS4681BFire: laid · LawS4681CFields: ifaces, laid · LawS4681CViaDecodable: ifaces, laid.
  DERIVED. THE GIVEN ROWS OF THIS SEAT. 4 by the template 'for every input the law returns true; each argument reads behind the call as it read before'; 0 by the template 'total and deterministic' (their statements: YbulkcrxoDoorTotals.lean).
  GIVEN WITH THE SEED: the statements are not yours to turn. If you find one false, say at which input.
  Laid BY PROGRAM, IN A SANDBOX (cutbox-rows.mjs): the forced cells as the released guide's own fill.sh prints them over the translation 6f77f7df8c106324… (all of the seat's roots in one cut). By AI agents, Wed Nov 11 2026. No macro, syntax, notation, axiom, sorry.
-/
import Derived.Test.YbulkcrxoDoorChecked
import GoSem.Claim
import GoSem.ClaimJoined
import GoSem.ClaimMapViews
import Derived.JoinedTies
import Derived.KernelRfl
namespace Go.Proofs.YbulkcrxoDoor
/- THE CELL 'sum', in the pinned program and in every row, IS THE sha256 OF THE DUMP (.gsa) THAT YbulkcrxoDoorProg.lean LOADS. Nothing in Lean hashes anything: it is a label: what it is worth is what the hold of that sum in a sandbox is worth. -/
noncomputable def Ybad.pinned : Pinned := { name := "ybulkcrxodoor", sum := "6f77f7df8c10632476381209a5a39c3e4d24d80f414555ee2bf656474d13cd3b", checked := Ybad.checked }
namespace Rows
def none {H : Type} : Left H := { results := [], args := [] }

/- WHAT THE LISTED PACKAGE-LEVEL VARIABLES READ AS WHEN THE CALL BEGINS. Each datum BY PROGRAM (the guide's laid-datum.mjs) off the statement by which the dump's own 'gosem.cut.vars' lays the variable. In a bare row this is a premise. The card (YbulkcrxoDoorCards.lean) ties it to the program's text. -/
def laid_example_com_latchwork_latchwork_pkg_wire_EventHeader {H : Type} : DataW H := .agg [.lit (.int .i32 (-1)), .lit (.int .i64 (-1)), .lit (.int .i32 0)]
def laid_example_com_latchwork_latchwork_pkg_wire_ErrShort {H : Type} : DataW H := .iface "*errors.errorString" (.ptr (.agg [.lit (.string [114, 101, 99, 111, 114, 100, 32, 114, 117, 110, 115, 32, 112, 97, 115, 116, 32, 116, 104, 101, 32, 101, 110, 100, 32, 111, 102, 32, 105, 116, 115, 32, 102, 114, 97, 109, 101])]))

/-- 'server.LawS4681AFires': WHATEVER THE INPUT: true; the input reads as it did. -/
def lawS4681AFiresSpec : ChangeSpec := { name := "lawS4681AFires", vars := ["example.com/latchwork/latchwork/pkg/wire.EventHeader"], fn := fun _ => fun
  | [d1, d2, d3, d4, d5, g1] => { results := [.lit (.bool true)], args := [d1, d2, d3, d4, d5], vars := [g1] }
  | _ => none }
def lawS4681AFiresRow : OpenClaim := { program := "ybulkcrxodoor", sum := "6f77f7df8c10632476381209a5a39c3e4d24d80f414555ee2bf656474d13cd3b", func := "example.com/latchwork/latchwork/pkg/server.LawS4681AFires", spec := "lawS4681AFires", inPlace := ["(*internal/sync.Mutex).Lock", "internal/race.Disable", "sync/atomic.CompareAndSwapInt32", "internal/race.Enable", "internal/race.Acquire", "(*internal/sync.Mutex).lockSlow", "internal/sync.runtime_canSpin", "internal/sync.runtime_doSpin", "internal/sync.throw", "internal/sync.runtime_nanotime", "internal/sync.runtime_SemacquireMutex", "sync/atomic.AddInt32", "(*internal/sync.Mutex).Unlock", "internal/race.ReleaseMerge", "(*internal/sync.Mutex).unlockSlow", "internal/sync.fatal", "internal/sync.runtime_Semrelease", "(*sync.Cond).Broadcast", "(*sync.copyChecker).check", "sync.runtime_notifyListNotifyAll"], unfollowed := true, recurses := true, named := ["example.com/latchwork/latchwork/pkg/wire.EventHeader", "encoding/binary.BigEndian"], plainKeys := false, apart := false, laid := [("example.com/latchwork/latchwork/pkg/wire.EventHeader", laid_example_com_latchwork_latchwork_pkg_wire_EventHeader)] }
def LawS4681AFiresSaid : Prop := lawS4681AFiresRow.holds Ybad.pinned (OpenSpec.ofChange lawS4681AFiresSpec)

/-- ITS FALSE NEIGHBOUR: 'it returns false'. Refute it at one input. -/
def lawS4681AFiresWrong : ChangeSpec := { name := "lawS4681AFires", vars := ["example.com/latchwork/latchwork/pkg/wire.EventHeader"], fn := fun _ => fun
  | [d1, d2, d3, d4, d5, g1] => { results := [.lit (.bool false)], args := [d1, d2, d3, d4, d5], vars := [g1] }
  | _ => none }
def LawS4681AFiresWrongFalsely : Prop := lawS4681AFiresRow.holds Ybad.pinned (OpenSpec.ofChange lawS4681AFiresWrong)

/-- 'server.LawS4681BFire': WHATEVER THE INPUT: true; the input reads as it did. -/
def lawS4681BFireSpec : ChangeSpec := { name := "lawS4681BFire", vars := ["example.com/latchwork/latchwork/pkg/wire.EventHeader"], fn := fun _ => fun
  | [d1, d2, d3, d4, g1] => { results := [.lit (.bool true)], args := [d1, d2, d3, d4], vars := [g1] }
  | _ => none }
def lawS4681BFireRow : OpenClaim := { program := "ybulkcrxodoor", sum := "6f77f7df8c10632476381209a5a39c3e4d24d80f414555ee2bf656474d13cd3b", func := "example.com/latchwork/latchwork/pkg/server.LawS4681BFire", spec := "lawS4681BFire", inPlace := ["(*internal/sync.Mutex).Lock", "internal/race.Disable", "sync/atomic.CompareAndSwapInt32", "internal/race.Enable", "internal/race.Acquire", "(*internal/sync.Mutex).lockSlow", "internal/sync.runtime_canSpin", "internal/sync.runtime_doSpin", "internal/sync.throw", "internal/sync.runtime_nanotime", "internal/sync.runtime_SemacquireMutex", "sync/atomic.AddInt32", "(*internal/sync.Mutex).Unlock", "internal/race.ReleaseMerge", "(*internal/sync.Mutex).unlockSlow", "internal/sync.fatal", "internal/sync.runtime_Semrelease", "(*sync.Cond).Broadcast", "(*sync.copyChecker).check", "sync.runtime_notifyListNotifyAll"], unfollowed := true, recurses := true, named := ["example.com/latchwork/latchwork/pkg/wire.EventHeader", "encoding/binary.BigEndian"], plainKeys := false, apart := false, laid := [("example.com/latchwork/latchwork/pkg/wire.EventHeader", laid_example_com_latchwork_latchwork_pkg_wire_EventHeader)] }
def LawS4681BFireSaid : Prop := lawS4681BFireRow.holds Ybad.pinned (OpenSpec.ofChange lawS4681BFireSpec)

/-- ITS FALSE NEIGHBOUR: 'it returns false'. Refute it at one input. -/
def lawS4681BFireWrong : ChangeSpec := { name := "lawS4681BFire", vars := ["example.com/latchwork/latchwork/pkg/wire.EventHeader"], fn := fun _ => fun
  | [d1, d2, d3, d4, g1] => { results := [.lit (.bool false)], args := [d1, d2, d3, d4], vars := [g1] }
  | _ => none }
def LawS4681BFireWrongFalsely : Prop := lawS4681BFireRow.holds Ybad.pinned (OpenSpec.ofChange lawS4681BFireWrong)

/-- 'wire.LawS4681CFields': WHATEVER THE INPUT: true; the input reads as it did. -/
def lawS4681CFieldsSpec : ChangeSpec := { name := "lawS4681CFields", vars := ["example.com/latchwork/latchwork/pkg/wire.ErrShort"], fn := fun _ => fun
  | [d1, d2, g1] => { results := [.lit (.bool true)], args := [d1, d2], vars := [g1] }
  | _ => none }
def lawS4681CFieldsRow : OpenClaim := { program := "ybulkcrxodoor", sum := "6f77f7df8c10632476381209a5a39c3e4d24d80f414555ee2bf656474d13cd3b", func := "example.com/latchwork/latchwork/pkg/wire.LawS4681CFields", spec := "lawS4681CFields", named := ["example.com/latchwork/latchwork/pkg/wire.ErrShort", "encoding/binary.BigEndian"], ifaces := true, plainKeys := false, apart := false, laid := [("example.com/latchwork/latchwork/pkg/wire.ErrShort", laid_example_com_latchwork_latchwork_pkg_wire_ErrShort)] }
def LawS4681CFieldsSaid : Prop := lawS4681CFieldsRow.holds Ybad.pinned (OpenSpec.ofChange lawS4681CFieldsSpec)

/-- ITS FALSE NEIGHBOUR: 'it returns false'. Refute it at one input. -/
def lawS4681CFieldsWrong : ChangeSpec := { name := "lawS4681CFields", vars := ["example.com/latchwork/latchwork/pkg/wire.ErrShort"], fn := fun _ => fun
  | [d1, d2, g1] => { results := [.lit (.bool false)], args := [d1, d2], vars := [g1] }
  | _ => none }
def LawS4681CFieldsWrongFalsely : Prop := lawS4681CFieldsRow.holds Ybad.pinned (OpenSpec.ofChange lawS4681CFieldsWrong)

/-- 'wire.LawS4681CViaDecodable': WHATEVER THE INPUT: true; the input reads as it did. -/
def lawS4681CViaDecodableSpec : ChangeSpec := { name := "lawS4681CViaDecodable", vars := ["example.com/latchwork/latchwork/pkg/wire.ErrShort"], fn := fun _ => fun
  | [d, g1] => { results := [.lit (.bool true)], args := [d], vars := [g1] }
  | _ => none }
def lawS4681CViaDecodableRow : OpenClaim := { program := "ybulkcrxodoor", sum := "6f77f7df8c10632476381209a5a39c3e4d24d80f414555ee2bf656474d13cd3b", func := "example.com/latchwork/latchwork/pkg/wire.LawS4681CViaDecodable", spec := "lawS4681CViaDecodable", unfollowed := true, recurses := true, named := ["example.com/latchwork/latchwork/pkg/wire.ErrShort"], ifaces := true, plainKeys := false, apart := false, laid := [("example.com/latchwork/latchwork/pkg/wire.ErrShort", laid_example_com_latchwork_latchwork_pkg_wire_ErrShort)] }
def LawS4681CViaDecodableSaid : Prop := lawS4681CViaDecodableRow.holds Ybad.pinned (OpenSpec.ofChange lawS4681CViaDecodableSpec)

/-- ITS FALSE NEIGHBOUR: 'it returns false'. Refute it at one input. -/
def lawS4681CViaDecodableWrong : ChangeSpec := { name := "lawS4681CViaDecodable", vars := ["example.com/latchwork/latchwork/pkg/wire.ErrShort"], fn := fun _ => fun
  | [d, g1] => { results := [.lit (.bool false)], args := [d], vars := [g1] }
  | _ => none }
def LawS4681CViaDecodableWrongFalsely : Prop := lawS4681CViaDecodableRow.holds Ybad.pinned (OpenSpec.ofChange lawS4681CViaDecodableWrong)

end Rows
end Go.Proofs.YbulkcrxoDoor
