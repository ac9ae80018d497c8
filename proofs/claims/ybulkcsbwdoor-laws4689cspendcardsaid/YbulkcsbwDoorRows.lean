/-
  NARROWER THAN 'FOR EVERY INPUT', by the rows' own cells (each row's printed sentence says how): LawS4689BGrid: laid · LawS4689BNotGrid: laid · LawS4689CSpend: ifaces, laid.
  DERIVED. THE GIVEN ROWS OF THIS SEAT. 3 by the template 'for every input the law returns true; each argument reads behind the call as it read before'; 0 by the template 'total and deterministic' (their statements: YbulkcsbwDoorTotals.lean).
  GIVEN WITH THE SEED: the statements are not yours to turn. If you find one false, say at which input.
  Laid BY PROGRAM, IN A SANDBOX (cutbox-rows.mjs): the forced cells as the released guide's own fill.sh prints them over the translation fc09d697c66202d7… (all of the seat's roots in one cut). By AI agents, Wed Nov 11 2026. No macro, syntax, notation, axiom, sorry.
-/
import Derived.Test.YbulkcsbwDoorChecked
import GoSem.Claim
import GoSem.ClaimJoined
import GoSem.ClaimMapViews
import Derived.JoinedTies
import Derived.KernelRfl
namespace Go.Proofs.YbulkcsbwDoor
/- THE CELL 'sum', in the pinned program and in every row, IS THE sha256 OF THE DUMP (.gsa) THAT YbulkcsbwDoorProg.lean LOADS. Nothing in Lean hashes anything: it is a label: what it is worth is what the hold of that sum in a sandbox is worth. -/
noncomputable def Ybad.pinned : Pinned := { name := "ybulkcsbwdoor", sum := "fc09d697c66202d754d5511dcb69f9e541274b6399be10b634920e56e1ed1546", checked := Ybad.checked }
namespace Rows
def none {H : Type} : Left H := { results := [], args := [] }

/- WHAT THE LISTED PACKAGE-LEVEL VARIABLES READ AS WHEN THE CALL BEGINS. Each datum BY PROGRAM (the guide's laid-datum.mjs) off the statement by which the dump's own 'gosem.cut.vars' lays the variable. In a bare row this is a premise. The card (YbulkcsbwDoorCards.lean) ties it to the program's text. -/
def laid_math_bits_deBruijn32tab {H : Type} : DataW H := .agg [.lit (.int .u8 0), .lit (.int .u8 1), .lit (.int .u8 28), .lit (.int .u8 2), .lit (.int .u8 29), .lit (.int .u8 14), .lit (.int .u8 24), .lit (.int .u8 3), .lit (.int .u8 30), .lit (.int .u8 22), .lit (.int .u8 20), .lit (.int .u8 15), .lit (.int .u8 25), .lit (.int .u8 17), .lit (.int .u8 4), .lit (.int .u8 8), .lit (.int .u8 31), .lit (.int .u8 27), .lit (.int .u8 13), .lit (.int .u8 23), .lit (.int .u8 21), .lit (.int .u8 19), .lit (.int .u8 16), .lit (.int .u8 7), .lit (.int .u8 26), .lit (.int .u8 12), .lit (.int .u8 18), .lit (.int .u8 6), .lit (.int .u8 11), .lit (.int .u8 5), .lit (.int .u8 10), .lit (.int .u8 9)]
def laid_math_bits_deBruijn64tab {H : Type} : DataW H := .agg [.lit (.int .u8 0), .lit (.int .u8 1), .lit (.int .u8 56), .lit (.int .u8 2), .lit (.int .u8 57), .lit (.int .u8 49), .lit (.int .u8 28), .lit (.int .u8 3), .lit (.int .u8 61), .lit (.int .u8 58), .lit (.int .u8 42), .lit (.int .u8 50), .lit (.int .u8 38), .lit (.int .u8 29), .lit (.int .u8 17), .lit (.int .u8 4), .lit (.int .u8 62), .lit (.int .u8 47), .lit (.int .u8 59), .lit (.int .u8 36), .lit (.int .u8 45), .lit (.int .u8 43), .lit (.int .u8 51), .lit (.int .u8 22), .lit (.int .u8 53), .lit (.int .u8 39), .lit (.int .u8 33), .lit (.int .u8 30), .lit (.int .u8 24), .lit (.int .u8 18), .lit (.int .u8 12), .lit (.int .u8 5), .lit (.int .u8 63), .lit (.int .u8 55), .lit (.int .u8 48), .lit (.int .u8 27), .lit (.int .u8 60), .lit (.int .u8 41), .lit (.int .u8 37), .lit (.int .u8 16), .lit (.int .u8 46), .lit (.int .u8 35), .lit (.int .u8 44), .lit (.int .u8 21), .lit (.int .u8 52), .lit (.int .u8 32), .lit (.int .u8 23), .lit (.int .u8 11), .lit (.int .u8 54), .lit (.int .u8 26), .lit (.int .u8 40), .lit (.int .u8 15), .lit (.int .u8 34), .lit (.int .u8 20), .lit (.int .u8 31), .lit (.int .u8 10), .lit (.int .u8 25), .lit (.int .u8 14), .lit (.int .u8 19), .lit (.int .u8 9), .lit (.int .u8 13), .lit (.int .u8 8), .lit (.int .u8 7), .lit (.int .u8 6)]
def laid_internal_strconv_uint64pow10 {H : Type} : DataW H := .agg [.lit (.int .u64 1), .lit (.int .u64 10), .lit (.int .u64 100), .lit (.int .u64 1000), .lit (.int .u64 10000), .lit (.int .u64 100000), .lit (.int .u64 1000000), .lit (.int .u64 10000000), .lit (.int .u64 100000000), .lit (.int .u64 1000000000), .lit (.int .u64 10000000000), .lit (.int .u64 100000000000), .lit (.int .u64 1000000000000), .lit (.int .u64 10000000000000), .lit (.int .u64 100000000000000), .lit (.int .u64 1000000000000000), .lit (.int .u64 10000000000000000), .lit (.int .u64 100000000000000000), .lit (.int .u64 1000000000000000000), .lit (.int .u64 10000000000000000000)]
def laid_strconv_ErrRange {H : Type} : DataW H := .iface "*errors.errorString" (.ptr (.agg [.lit (.string [118, 97, 108, 117, 101, 32, 111, 117, 116, 32, 111, 102, 32, 114, 97, 110, 103, 101])]))
def laid_strconv_ErrSyntax {H : Type} : DataW H := .iface "*errors.errorString" (.ptr (.agg [.lit (.string [105, 110, 118, 97, 108, 105, 100, 32, 115, 121, 110, 116, 97, 120])]))
def laid_example_com_roamkey_roamkey_store_ErrUnknown {H : Type} : DataW H := .iface "*errors.errorString" (.ptr (.agg [.lit (.string [110, 111, 32, 114, 101, 103, 105, 115, 116, 114, 97, 116, 105, 111, 110, 32, 117, 110, 100, 101, 114, 32, 116, 104, 105, 115, 32, 116, 101, 109, 112, 111, 114, 97, 114, 121, 32, 105, 100, 101, 110, 116, 105, 116, 121])]))
def laid_example_com_roamkey_roamkey_store_ErrSpent {H : Type} : DataW H := .iface "*errors.errorString" (.ptr (.agg [.lit (.string [116, 111, 107, 101, 110, 32, 97, 108, 114, 101, 97, 100, 121, 32, 115, 112, 101, 110, 116])]))

/-- 'lab.LawS4689BGrid': WHATEVER THE INPUT: true; the input reads as it did. -/
def lawS4689BGridSpec : ChangeSpec := { name := "lawS4689BGrid", fn := fun _ => fun
  | [d1, d2, d3, d4, d5, d6, d7, d8, d9] => { results := [.lit (.bool true)], args := [d1, d2, d3, d4, d5, d6, d7, d8, d9] }
  | _ => none }
def lawS4689BGridRow : OpenClaim := { program := "ybulkcsbwdoor", sum := "fc09d697c66202d754d5511dcb69f9e541274b6399be10b634920e56e1ed1546", func := "example.com/roamkey/roamkey/lab.LawS4689BGrid", spec := "lawS4689BGrid", inPlace := ["internal/bytealg.IndexByteString"], named := ["internal/strconv.uint64pow10", "math/bits.deBruijn32tab", "math/bits.deBruijn64tab", "strconv.ErrSyntax", "strconv.ErrRange"], plainKeys := false, apart := false, laid := [("math/bits.deBruijn32tab", laid_math_bits_deBruijn32tab), ("math/bits.deBruijn64tab", laid_math_bits_deBruijn64tab), ("internal/strconv.uint64pow10", laid_internal_strconv_uint64pow10), ("strconv.ErrRange", laid_strconv_ErrRange), ("strconv.ErrSyntax", laid_strconv_ErrSyntax)] }
def LawS4689BGridSaid : Prop := lawS4689BGridRow.holds Ybad.pinned (OpenSpec.ofChange lawS4689BGridSpec)

/-- ITS FALSE NEIGHBOUR: 'it returns false'. Refute it at one input. -/
def lawS4689BGridWrong : ChangeSpec := { name := "lawS4689BGrid", fn := fun _ => fun
  | [d1, d2, d3, d4, d5, d6, d7, d8, d9] => { results := [.lit (.bool false)], args := [d1, d2, d3, d4, d5, d6, d7, d8, d9] }
  | _ => none }
def LawS4689BGridWrongFalsely : Prop := lawS4689BGridRow.holds Ybad.pinned (OpenSpec.ofChange lawS4689BGridWrong)

/-- 'lab.LawS4689BNotGrid': WHATEVER THE INPUT: true; the input reads as it did. -/
def lawS4689BNotGridSpec : ChangeSpec := { name := "lawS4689BNotGrid", fn := fun _ => fun
  | [d1, d2, d3, d4, d5, d6, d7] => { results := [.lit (.bool true)], args := [d1, d2, d3, d4, d5, d6, d7] }
  | _ => none }
def lawS4689BNotGridRow : OpenClaim := { program := "ybulkcsbwdoor", sum := "fc09d697c66202d754d5511dcb69f9e541274b6399be10b634920e56e1ed1546", func := "example.com/roamkey/roamkey/lab.LawS4689BNotGrid", spec := "lawS4689BNotGrid", inPlace := ["internal/bytealg.IndexByteString"], named := ["internal/strconv.uint64pow10", "math/bits.deBruijn32tab", "math/bits.deBruijn64tab", "strconv.ErrSyntax", "strconv.ErrRange"], plainKeys := false, apart := false, laid := [("math/bits.deBruijn32tab", laid_math_bits_deBruijn32tab), ("math/bits.deBruijn64tab", laid_math_bits_deBruijn64tab), ("internal/strconv.uint64pow10", laid_internal_strconv_uint64pow10), ("strconv.ErrRange", laid_strconv_ErrRange), ("strconv.ErrSyntax", laid_strconv_ErrSyntax)] }
def LawS4689BNotGridSaid : Prop := lawS4689BNotGridRow.holds Ybad.pinned (OpenSpec.ofChange lawS4689BNotGridSpec)

/-- ITS FALSE NEIGHBOUR: 'it returns false'. Refute it at one input. -/
def lawS4689BNotGridWrong : ChangeSpec := { name := "lawS4689BNotGrid", fn := fun _ => fun
  | [d1, d2, d3, d4, d5, d6, d7] => { results := [.lit (.bool false)], args := [d1, d2, d3, d4, d5, d6, d7] }
  | _ => none }
def LawS4689BNotGridWrongFalsely : Prop := lawS4689BNotGridRow.holds Ybad.pinned (OpenSpec.ofChange lawS4689BNotGridWrong)

/-- 'store.LawS4689CSpend': WHATEVER THE INPUT: true; the input reads as it did. -/
def lawS4689CSpendSpec : ChangeSpec := { name := "lawS4689CSpend", vars := ["example.com/roamkey/roamkey/store.ErrUnknown", "example.com/roamkey/roamkey/store.ErrSpent"], fn := fun _ => fun
  | [d1, d2, d3, d4, d5, g1, g2] => { results := [.lit (.bool true)], args := [d1, d2, d3, d4, d5], vars := [g1, g2] }
  | _ => none }
def lawS4689CSpendRow : OpenClaim := { program := "ybulkcsbwdoor", sum := "fc09d697c66202d754d5511dcb69f9e541274b6399be10b634920e56e1ed1546", func := "example.com/roamkey/roamkey/store.LawS4689CSpend", spec := "lawS4689CSpend", inPlace := ["crypto/internal/constanttime.boolToUint8"], named := ["example.com/roamkey/roamkey/store.ErrUnknown", "example.com/roamkey/roamkey/store.ErrSpent"], ifaces := true, plainKeys := false, apart := false, laid := [("example.com/roamkey/roamkey/store.ErrUnknown", laid_example_com_roamkey_roamkey_store_ErrUnknown), ("example.com/roamkey/roamkey/store.ErrSpent", laid_example_com_roamkey_roamkey_store_ErrSpent)] }
def LawS4689CSpendSaid : Prop := lawS4689CSpendRow.holds Ybad.pinned (OpenSpec.ofChange lawS4689CSpendSpec)

/-- ITS FALSE NEIGHBOUR: 'it returns false'. Refute it at one input. -/
def lawS4689CSpendWrong : ChangeSpec := { name := "lawS4689CSpend", vars := ["example.com/roamkey/roamkey/store.ErrUnknown", "example.com/roamkey/roamkey/store.ErrSpent"], fn := fun _ => fun
  | [d1, d2, d3, d4, d5, g1, g2] => { results := [.lit (.bool false)], args := [d1, d2, d3, d4, d5], vars := [g1, g2] }
  | _ => none }
def LawS4689CSpendWrongFalsely : Prop := lawS4689CSpendRow.holds Ybad.pinned (OpenSpec.ofChange lawS4689CSpendWrong)

end Rows
end Go.Proofs.YbulkcsbwDoor
