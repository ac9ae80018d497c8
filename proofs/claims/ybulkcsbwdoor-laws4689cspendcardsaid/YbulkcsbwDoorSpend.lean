/-
  LawS4689CSpend: 'spendable' and 'zzs4689czero' by contracts.
-/
import Derived.Test.YbulkcsbwDoorEq
import Derived.Deep.RegionWith
import Derived.Stop.LaidErr
namespace Go.Proofs.YbulkcsbwDoor
open Go.RowKit

/-- A Registration's cells. -/
def reg (tm im : ByteArray) (ka : Option Addr) (kn kc : Nat) (ta : Option Addr) (tn tc : Nat) (to : ByteArray) : Array Value :=
  #[.string tm, .string im, .slice ka kn kc, .slice ta tn tc, .string to, .int .u64 0, .int .i64 0, .pointer none]

def zeroReg : Array Value := #[.string { data := #[] }, .string { data := #[] }, .slice none 0 0, .slice none 0 0, .string { data := #[] }, .int .u64 0, .int .i64 0, .pointer none]

set_option maxHeartbeats 1000000 in
theorem zero_any (w : World) : Calls Ybad.prog 11 #[.agg zeroReg] w fun e w' => e = .returned (.bool true) ∧ Below w.heap.size w w' := by
  have hnil := fun (w : World) (a : Option Addr) (n c : Nat) => Lib.run_eql_slice_nil (P := Ybad.prog) w 35 5 a n c 0 0 Ybad.underlying35
  unfold zeroReg
  go_enter Ybad.func11, Ybad.ntmps11
  go_wp2
  go_ret
  exact ⟨rfl, ((Below.refl _ _).alloc (Nat.le_refl _) _).alloc (by simp) _⟩

set_option maxHeartbeats 1000000 in
theorem spend_none (S M : Nat) (q : ByteArray) (sa : Option Addr) (sn sc : Nat) (e0 : Value) (t : TypeId) (w : World) (hS : w.cell? ⟨S, 15, none⟩ = some (.map (some M))) (hE : w.cell? ⟨0, 0, none⟩ = some (.iface t e0))
    (hl : ∀ o, (Instr.lookup 36 (.map (some M)) (.string q) true).run Ybad.prog (w.alloc o) = .ok (.tuple #[.agg zeroReg, .bool false]) (w.alloc o)) :
    Calls Ybad.prog 10 #[.pointer (some ⟨S, 0, none⟩), .string q, .slice sa sn sc] w fun e w' => e = .returned (.tuple #[.agg zeroReg, .iface t e0]) ∧ Below w.heap.size w w' := by
  have hs := World.block_lt_of_cell? _ _ hS
  have h0 := World.block_lt_of_cell? _ _ hE
  simp only at hs h0
  have hnot : ∀ (x : Bool) (w : World), (Op.unary .not (.bool x)).run Ybad.prog w = .ok (.bool (!x)) w := fun _ _ => rfl
  unfold zeroReg at hl ⊢
  go_enter Ybad.func10, Ybad.ntmps10
  go_wp2
  go_region
  all_goals (try go_wp2)
  all_goals exact bodyPost_ret (v := .tuple #[.agg #[.string { data := #[] }, .string { data := #[] }, .slice none 0 0, .slice none 0 0, .string { data := #[] }, .int .u64 0, .int .i64 0, .pointer none], .iface t e0]) (by simp [results, Ybad.results10, go_sem]) rfl ⟨rfl, (((Below.refl _ _).alloc (Nat.le_refl _) _).alloc (by simp) _).drew⟩

set_option maxHeartbeats 1000000 in
theorem spend_handed (S M : Nat) (q : ByteArray) (sa : Option Addr) (sn sc : Nat) (e0 : Value) (t : TypeId) (tm im : ByteArray) (ka : Option Addr) (kn kc : Nat) (ta : Option Addr) (tn tc : Nat) (to : ByteArray) (w : World) (hS : w.cell? ⟨S, 15, none⟩ = some (.map (some M))) (hE : w.cell? ⟨0, 0, none⟩ = some (.iface t e0))
    (hto : to.toList.isEmpty = false)
    (hl : ∀ o, (Instr.lookup 36 (.map (some M)) (.string q) true).run Ybad.prog (w.alloc o) = .ok (.tuple #[.agg (reg tm im ka kn kc ta tn tc to), .bool true]) (w.alloc o)) :
    Calls Ybad.prog 10 #[.pointer (some ⟨S, 0, none⟩), .string q, .slice sa sn sc] w fun e w' => e = .returned (.tuple #[.agg zeroReg, .iface t e0]) ∧ Below w.heap.size w w' := by
  have hs := World.block_lt_of_cell? _ _ hS
  have h0 := World.block_lt_of_cell? _ _ hE
  simp only at hs h0
  have hnot : ∀ (x : Bool) (w : World), (Op.unary .not (.bool x)).run Ybad.prog w = .ok (.bool (!x)) w := fun _ _ => rfl
  unfold zeroReg
  unfold reg at hl
  go_enter Ybad.func10, Ybad.ntmps10
  go_wp2
  go_region
  all_goals (try go_wp2)
  all_goals exact bodyPost_ret (v := .tuple #[.agg #[.string { data := #[] }, .string { data := #[] }, .slice none 0 0, .slice none 0 0, .string { data := #[] }, .int .u64 0, .int .i64 0, .pointer none], .iface t e0]) (by simp [results, Ybad.results10, go_sem]) rfl ⟨rfl, (((Below.refl _ _).alloc (Nat.le_refl _) _).alloc (by simp) _).drew⟩

theorem Bs.alloc {w : World} {a : Option Addr} {n : Nat} {z : Nat → Int} (h : Bs w a n z) (o : Obj) : Bs (w.alloc o) a n z :=
  ⟨h.len, h.byte, fun j hj => let ⟨b, p, e, g⟩ := h.cells j hj; ⟨b, p, e, cell?_alloc_old o g⟩⟩

theorem below_eight {w : World} {o1 o2 : Obj} {k : Nat} {v0 v1 v2 v3 v4 v5 v6 v7 : Value} : Below w.heap.size w ((((((((((w.alloc o1).alloc o2).drewN k).setCell ⟨w.heap.size, 0, none⟩ v0).setCell ⟨w.heap.size, 1, none⟩ v1).setCell ⟨w.heap.size, 2, none⟩ v2).setCell ⟨w.heap.size, 3, none⟩ v3).setCell ⟨w.heap.size, 4, none⟩ v4).setCell ⟨w.heap.size, 5, none⟩ v5).setCell ⟨w.heap.size, 6, none⟩ v6 |>.setCell ⟨w.heap.size, 7, none⟩ v7) := by
  have h : Below w.heap.size w (((w.alloc o1).alloc o2).drewN k) := (((Below.refl _ w).alloc (Nat.le_refl _) o1).alloc (by simp) o2).trans ⟨rfl, rfl, rfl, Nat.le_refl _, fun _ _ => rfl⟩
  exact (((((((h.setCell (Nat.le_refl _) _).setCell (Nat.le_refl _) _).setCell (Nat.le_refl _) _).setCell (Nat.le_refl _) _).setCell (Nat.le_refl _) _).setCell (Nat.le_refl _) _).setCell (Nat.le_refl _) _).setCell (Nat.le_refl _) _

set_option maxHeartbeats 1000000 in
theorem spend_spent (S M : Nat) (q : ByteArray) (sa : Option Addr) (sn sc : Nat) (e1 : Value) (t : TypeId) (tm im : ByteArray) (ka : Option Addr) (kn kc : Nat) (ta : Option Addr) (tn tc : Nat) (x y : Nat → Int) (w : World) (hS : w.cell? ⟨S, 15, none⟩ = some (.map (some M))) (hE : w.cell? ⟨1, 0, none⟩ = some (.iface t e1))
    (hx : Bs w ta tn x) (hy : Bs w sa sn y) (hne : eqB tn sn x y = false)
    (hl : ∀ o, (Instr.lookup 36 (.map (some M)) (.string q) true).run Ybad.prog (w.alloc o) = .ok (.tuple #[.agg (reg tm im ka kn kc ta tn tc { data := #[] }), .bool true]) (w.alloc o)) :
    Calls Ybad.prog 10 #[.pointer (some ⟨S, 0, none⟩), .string q, .slice sa sn sc] w fun e w' => e = .returned (.tuple #[.agg zeroReg, .iface t e1]) ∧ Below w.heap.size w w' := by
  have hs := World.block_lt_of_cell? _ _ hS
  have h0 := World.block_lt_of_cell? _ _ hE
  simp only at hs h0
  have h00 : 0 < w.heap.size := by omega
  have hE2 : ∀ o o' : Obj, ((w.alloc o).alloc o').cell? ⟨1, 0, none⟩ = some (.iface t e1) := fun o o' => cell?_alloc_old o' (cell?_alloc_old o hE)
  have hnot : ∀ (x : Bool) (w : World), (Op.unary .not (.bool x)).run Ybad.prog w = .ok (.bool (!x)) w := fun _ _ => rfl
  have HQ : Hid (∀ o o' : Obj, Calls Ybad.prog 16 #[.slice ta tn tc, .slice sa sn sc] ((w.alloc o).alloc o') fun e w' => e = .returned (.bool false) ∧ ∃ k, w' = ((w.alloc o).alloc o').drewN k) := fun o o' => by
    have := equal_any ta sa tn tc sn sc x y ((w.alloc o).alloc o') ((hx.alloc o).alloc o') ((hy.alloc o).alloc o')
    rw [hne] at this; exact this
  clear hx hy hne
  unfold zeroReg
  unfold reg at hl
  go_enter Ybad.func10, Ybad.ntmps10
  go_wp2_with (go_at_call 16; refine (HQ.out _ _).mono ?_; rintro e w1 ⟨rfl, k, rfl⟩)
  go_region
  all_goals (try go_wp2)
  all_goals exact bodyPost_ret (v := .tuple #[.agg #[.string { data := #[] }, .string { data := #[] }, .slice none 0 0, .slice none 0 0, .string { data := #[] }, .int .u64 0, .int .i64 0, .pointer none], .iface t e1]) (by simp [results, Ybad.results10, go_sem]) rfl ⟨rfl, below_eight⟩

set_option maxHeartbeats 1000000 in
theorem spend_held (S M : Nat) (q : ByteArray) (sa : Option Addr) (sn sc : Nat) (tm im : ByteArray) (ka : Option Addr) (kn kc : Nat) (ta : Option Addr) (tn tc : Nat) (x y : Nat → Int) (w : World) (hS : w.cell? ⟨S, 15, none⟩ = some (.map (some M)))
    (hx : Bs w ta tn x) (hy : Bs w sa sn y) (hne : eqB tn sn x y = true)
    (hl : ∀ o, (Instr.lookup 36 (.map (some M)) (.string q) true).run Ybad.prog (w.alloc o) = .ok (.tuple #[.agg (reg tm im ka kn kc ta tn tc { data := #[] }), .bool true]) (w.alloc o)) :
    Calls Ybad.prog 10 #[.pointer (some ⟨S, 0, none⟩), .string q, .slice sa sn sc] w fun e w' => e = .returned (.tuple #[.agg (reg tm im ka kn kc ta tn tc { data := #[] }), .nilIface]) ∧ Below w.heap.size w w' := by
  have hs := World.block_lt_of_cell? _ _ hS
  simp only at hs
  have hnot : ∀ (x : Bool) (w : World), (Op.unary .not (.bool x)).run Ybad.prog w = .ok (.bool (!x)) w := fun _ _ => rfl
  have HQ : Hid (∀ o o' : Obj, Calls Ybad.prog 16 #[.slice ta tn tc, .slice sa sn sc] ((w.alloc o).alloc o') fun e w' => e = .returned (.bool true) ∧ ∃ k, w' = ((w.alloc o).alloc o').drewN k) := fun o o' => by
    have := equal_any ta sa tn tc sn sc x y ((w.alloc o).alloc o') ((hx.alloc o).alloc o') ((hy.alloc o).alloc o')
    rw [hne] at this; exact this
  clear hx hy hne
  unfold reg at hl ⊢
  go_enter Ybad.func10, Ybad.ntmps10
  go_wp2_with (go_at_call 16; refine (HQ.out _ _).mono ?_; rintro e w1 ⟨rfl, k, rfl⟩)
  exact bodyPost_ret (v := .tuple #[.agg #[.string tm, .string im, .slice ka kn kc, .slice ta tn tc, .string { data := #[] }, .int .u64 0, .int .i64 0, .pointer none], .nilIface]) (by simp [results, Ybad.results10, go_sem]) rfl ⟨rfl, below_eight⟩
end Go.Proofs.YbulkcsbwDoor
