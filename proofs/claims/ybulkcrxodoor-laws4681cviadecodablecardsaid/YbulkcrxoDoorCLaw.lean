/-
  The law's model 'zzs4681cmodel', and the law.
-/
import Derived.Test.YbulkcrxoDoorCStat
namespace Go.Proofs.YbulkcrxoDoor
open Go.RowKit

/-- The eleven fields, in order. -/
def statCells (z : Nat → Int) (n : Nat) : Array Value := #[.int .i64 (wrap64 (fld z n 0 8)), .int .i64 (wrap64 (fld z n 8 8)), .int .i64 (wrap64 (fld z n 16 8)), .int .i64 (wrap64 (fld z n 24 8)), .int .i32 (wrap32 (fld z n 32 4)), .int .i32 (wrap32 (fld z n 36 4)), .int .i32 (wrap32 (fld z n 40 4)), .int .i64 (wrap64 (fld z n 44 8)), .int .i32 (wrap32 (fld z n 52 4)), .int .i32 (wrap32 (fld z n 56 4)), .int .i64 (wrap64 (fld z n 60 8))]

theorem fld4_mod (z : Nat → Int) (n p : Nat) (hz : ∀ j, 0 ≤ z j ∧ z j ≤ 255) : fld z n p 4 % 4294967296 = fld z n p 4 := by
  have h := beK_bd z p hz 4
  unfold fld; split <;> omega

set_option maxHeartbeats 2000000 in
set_option maxRecDepth 100000 in
theorem model_any (a : Option Addr) (b off n c : Nat) (z : Nat → Int) (w : World) (hn : n ≤ 4096) (hz : ∀ j, 0 ≤ z j ∧ z j ≤ 255)
    (ha : 0 < n → a = some ⟨b, off, none⟩) (hc : ∀ j, j < n → w.cell? ⟨b, off + j, none⟩ = some (.int .u8 (z j))) :
    Calls Ybad.prog 18 #[.slice a n c] w fun e w' => e = .returned (.agg (statCells z n)) ∧ ∃ o, w' = w.alloc o := by
  have hbs : 0 < n → b < w.heap.size := fun h => World.block_lt_of_cell? _ _ (hc 0 h)
  have HC : Hid (∀ o : Obj, ∀ j, j < n → (w.alloc o).cell? ⟨b, off + j, none⟩ = some (.int .u8 (z j))) := fun o j hj => cell?_alloc_old o (hc j hj)
  have HA : Hid (0 < n → a = some ⟨b, off, none⟩) := ha
  have HZ : Hid (∀ j, 0 ≤ z j ∧ z j ≤ 255) := hz
  clear hz ha hc hbs
  go_enter Ybad.func18, Ybad.ntmps18
  go_wp2_with fail
  refine (cbe_any a b off n c z 0 8 _ hn (by omega) (by omega) HZ.out HA.out (HC.out _)).mono ?_
  rintro e w1 ⟨rfl, hw⟩
  subst hw
  go_wp2_with fail
  refine (cbe_any a b off n c z 8 8 _ hn (by omega) (by omega) HZ.out HA.out (HC.out _)).mono ?_
  rintro e w1 ⟨rfl, hw⟩
  subst hw
  go_wp2_with fail
  refine (cbe_any a b off n c z 16 8 _ hn (by omega) (by omega) HZ.out HA.out (HC.out _)).mono ?_
  rintro e w1 ⟨rfl, hw⟩
  subst hw
  go_wp2_with fail
  refine (cbe_any a b off n c z 24 8 _ hn (by omega) (by omega) HZ.out HA.out (HC.out _)).mono ?_
  rintro e w1 ⟨rfl, hw⟩
  subst hw
  go_wp2_with fail
  refine (cbe_any a b off n c z 32 4 _ hn (by omega) (by omega) HZ.out HA.out (HC.out _)).mono ?_
  rintro e w1 ⟨rfl, hw⟩
  subst hw
  go_wp2_with fail
  refine (cbe_any a b off n c z 36 4 _ hn (by omega) (by omega) HZ.out HA.out (HC.out _)).mono ?_
  rintro e w1 ⟨rfl, hw⟩
  subst hw
  go_wp2_with fail
  refine (cbe_any a b off n c z 40 4 _ hn (by omega) (by omega) HZ.out HA.out (HC.out _)).mono ?_
  rintro e w1 ⟨rfl, hw⟩
  subst hw
  go_wp2_with fail
  refine (cbe_any a b off n c z 44 8 _ hn (by omega) (by omega) HZ.out HA.out (HC.out _)).mono ?_
  rintro e w1 ⟨rfl, hw⟩
  subst hw
  go_wp2_with fail
  refine (cbe_any a b off n c z 52 4 _ hn (by omega) (by omega) HZ.out HA.out (HC.out _)).mono ?_
  rintro e w1 ⟨rfl, hw⟩
  subst hw
  go_wp2_with fail
  refine (cbe_any a b off n c z 56 4 _ hn (by omega) (by omega) HZ.out HA.out (HC.out _)).mono ?_
  rintro e w1 ⟨rfl, hw⟩
  subst hw
  go_wp2_with fail
  refine (cbe_any a b off n c z 60 8 _ hn (by omega) (by omega) HZ.out HA.out (HC.out _)).mono ?_
  rintro e w1 ⟨rfl, hw⟩
  subst hw
  go_wp2_with fail
  refine bodyPost_ret (v := .agg (statCells z n)) ?_ rfl ⟨rfl, _, rfl⟩
  have hm := fun p => fld4_mod z n p HZ.out
  simp [results, Ybad.results18, go_sem, statCells, hm]

set_option maxHeartbeats 1000000 in
set_option maxRecDepth 100000 in
theorem Decode_any (a : Option Addr) (S b off n c : Nat) (t : TypeId) (ev r : Value) (z : Nat → Int) (V : Nat → Value) (w : World) (hnc : n ≤ c) (hcm : c ≤ 9223372036854775807) (hz : ∀ j, 0 ≤ z j ∧ z j ≤ 255)
    (ha : 0 < n → a = some ⟨b, off, none⟩) (hc : ∀ j, j < n → w.cell? ⟨b, off + j, none⟩ = some (.int .u8 (z j))) (he : w.cell? ⟨0, 0, none⟩ = some (.iface t ev))
    (hS0 : S ≠ 0) (hSb : 0 < n → S ≠ b) (hS : ∀ i, i < 11 → w.cell? ⟨S, i, none⟩ = some (V i) ∧ w.frozen? ⟨S, i, none⟩ = false)
    (hr : (n < 68 → r = .iface t ev) ∧ (68 ≤ n → r = .nilIface)) :
    Calls Ybad.prog 20 #[.slice a n c, .iface 126 (.pointer (some ⟨S, 0, none⟩))] w fun e w' => e = .returned r ∧ (∀ i, i < 11 → w'.cell? ⟨S, i, none⟩ = some (statV z n V i) ∧ w'.frozen? ⟨S, i, none⟩ = false) ∧ Fr (· = S) w w' := by
  have hSs : S < w.heap.size := World.block_lt_of_cell? _ _ (hS 0 (by omega)).1
  have h00 : 0 < w.heap.size := World.block_lt_of_cell? _ _ he
  have f : Fr (fun _ => False) w (w.alloc (.cells #[.slice a n c, .nilIface] 123)) := (Fr.refl _ _).alloc _
  have h0 : Stt (w.alloc (.cells #[.slice a n c, .nilIface] 123)) (w.alloc (.cells #[.slice a n c, .nilIface] 123)) w.heap.size S b off n c t ev z 0 V := by
    refine ⟨⟨?_, ?_, fun _ => ⟨a, ?_, ?_, ?_⟩, fun h => by omega⟩, ⟨hnc, hcm, hz, fun h e => ?_, fun h => ?_, by simp, by omega, fun j hj => cell?_alloc_old _ (hc j hj), cell?_alloc_old _ he⟩, fun i hi => ⟨cell?_alloc_old _ (hS i hi).1, ?_⟩, by omega, hS0, hSb, by simp; omega, Fr.refl _ _⟩
    · simp
    · simp
    · simp
    · intro h; simpa using ha h
    · simp
    · have := World.block_lt_of_cell? _ _ (hc 0 h); simp at this; omega
    · have := World.block_lt_of_cell? _ _ (hc 0 h); simp at this ⊢; omega
    · exact (f.frozen (p := ⟨S, i, none⟩) hSs (fun h => h)).trans (hS i hi).2
  clear ha hc hS
  have HZ : Hid (∀ j, 0 ≤ z j ∧ z j ≤ 255) := hz
  have HR : Hid ((n < 68 → r = .iface t ev) ∧ (68 ≤ n → r = .nilIface)) := hr
  clear hz hr
  go_enter Ybad.func20, Ybad.ntmps20
  go_wp2_with (go_at_call 16; go_in)
  refine (decode_any w.heap.size S b off n c t ev z V _ _ h0).mono ?_
  rintro e w1 ⟨rfl, h1⟩
  have g1 : w1.cell? ⟨w.heap.size, 1, none⟩ = some r := by
    by_cases h68 : n < 68
    · rw [HR.out.1 h68]; exact (h1.dec.dead h68).2
    · rw [HR.out.2 (by omega)]; obtain ⟨_, _, _, g⟩ := h1.dec.live (by omega); exact g
  clear h0
  go_wp2
  go_ret
  refine ⟨rfl, h1.cells, ?_⟩
  have k := f.mono (S' := fun k => k = w.heap.size ∨ k = S) (fun _ h => h.elim)
  have m := k.trans h1.fr
  exact ⟨m.os, m.tape, m.output, m.size, fun i hi hn => m.block i hi (fun h => h.elim (fun e => by omega) hn)⟩
end Go.Proofs.YbulkcrxoDoor
