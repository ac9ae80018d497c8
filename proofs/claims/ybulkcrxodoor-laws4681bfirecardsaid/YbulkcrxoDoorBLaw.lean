/-
  LawS4681BFire: the law's own walk.
-/
import Derived.Test.YbulkcrxoDoorB6
import Derived.Deep.DeepCutAuto
import Derived.Deep.CutBlock
import Derived.Deep.RegionWith
import Derived.Deep.RegionLaw
set_option linter.unusedVariables false
namespace Go.Proofs.YbulkcrxoDoor.F
open Go.RowKit Go.Any
open Go.ChangeMaps (setBlock)

set_option maxHeartbeats 100000000 in
set_option maxRecDepth 100000 in
theorem blaw (wa : Option Addr) (nw wcap ev0 at0 cn0 : Nat) (w : World) (hnw : nw ≤ 1024) (hev0 : ev0 < 256) (hat0 : at0 < 256) (hcn0 : cn0 < 256) (wp wq wk : Nat → Nat) (HW : Hid (Ws w wa nw wp wq wk)) (HE : Hid (2 ≤ w.heap.size ∧ w.cell? ⟨1, 0, none⟩ = some (.int .i32 (-1)) ∧ w.cell? ⟨1, 1, none⟩ = some (.int .i64 (-1)) ∧ w.cell? ⟨1, 2, none⟩ = some (.int .i32 0))) :
    Calls Ybad.prog 4 #[.slice wa nw wcap, .int .u8 (ev0 : Int), .int .u8 (at0 : Int), .int .u8 (cn0 : Int)] w fun e w' => e = .returned (.bool true) ∧ Below w.heap.size w w' := by
  have e1 : ¬ (1024 : Int) < nw := by omega
  obtain ⟨ei, hei⟩ : ∃ x, Hid (x = ev0 % 5) := ⟨_, rfl⟩
  have er5 : Int.tmod (ev0 : Int) 5 = (ei : Int) := by rw [Int.tmod_eq_emod_of_nonneg (by omega)]; have := hei.out; omega
  have hei5 : ei < 5 := by have := hei.out; omega
  obtain ⟨ai, hai⟩ : ∃ x, Hid (x = at0 % 3) := ⟨_, rfl⟩
  have er3 : Int.tmod (at0 : Int) 3 = (ai : Int) := by rw [Int.tmod_eq_emod_of_nonneg (by omega)]; have := hai.out; omega
  have hai3 : ai < 3 := by have := hai.out; omega
  obtain ⟨fp, hfp⟩ : ∃ x, Hid (x = 1 + ai) := ⟨_, rfl⟩
  have efp : (1 : Int) + (ai : Int) = (fp : Int) := by have := hfp.out; omega
  have hfp13 : 1 ≤ fp ∧ fp ≤ 3 := by have := hfp.out; omega
  go_enter Ybad.func4, Ybad.ntmps4
  go_upto_if 67 with (go_at_call 12; refine (bev ei hei5 _).mono ?_; rintro e w1 ⟨rfl, hw1⟩; have hw1 := hw1.symm; subst hw1)
  obtain ⟨en, hen⟩ : ∃ x, Hid (x = evn ei) := ⟨_, rfl⟩
  rw [← hen.out]
  obtain ⟨pp, hpp⟩ : ∃ x, Hid (x = pr fp) := ⟨_, rfl⟩
  have hpp4 : pp < 4 := by rw [hpp.out]; unfold pr; split <;> omega
  rename_i K5 h5
  have HS5 : ∀ a w, StopB (restB 6) _ a w → K5 a w := h5
  clear h5
  by_cases h2 : fp = 2
  · obtain rfl : pp = 1 := by rw [hpp.out, h2]; rfl
    have h2' : (fp : Int) = 2 := by omega
    go_wp2
    exact b6 _ _ _ _ _ _ _ _ _ _ _ _ HW HE hnw hcn0 hei5 hen hpp hpp4 hfp13
  · obtain rfl : pp = 0 := by rw [hpp.out]; unfold pr; rw [if_neg h2]
    have h2' : ¬ (fp : Int) = 2 := by omega
    go_wp2
    exact b6 _ _ _ _ _ _ _ _ _ _ _ _ HW HE hnw hcn0 hei5 hen hpp hpp4 hfp13
end Go.Proofs.YbulkcrxoDoor.F
