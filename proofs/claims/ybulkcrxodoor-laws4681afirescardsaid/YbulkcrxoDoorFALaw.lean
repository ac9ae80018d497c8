/-
  LawS4681AFires: the law's own walk.
-/
import Derived.Test.YbulkcrxoDoorFABuild
import Derived.Deep.DeepCutAuto
import Derived.Deep.CutBlock
import Derived.Deep.RegionWith
import Derived.Deep.RegionLaw
set_option linter.unusedVariables false
namespace Go.Proofs.YbulkcrxoDoor.F
open Go.RowKit Go.Any
open Go.ChangeMaps (setBlock)

set_option maxHeartbeats 100000000 in
set_option maxRecDepth 100000 in
theorem alaw (cn : Fin 4 → Nat) (hcn : ∀ i, cn i < 256) (wa : Option Addr) (nw wcap : Nat) (ev : Int) (ps : Nat) (ka : Option Addr) (nk kc : Nat) (w : World) (hnw : nw ≤ 1024) (hnk : nk ≤ 1024) (hps : ps < 256) (u : Nat) (hwr : IntKind.u32.wrap ev = (u : Int)) (hu : u < 4294967296) (wp wq wk kr : Nat → Nat) (HW : Hid (Ws w wa nw wp wq wk)) (HKs : Hid (Ks w ka nk kr)) (HE : Hid (2 ≤ w.heap.size ∧ w.cell? ⟨1, 0, none⟩ = some (.int .i32 (-1)) ∧ w.cell? ⟨1, 1, none⟩ = some (.int .i64 (-1)) ∧ w.cell? ⟨1, 2, none⟩ = some (.int .i32 0))) :
    Calls Ybad.prog 3 #[.slice wa nw wcap, .agg #[.int .u8 (cn 0), .int .u8 (cn 1), .int .u8 (cn 2), .int .u8 (cn 3)], .int .i32 ev, .int .u8 (ps : Int), .slice ka nk kc] w fun e w' => e = .returned (.bool true) ∧ Below w.heap.size w w' := by
  have e1 : ¬ (1024 : Int) < nw := by omega
  have e2 : ¬ (1024 : Int) < nk := by omega
  go_enter Ybad.func3, Ybad.ntmps3
  go_wp2_with fail
  have hc0 : Hid (∀ j : Fin 4, (w.alloc (Obj.cells #[.int .u8 (cn 0), .int .u8 (cn 1), .int .u8 (cn 2), .int .u8 (cn 3)] 23)).cell? ⟨w.heap.size, j.val, none⟩ = some (.int .u8 (cn j))) := fun j => by
    rw [alloc_new]
    match j with
    | 0 => rfl
    | 1 => rfl
    | 2 => rfl
    | 3 => rfl
  have hb0 : Hid (Below w.heap.size w (w.alloc (Obj.cells #[.int .u8 (cn 0), .int .u8 (cn 1), .int .u8 (cn 2), .int .u8 (cn 3)] 23))) := (Below.refl _ _).alloc (Nat.le_refl _) _
  have hz0 : (w.alloc (Obj.cells #[.int .u8 (cn 0), .int .u8 (cn 1), .int .u8 (cn 2), .int .u8 (cn 3)] 23)).heap.size = w.heap.size + 1 := by simp
  generalize w.alloc (Obj.cells #[.int .u8 (cn 0), .int .u8 (cn 1), .int .u8 (cn 2), .int .u8 (cn 3)] 23) = w0 at hc0 hb0 hz0 ⊢
  have Q0 : Hid (P1 w0 ((w0.alloc (Obj.cells #[.pointer none, .pointer none, .pointer none, .pointer none] 26)).alloc (Obj.cells #[.pointer none, .pointer none, .pointer none, .pointer none] 28)) (w.heap.size + 1) (w.heap.size + 1) (w.heap.size + 1 + 1) 0 (fun _ => 0) (fun _ => none)) := by
    have es : (w0.alloc (Obj.cells #[.pointer none, .pointer none, .pointer none, .pointer none] 26)).heap.size = w.heap.size + 1 + 1 := by simp [hz0]
    have b1 : ((w0.alloc (Obj.cells #[.pointer none, .pointer none, .pointer none, .pointer none] 26)).alloc (Obj.cells #[.pointer none, .pointer none, .pointer none, .pointer none] 28)).heap[w.heap.size + 1]? = some (.cells #[.pointer none, .pointer none, .pointer none, .pointer none] 26) := by
      rw [Below.heap_alloc _ _ _ (by rw [es]; omega), ← hz0]
      exact heap_alloc_new w0 _
    have b2 : ((w0.alloc (Obj.cells #[.pointer none, .pointer none, .pointer none, .pointer none] 26)).alloc (Obj.cells #[.pointer none, .pointer none, .pointer none, .pointer none] 28)).heap[w.heap.size + 1 + 1]? = some (.cells #[.pointer none, .pointer none, .pointer none, .pointer none] 28) := by
      rw [← es]
      exact heap_alloc_new _ _
    have sz : ((w0.alloc (Obj.cells #[.pointer none, .pointer none, .pointer none, .pointer none] 26)).alloc (Obj.cells #[.pointer none, .pointer none, .pointer none, .pointer none] 28)).heap.size = w.heap.size + 3 := by simp [hz0]
    refine ⟨by rw [← hz0]; exact ((Below.refl _ _).alloc (Nat.le_refl _) _).alloc (by simp) _, fun j hj => by omega, fun j hj => by omega, fun j _ => ?_, fun j => ?_, ⟨_, _, b1⟩, ⟨_, _, b2⟩, fun j hj => by omega, fun j hj => by omega, fun j C cl hj => by omega, fun j k hj => by omega, fun j k C cl hj => by omega, fun j k C cl cl' hj => by omega, by omega, by omega, by omega, by omega, by omega⟩
    · simp only [World.cell?, b2]
      match j with
      | 0 => rfl
      | 1 => rfl
      | 2 => rfl
      | 3 => rfl
    · simp only [World.cell?, b1]
      match j with
      | 0 => rfl
      | 1 => rfl
      | 2 => rfl
      | 3 => rfl
  generalize (w0.alloc (Obj.cells #[.pointer none, .pointer none, .pointer none, .pointer none] 26)).alloc (Obj.cells #[.pointer none, .pointer none, .pointer none, .pointer none] 28) = w1 at Q0 ⊢
  obtain ⟨SA, hSA⟩ : ∃ SA, Hid (SA = w.heap.size + 1) := ⟨_, rfl⟩
  obtain ⟨CA, hCA⟩ : ∃ CA, Hid (CA = w.heap.size + 1 + 1) := ⟨_, rfl⟩
  rw [← hCA.out] at Q0 ⊢
  rw [← hSA.out] at Q0 ⊢
  rename_i K1 h1
  have HS1 : ∀ a w, Stop (restA 5) _ a w → K1 a w := h1
  clear h1
  go_loopw [13] (fun v wr => ∃ (i : Nat) (SB : Fin 4 → Nat) (CB : Fin 4 → Option (Nat × Bool)), i ≤ 4 ∧ v = .int .i64 i ∧ Hid (P1 w0 wr SA SA CA i SB CB)) (fun v _ => 4 - (intOf v).toNat)
  case atStart => exact ⟨0, _, _, by omega, rfl, Q0⟩
  case round =>
    obtain ⟨i, SB, CB, hi, rfl, Q⟩ := hrel
    clear Q0
    by_cases hlt : i < 4
    · have hlt' : (i : Int) < 4 := by omega
      have gcn := (Q.out.bel.cell (p := ⟨w.heap.size, i, none⟩) (by have := hSA.out; show w.heap.size < SA; omega)).trans (hc0.out ⟨i, hlt⟩)
      obtain ⟨us, gs⟩ := Option.isSome_iff_exists.1 (Q.out.ts ⟨i, hlt⟩)
      have gc := Q.out.c0 ⟨i, hlt⟩ (Nat.le_refl _)
      have fs := fz Q.out.bs i
      have fc := fz Q.out.bc i
      have lS := Q.out.lS
      have lC := Q.out.lC
      obtain ⟨cv, hcv⟩ : ∃ cv, Hid (cv = cn ⟨i, hlt⟩) := ⟨_, rfl⟩
      rw [← hcv.out] at gcn
      have hk1 : w.heap.size < wr.heap.size := by have := hSA.out; omega
      have hk2 : ¬ w.heap.size = SA := by have := hSA.out; omega
      have hk3 : ¬ w.heap.size = CA := by have := hCA.out; omega
      have hk4 := Q.out.ne
      obtain ⟨r, hr⟩ : ∃ r, Hid (r = cv % 3) := ⟨_, rfl⟩
      have er : Int.tmod (cv : Int) 3 = (r : Int) := by rw [Int.tmod_eq_emod_of_nonneg (by omega)]; have := hr.out; omega
      have hr3 : r < 3 := by have := hr.out; omega
      simp only at gs gc
      rcases (show r = 0 ∨ r = 1 ∨ r = 2 by omega) with rfl | rfl | rfl
      · go_wp2
        exact ⟨⟨i + 1, _, _, hlt, rfl, step0 Q.out hlt⟩, by simp [intOf]; omega⟩
      · go_wp2
        exact ⟨⟨i + 1, _, _, hlt, rfl, step1 Q.out hlt false⟩, by simp [intOf]; omega⟩
      · go_wp2
        exact ⟨⟨i + 1, _, _, hlt, rfl, step1 Q.out hlt true⟩, by simp [intOf]; omega⟩
    · obtain rfl : i = 4 := by omega
      go_wp2
      exact abuild _ _ _ _ _ _ _ _ _ _ _ _ _ _ _ _ _ _ _ _ hSA hCA Q (hb0.out.trans (Q.out.bel.mono (by have := hSA.out; omega))) HW HKs HE hnw hnk hps hwr hu
end Go.Proofs.YbulkcrxoDoor.F
