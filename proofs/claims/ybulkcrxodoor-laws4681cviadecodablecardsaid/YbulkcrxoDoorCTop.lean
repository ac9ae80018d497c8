/-
  The law 'LawS4681CViaDecodable': the walk.
-/
import Derived.Test.YbulkcrxoDoorCLaw
import Derived.LaidEql
import Derived.Deep.DeepCutAuto
namespace Go.Proofs.YbulkcrxoDoor
open Go.RowKit

theorem Ybad.comp178 : (Ybad.prog.info? 178).map (·.comparable) = some true := by kernel_rfl
theorem Ybad.size218 : (Ybad.prog.info? 218).map (·.size) = some 1 := by kernel_rfl

theorem err_same (e0 : Addr) (w : World) : (binOp .eql 120 (.iface 178 (.pointer (some e0))) (.iface 178 (.pointer (some e0)))).run Ybad.prog w = .ok (.bool true) w := by
  obtain ⟨i, hi, hc⟩ := Option.map_eq_some_iff.1 Ybad.comp178
  obtain ⟨j, hj, _⟩ := Option.map_eq_some_iff.1 Ybad.size218
  exact run_eql_iface_ptr_same w e0 Ybad.underlying120 Ybad.underlying178 hi hc hj

theorem statV_cells (z : Nat → Int) (n : Nat) (V : Nat → Value) (i : Nat) (hi : i < 11) : statV z n V i = (statCells z n).getD i undef := by
  match i, hi with
  | 0, _ => rfl
  | 1, _ => rfl
  | 2, _ => rfl
  | 3, _ => rfl
  | 4, _ => rfl
  | 5, _ => rfl
  | 6, _ => rfl
  | 7, _ => rfl
  | 8, _ => rfl
  | 9, _ => rfl
  | 10, _ => rfl

theorem stat_neq (x0 x1 x2 x3 x4 x5 x6 x7 x8 x9 x10 : Int) (w : World) : (binOp .neq 114 (.agg #[.int .i64 x0, .int .i64 x1, .int .i64 x2, .int .i64 x3, .int .i32 x4, .int .i32 x5, .int .i32 x6, .int .i64 x7, .int .i32 x8, .int .i32 x9, .int .i64 x10]) (.agg #[.int .i64 x0, .int .i64 x1, .int .i64 x2, .int .i64 x3, .int .i32 x4, .int .i32 x5, .int .i32 x6, .int .i64 x7, .int .i32 x8, .int .i32 x9, .int .i64 x10])).run Ybad.prog w = .ok (.bool false) w := by
  have ht : Ybad.prog.underlying 114 = some (.struct (Ybad.prog.fieldsOf 114)) := by kernel_rfl
  have hp : Ybad.prog.stoodInHeld 114 = false := by kernel_rfl
  rw [run_neq_struct, run_equalIn_struct w 9999 114 _ _ ht hp]
  simp [Program.fieldsOf, Ybad.underlying114, Op.eqFields, go_sem]

theorem stat_eql (x0 x1 x2 x3 x4 x5 x6 x7 x8 x9 x10 : Int) (w : World) : (binOp .eql 114 (.agg #[.int .i64 x0, .int .i64 x1, .int .i64 x2, .int .i64 x3, .int .i32 x4, .int .i32 x5, .int .i32 x6, .int .i64 x7, .int .i32 x8, .int .i32 x9, .int .i64 x10]) (.agg #[.int .i64 x0, .int .i64 x1, .int .i64 x2, .int .i64 x3, .int .i32 x4, .int .i32 x5, .int .i32 x6, .int .i64 x7, .int .i32 x8, .int .i32 x9, .int .i64 x10])).run Ybad.prog w = .ok (.bool true) w := by
  have ht : Ybad.prog.underlying 114 = some (.struct (Ybad.prog.fieldsOf 114)) := by kernel_rfl
  have hp : Ybad.prog.stoodInHeld 114 = false := by kernel_rfl
  rw [run_eql_struct, run_equalIn_struct w 9999 114 _ _ ht hp]
  simp [Program.fieldsOf, Ybad.underlying114, Op.eqFields, go_sem]

set_option maxHeartbeats 400000 in
theorem law_long (a : Option Addr) (n c : Nat) (w : World) (hn : 4096 < n) (hm : n ≤ 9223372036854775807) :
    Calls Ybad.prog 6 #[.slice a n c] w fun e w' => e = .returned (.bool true) ∧ Below w.heap.size w w' := by
  go_enter Ybad.func6, Ybad.ntmps6
  go_wp2
  go_ret
  exact ⟨rfl, Below.refl _ _⟩

/-- A Stat of nought. -/
def zeroStat : Array Value := #[.int .i64 0, .int .i64 0, .int .i64 0, .int .i64 0, .int .i32 0, .int .i32 0, .int .i32 0, .int .i64 0, .int .i32 0, .int .i32 0, .int .i64 0]

set_option maxHeartbeats 1000000 in
set_option maxRecDepth 100000 in
theorem law_short (a : Option Addr) (b off n c : Nat) (e0 : Addr) (z : Nat → Int) (w : World) (hn : n < 68) (hnc : n ≤ c) (hcm : c ≤ 9223372036854775807) (hz : ∀ j, 0 ≤ z j ∧ z j ≤ 255)
    (ha : 0 < n → a = some ⟨b, off, none⟩) (hc : ∀ j, j < n → w.cell? ⟨b, off + j, none⟩ = some (.int .u8 (z j))) (he : w.cell? ⟨0, 0, none⟩ = some (.iface 178 (.pointer (some e0)))) :
    Calls Ybad.prog 6 #[.slice a n c] w fun e w' => e = .returned (.bool true) ∧ Below w.heap.size w w' := by
  have h00 : 0 < w.heap.size := World.block_lt_of_cell? _ _ he
  have hbs : 0 < n → b < w.heap.size := fun h => World.block_lt_of_cell? _ _ (hc 0 h)
  have hD := Decode_any a w.heap.size b off n c 178 (.pointer (some e0)) (.iface 178 (.pointer (some e0))) z (fun i => zeroStat.getD i undef) (w.alloc (.cells zeroStat 114)) hnc hcm hz ha (fun j hj => cell?_alloc_old _ (hc j hj)) (cell?_alloc_old _ he)
    (by omega) (fun h => by have := hbs h; omega) (fun i hi => ⟨by simp; simp [zeroStat, hi], by simp⟩) ⟨fun _ => rfl, fun h => by omega⟩
  have hM := fun (w1 : World) (h : Fr (fun k => k = w.heap.size) (w.alloc (.cells zeroStat 114)) w1) => model_any a b off n c z w1 (by omega) hz ha (fun j hj => (h.cell (p := ⟨b, off + j, none⟩) (by have := hbs (by omega); simp; omega) (by have := hbs (by omega); simp; omega)).trans (cell?_alloc_old _ (hc j hj)))
  have hE := fun (w1 : World) (h : Fr (fun k => k = w.heap.size) (w.alloc (.cells zeroStat 114)) w1) => (h.cell (p := ⟨0, 0, none⟩) (by simp) (by simp; omega)).trans (cell?_alloc_old _ he)
  have HM : Hid (∀ (w1 : World) (h : Fr (fun k => k = w.heap.size) (w.alloc (.cells zeroStat 114)) w1), Calls Ybad.prog 18 #[.slice a n c] w1 fun e w' => e = .returned (.agg #[.int .i64 (wrap64 (fld z n 0 8)), .int .i64 (wrap64 (fld z n 8 8)), .int .i64 (wrap64 (fld z n 16 8)), .int .i64 (wrap64 (fld z n 24 8)), .int .i32 (wrap32 (fld z n 32 4)), .int .i32 (wrap32 (fld z n 36 4)), .int .i32 (wrap32 (fld z n 40 4)), .int .i64 (wrap64 (fld z n 44 8)), .int .i32 (wrap32 (fld z n 52 4)), .int .i32 (wrap32 (fld z n 56 4)), .int .i64 (wrap64 (fld z n 60 8))]) ∧ ∃ o, w' = w1.alloc o) := hM
  have HE : Hid (∀ (w1 : World) (h : Fr (fun k => k = w.heap.size) (w.alloc (.cells zeroStat 114)) w1), w1.cell? ⟨0, 0, none⟩ = some (.iface 178 (.pointer (some e0)))) := hE
  have heq := err_same e0
  clear hM hE hc ha hz
  go_enter Ybad.func6, Ybad.ntmps6
  go_wp2_with fail
  refine hD.mono ?_
  rintro e w1 ⟨rfl, hcells, hf⟩
  clear hD
  have k0 : w1.cell? ⟨w.heap.size, 0, none⟩ = some (.int .i64 (wrap64 (fld z n 0 8))) := (hcells 0 (by omega)).1.trans (congrArg some (statV_cells z n _ 0 (by omega)))
  have k1 : w1.cell? ⟨w.heap.size, 1, none⟩ = some (.int .i64 (wrap64 (fld z n 8 8))) := (hcells 1 (by omega)).1.trans (congrArg some (statV_cells z n _ 1 (by omega)))
  have k2 : w1.cell? ⟨w.heap.size, 2, none⟩ = some (.int .i64 (wrap64 (fld z n 16 8))) := (hcells 2 (by omega)).1.trans (congrArg some (statV_cells z n _ 2 (by omega)))
  have k3 : w1.cell? ⟨w.heap.size, 3, none⟩ = some (.int .i64 (wrap64 (fld z n 24 8))) := (hcells 3 (by omega)).1.trans (congrArg some (statV_cells z n _ 3 (by omega)))
  have k4 : w1.cell? ⟨w.heap.size, 4, none⟩ = some (.int .i32 (wrap32 (fld z n 32 4))) := (hcells 4 (by omega)).1.trans (congrArg some (statV_cells z n _ 4 (by omega)))
  have k5 : w1.cell? ⟨w.heap.size, 5, none⟩ = some (.int .i32 (wrap32 (fld z n 36 4))) := (hcells 5 (by omega)).1.trans (congrArg some (statV_cells z n _ 5 (by omega)))
  have k6 : w1.cell? ⟨w.heap.size, 6, none⟩ = some (.int .i32 (wrap32 (fld z n 40 4))) := (hcells 6 (by omega)).1.trans (congrArg some (statV_cells z n _ 6 (by omega)))
  have k7 : w1.cell? ⟨w.heap.size, 7, none⟩ = some (.int .i64 (wrap64 (fld z n 44 8))) := (hcells 7 (by omega)).1.trans (congrArg some (statV_cells z n _ 7 (by omega)))
  have k8 : w1.cell? ⟨w.heap.size, 8, none⟩ = some (.int .i32 (wrap32 (fld z n 52 4))) := (hcells 8 (by omega)).1.trans (congrArg some (statV_cells z n _ 8 (by omega)))
  have k9 : w1.cell? ⟨w.heap.size, 9, none⟩ = some (.int .i32 (wrap32 (fld z n 56 4))) := (hcells 9 (by omega)).1.trans (congrArg some (statV_cells z n _ 9 (by omega)))
  have k10 : w1.cell? ⟨w.heap.size, 10, none⟩ = some (.int .i64 (wrap64 (fld z n 60 8))) := (hcells 10 (by omega)).1.trans (congrArg some (statV_cells z n _ 10 (by omega)))
  clear hcells
  generalize wrap64 (fld z n 0 8) = x0 at *
  generalize wrap64 (fld z n 8 8) = x1 at *
  generalize wrap64 (fld z n 16 8) = x2 at *
  generalize wrap64 (fld z n 24 8) = x3 at *
  generalize wrap32 (fld z n 32 4) = x4 at *
  generalize wrap32 (fld z n 36 4) = x5 at *
  generalize wrap32 (fld z n 40 4) = x6 at *
  generalize wrap64 (fld z n 44 8) = x7 at *
  generalize wrap32 (fld z n 52 4) = x8 at *
  generalize wrap32 (fld z n 56 4) = x9 at *
  generalize wrap64 (fld z n 60 8) = x10 at *
  have hne := stat_neq x0 x1 x2 x3 x4 x5 x6 x7 x8 x9 x10
  have hz1 : w.heap.size < w1.heap.size := by have := hf.size; simp at this; omega
  have hdec : decide ((4096 : Int) < (n : Int)) = false := decide_eq_false (by omega)
  go_wp2_with fail
  go_region_with (go_at_call 18; refine (HM.out _ ?_).mono ?_; exact hf.drewN 1; rintro e w2 ⟨rfl, o, rfl⟩)
  all_goals
    have hE1 := HE.out w1 hf
    have h01 : 0 < w1.heap.size := by omega
    clear k0 k1 k2 k3 k4 k5 k6 k7 k8 k9 k10
    go_wp2
    go_ret
    exact ⟨rfl, ((((Below.refl _ w).alloc (Nat.le_refl _) (.cells zeroStat 114)).trans (hf.below (B := w.heap.size) (by simp) (fun k e => by omega))).alloc (by omega) o).drew⟩
theorem statCells_68 (z : Nat → Int) (n : Nat) (hn : 68 ≤ n) : statCells z 68 = statCells z n := by
  have e : ∀ p k, p + k ≤ 68 → fld z 68 p k = fld z n p k := fun p k h => by rw [fld, fld, if_pos h, if_pos (by omega)]
  unfold statCells
  rw [e 0 8 (by omega), e 8 8 (by omega), e 16 8 (by omega), e 24 8 (by omega), e 32 4 (by omega), e 36 4 (by omega), e 40 4 (by omega), e 44 8 (by omega), e 52 4 (by omega), e 56 4 (by omega), e 60 8 (by omega)]

set_option maxHeartbeats 1000000 in
set_option maxRecDepth 100000 in
theorem law_full (b off n c : Nat) (e0 : Addr) (z : Nat → Int) (w : World) (hn : 68 ≤ n) (hnm : n ≤ 4096) (hnc : n ≤ c) (hcm : c ≤ 9223372036854775807) (hz : ∀ j, 0 ≤ z j ∧ z j ≤ 255)
    (hc : ∀ j, j < n → w.cell? ⟨b, off + j, none⟩ = some (.int .u8 (z j))) (he : w.cell? ⟨0, 0, none⟩ = some (.iface 178 (.pointer (some e0)))) :
    Calls Ybad.prog 6 #[.slice (some ⟨b, off, none⟩) n c] w fun e w' => e = .returned (.bool true) ∧ Below w.heap.size w w' := by
  have h00 : 0 < w.heap.size := World.block_lt_of_cell? _ _ he
  have hbs : 0 < n → b < w.heap.size := fun h => World.block_lt_of_cell? _ _ (hc 0 h)
  have hD := Decode_any (some ⟨b, off, none⟩) w.heap.size b off n c 178 (.pointer (some e0)) .nilIface z (fun i => zeroStat.getD i undef) (w.alloc (.cells zeroStat 114)) hnc hcm hz (fun _ => rfl) (fun j hj => cell?_alloc_old _ (hc j hj)) (cell?_alloc_old _ he)
    (by omega) (fun h => by have := hbs h; omega) (fun i hi => ⟨by simp; simp [zeroStat, hi], by simp⟩) ⟨fun h => by omega, fun _ => rfl⟩
  have hM := fun (w1 : World) (h : Fr (fun k => k = w.heap.size) (w.alloc (.cells zeroStat 114)) w1) => model_any (some ⟨b, off, none⟩) b off n c z w1 (by omega) hz (fun _ => rfl) (fun j hj => (h.cell (p := ⟨b, off + j, none⟩) (by have := hbs (by omega); simp; omega) (by have := hbs (by omega); simp; omega)).trans (cell?_alloc_old _ (hc j hj)))
  have hE := fun (w1 : World) (h : Fr (fun k => k = w.heap.size) (w.alloc (.cells zeroStat 114)) w1) => (h.cell (p := ⟨0, 0, none⟩) (by simp) (by simp; omega)).trans (cell?_alloc_old _ he)
  have hD2 : ∀ (w1 : World) (h : Fr (fun k => k = w.heap.size) (w.alloc (.cells zeroStat 114)) w1) (o : Obj), Calls Ybad.prog 20 #[.slice (some ⟨b, off, none⟩) 68 c, .iface 126 (.pointer (some ⟨w1.heap.size + 1, 0, none⟩))] ((w1.alloc o).alloc (.cells zeroStat 114)).drew fun e w' => e = .returned .nilIface ∧ (w'.cell? ⟨w1.heap.size + 1, 0, none⟩ = some (.int .i64 (wrap64 (fld z n 0 8))) ∧ w'.cell? ⟨w1.heap.size + 1, 1, none⟩ = some (.int .i64 (wrap64 (fld z n 8 8))) ∧ w'.cell? ⟨w1.heap.size + 1, 2, none⟩ = some (.int .i64 (wrap64 (fld z n 16 8))) ∧ w'.cell? ⟨w1.heap.size + 1, 3, none⟩ = some (.int .i64 (wrap64 (fld z n 24 8))) ∧ w'.cell? ⟨w1.heap.size + 1, 4, none⟩ = some (.int .i32 (wrap32 (fld z n 32 4))) ∧ w'.cell? ⟨w1.heap.size + 1, 5, none⟩ = some (.int .i32 (wrap32 (fld z n 36 4))) ∧ w'.cell? ⟨w1.heap.size + 1, 6, none⟩ = some (.int .i32 (wrap32 (fld z n 40 4))) ∧ w'.cell? ⟨w1.heap.size + 1, 7, none⟩ = some (.int .i64 (wrap64 (fld z n 44 8))) ∧ w'.cell? ⟨w1.heap.size + 1, 8, none⟩ = some (.int .i32 (wrap32 (fld z n 52 4))) ∧ w'.cell? ⟨w1.heap.size + 1, 9, none⟩ = some (.int .i32 (wrap32 (fld z n 56 4))) ∧ w'.cell? ⟨w1.heap.size + 1, 10, none⟩ = some (.int .i64 (wrap64 (fld z n 60 8)))) ∧ Fr (fun k => k = w1.heap.size + 1) ((w1.alloc o).alloc (.cells zeroStat 114)).drew w' := by
    intro w1 h o
    have hs : w.heap.size < w1.heap.size := by have := h.size; simp at this; omega
    have hb0 := hbs (by omega)
    have f : Fr (fun k => k = w.heap.size) (w.alloc (.cells zeroStat 114)) ((w1.alloc o).alloc (.cells zeroStat 114)).drew := ((h.alloc o).alloc _).drewN 1
    refine (Decode_any (some ⟨b, off, none⟩) (w1.heap.size + 1) b off 68 c 178 (.pointer (some e0)) .nilIface z (fun i => zeroStat.getD i undef) _ (by omega) hcm hz (fun _ => rfl)
      (fun j hj => (f.cell (p := ⟨b, off + j, none⟩) (by simp; omega) (by simp; omega)).trans (cell?_alloc_old _ (hc j (by omega)))) ((f.cell (p := ⟨0, 0, none⟩) (by simp) (by simp; omega)).trans (cell?_alloc_old _ he))
      (by omega) (fun _ => by omega) (fun i hi => ⟨by simp; simp [zeroStat, hi], by simp⟩) ⟨fun h => by omega, fun _ => rfl⟩).mono ?_
    rintro e w' ⟨he, hcl, hf⟩
    have hcl' : ∀ i, i < 11 → w'.cell? ⟨w1.heap.size + 1, i, none⟩ = some ((statCells z n).getD i undef) := fun i hi => by
      rw [← statCells_68 z n hn, ← statV_cells z 68 (fun i => zeroStat.getD i undef) i hi]; exact (hcl i hi).1
    exact ⟨he, ⟨hcl' 0 (by omega), hcl' 1 (by omega), hcl' 2 (by omega), hcl' 3 (by omega), hcl' 4 (by omega), hcl' 5 (by omega), hcl' 6 (by omega), hcl' 7 (by omega), hcl' 8 (by omega), hcl' 9 (by omega), hcl' 10 (by omega)⟩, hf⟩
  have HD2 : Hid _ := hD2
  have HM : Hid (∀ (w1 : World) (h : Fr (fun k => k = w.heap.size) (w.alloc (.cells zeroStat 114)) w1), Calls Ybad.prog 18 #[.slice (some ⟨b, off, none⟩) n c] w1 fun e w' => e = .returned (.agg #[.int .i64 (wrap64 (fld z n 0 8)), .int .i64 (wrap64 (fld z n 8 8)), .int .i64 (wrap64 (fld z n 16 8)), .int .i64 (wrap64 (fld z n 24 8)), .int .i32 (wrap32 (fld z n 32 4)), .int .i32 (wrap32 (fld z n 36 4)), .int .i32 (wrap32 (fld z n 40 4)), .int .i64 (wrap64 (fld z n 44 8)), .int .i32 (wrap32 (fld z n 52 4)), .int .i32 (wrap32 (fld z n 56 4)), .int .i64 (wrap64 (fld z n 60 8))]) ∧ ∃ o, w' = w1.alloc o) := hM
  have HE : Hid (∀ (w1 : World) (h : Fr (fun k => k = w.heap.size) (w.alloc (.cells zeroStat 114)) w1), w1.cell? ⟨0, 0, none⟩ = some (.iface 178 (.pointer (some e0)))) := hE
  have heq := err_same e0
  clear hM hE hD2 hc hz
  go_enter Ybad.func6, Ybad.ntmps6
  go_wp2_with fail
  refine hD.mono ?_
  rintro e w1 ⟨rfl, hcells, hf⟩
  clear hD
  have k0 : w1.cell? ⟨w.heap.size, 0, none⟩ = some (.int .i64 (wrap64 (fld z n 0 8))) := (hcells 0 (by omega)).1.trans (congrArg some (statV_cells z n _ 0 (by omega)))
  have k1 : w1.cell? ⟨w.heap.size, 1, none⟩ = some (.int .i64 (wrap64 (fld z n 8 8))) := (hcells 1 (by omega)).1.trans (congrArg some (statV_cells z n _ 1 (by omega)))
  have k2 : w1.cell? ⟨w.heap.size, 2, none⟩ = some (.int .i64 (wrap64 (fld z n 16 8))) := (hcells 2 (by omega)).1.trans (congrArg some (statV_cells z n _ 2 (by omega)))
  have k3 : w1.cell? ⟨w.heap.size, 3, none⟩ = some (.int .i64 (wrap64 (fld z n 24 8))) := (hcells 3 (by omega)).1.trans (congrArg some (statV_cells z n _ 3 (by omega)))
  have k4 : w1.cell? ⟨w.heap.size, 4, none⟩ = some (.int .i32 (wrap32 (fld z n 32 4))) := (hcells 4 (by omega)).1.trans (congrArg some (statV_cells z n _ 4 (by omega)))
  have k5 : w1.cell? ⟨w.heap.size, 5, none⟩ = some (.int .i32 (wrap32 (fld z n 36 4))) := (hcells 5 (by omega)).1.trans (congrArg some (statV_cells z n _ 5 (by omega)))
  have k6 : w1.cell? ⟨w.heap.size, 6, none⟩ = some (.int .i32 (wrap32 (fld z n 40 4))) := (hcells 6 (by omega)).1.trans (congrArg some (statV_cells z n _ 6 (by omega)))
  have k7 : w1.cell? ⟨w.heap.size, 7, none⟩ = some (.int .i64 (wrap64 (fld z n 44 8))) := (hcells 7 (by omega)).1.trans (congrArg some (statV_cells z n _ 7 (by omega)))
  have k8 : w1.cell? ⟨w.heap.size, 8, none⟩ = some (.int .i32 (wrap32 (fld z n 52 4))) := (hcells 8 (by omega)).1.trans (congrArg some (statV_cells z n _ 8 (by omega)))
  have k9 : w1.cell? ⟨w.heap.size, 9, none⟩ = some (.int .i32 (wrap32 (fld z n 56 4))) := (hcells 9 (by omega)).1.trans (congrArg some (statV_cells z n _ 9 (by omega)))
  have k10 : w1.cell? ⟨w.heap.size, 10, none⟩ = some (.int .i64 (wrap64 (fld z n 60 8))) := (hcells 10 (by omega)).1.trans (congrArg some (statV_cells z n _ 10 (by omega)))
  clear hcells
  generalize wrap64 (fld z n 0 8) = x0 at *
  generalize wrap64 (fld z n 8 8) = x1 at *
  generalize wrap64 (fld z n 16 8) = x2 at *
  generalize wrap64 (fld z n 24 8) = x3 at *
  generalize wrap32 (fld z n 32 4) = x4 at *
  generalize wrap32 (fld z n 36 4) = x5 at *
  generalize wrap32 (fld z n 40 4) = x6 at *
  generalize wrap64 (fld z n 44 8) = x7 at *
  generalize wrap32 (fld z n 52 4) = x8 at *
  generalize wrap32 (fld z n 56 4) = x9 at *
  generalize wrap64 (fld z n 60 8) = x10 at *
  have hne := stat_neq x0 x1 x2 x3 x4 x5 x6 x7 x8 x9 x10
  have hz1 : w.heap.size < w1.heap.size := by have := hf.size; simp at this; omega
  have hdec : decide ((4096 : Int) < (n : Int)) = false := decide_eq_false (by omega)
  go_wp2_with fail
  go_region_with (go_at_call 18; refine (HM.out _ ?_).mono ?_; exact hf.drewN 1; rintro e w2 ⟨rfl, o, rfl⟩)
  all_goals
    go_wp2_with fail
    refine (HD2.out w1 hf o).mono ?_
    rintro e w3 ⟨rfl, ⟨l0, l1, l2, l3, l4, l5, l6, l7, l8, l9, l10⟩, hf3⟩
    have m0 := (hf3.cell (p := ⟨w.heap.size, 0, none⟩) (by simp; omega) (by simp; omega)).trans ((cell?_alloc_old (.cells zeroStat 114) (cell?_alloc_old o k0)))
    have m1 := (hf3.cell (p := ⟨w.heap.size, 1, none⟩) (by simp; omega) (by simp; omega)).trans ((cell?_alloc_old (.cells zeroStat 114) (cell?_alloc_old o k1)))
    have m2 := (hf3.cell (p := ⟨w.heap.size, 2, none⟩) (by simp; omega) (by simp; omega)).trans ((cell?_alloc_old (.cells zeroStat 114) (cell?_alloc_old o k2)))
    have m3 := (hf3.cell (p := ⟨w.heap.size, 3, none⟩) (by simp; omega) (by simp; omega)).trans ((cell?_alloc_old (.cells zeroStat 114) (cell?_alloc_old o k3)))
    have m4 := (hf3.cell (p := ⟨w.heap.size, 4, none⟩) (by simp; omega) (by simp; omega)).trans ((cell?_alloc_old (.cells zeroStat 114) (cell?_alloc_old o k4)))
    have m5 := (hf3.cell (p := ⟨w.heap.size, 5, none⟩) (by simp; omega) (by simp; omega)).trans ((cell?_alloc_old (.cells zeroStat 114) (cell?_alloc_old o k5)))
    have m6 := (hf3.cell (p := ⟨w.heap.size, 6, none⟩) (by simp; omega) (by simp; omega)).trans ((cell?_alloc_old (.cells zeroStat 114) (cell?_alloc_old o k6)))
    have m7 := (hf3.cell (p := ⟨w.heap.size, 7, none⟩) (by simp; omega) (by simp; omega)).trans ((cell?_alloc_old (.cells zeroStat 114) (cell?_alloc_old o k7)))
    have m8 := (hf3.cell (p := ⟨w.heap.size, 8, none⟩) (by simp; omega) (by simp; omega)).trans ((cell?_alloc_old (.cells zeroStat 114) (cell?_alloc_old o k8)))
    have m9 := (hf3.cell (p := ⟨w.heap.size, 9, none⟩) (by simp; omega) (by simp; omega)).trans ((cell?_alloc_old (.cells zeroStat 114) (cell?_alloc_old o k9)))
    have m10 := (hf3.cell (p := ⟨w.heap.size, 10, none⟩) (by simp; omega) (by simp; omega)).trans ((cell?_alloc_old (.cells zeroStat 114) (cell?_alloc_old o k10)))
    have heq2 := stat_eql x0 x1 x2 x3 x4 x5 x6 x7 x8 x9 x10
    clear k0 k1 k2 k3 k4 k5 k6 k7 k8 k9 k10
    go_wp2
    go_ret
    exact ⟨rfl, ((((((Below.refl _ w).alloc (Nat.le_refl _) (.cells zeroStat 114)).trans (hf.below (B := w.heap.size) (by simp) (fun k e => by omega))).alloc (by omega) o).alloc (by simp; omega) (.cells zeroStat 114)).drew).trans (hf3.below (B := w.heap.size) (by simp; omega) (fun k e => by omega))⟩
end Go.Proofs.YbulkcrxoDoor
