/-
  'Rows.LawS4681CViaDecodableCardSaid': the row proved, then the tied card.
-/
import Derived.Test.YbulkcrxoDoorCTop
import Derived.Test.YbulkcrxoDoorTie
import Derived.Test.YbulkcrxoDoorCards
import Derived.ProofKit
import Derived.LaidMore
import Derived.OpenShut
import Derived.ShutString
import Derived.ChangeOld
import Derived.OpenVars
import Derived.Stop.Joined
import Derived.Stop.LaidErr
import Derived.SevenTiedAt
namespace Go.Proofs.YbulkcrxoDoor.ViaDecodable
open Go.ChangeShapes Go.WideShapes Go.ChangeAt Go.RowKit

theorem own : ownKnob Ybad.prog.godebug = none := by kernel_rfl
theorem laidOut : laidOutB Ybad.prog = true := by kernel_rfl
theorem gE : Ybad.prog.globalNamed "example.com/latchwork/latchwork/pkg/wire.ErrShort" = some 0 := by kernel_rfl
theorem gET : (Ybad.prog.globals[0]?).map (·.type) = some 120 := by kernel_rfl
theorem cells218 : Ybad.prog.cellsOf 218 = 1 := by kernel_rfl
theorem cells9 : Ybad.prog.cellsOf 9 = 1 := by kernel_rfl
theorem star : "*" ++ "errors.errorString" = "*errors.errorString" := by decide
theorem row178 (u : TypeId) (h : Ybad.prog.typeName? 3 u = some "*errors.errorString") : u = 178 :=
  typeName_ptr_named (nm := "errors.errorString") (by rw [star]; kernel_rfl) (by kernel_rfl) (by decide) u (by rw [star]; exact h)

theorem door_met (os : Os) (args : Array Value) : laidMetH Ybad.prog Rows.lawS4681CViaDecodableRow.laid ((World.doorLaid Ybad.prog 33 os).forCall (fun _ _ => 0) ⟨#[], args, []⟩).memory :=
  laidMetH_of_parts3 (fuel := 8) (laidMet_of_run' 8 (by kernel_rfl) (by kernel_rfl)) (by kernel_rfl) (by kernel_rfl)

/-- What the listed sentinel gives the walk. -/
theorem of_laid {W : World} (h : laidMetH Ybad.prog Rows.lawS4681CViaDecodableRow.laid W) : ∃ e0, W.cell? ⟨0, 0, none⟩ = some (.iface 178 (.pointer (some e0))) := by
  rw [MakeChecks.laidMetH_plain _ _ _ (by kernel_rfl)] at h
  obtain ⟨a0, s0, hv0, _, _, _⟩ := laid_sentinel h gE gET Ybad.underlying120 row178 Ybad.underlying178 Ybad.underlying218 rfl rfl Ybad.underlying9 cells218 cells9
  exact ⟨a0, by simpa using World.var?_cell gE hv0 0⟩

/-- The walk, whatever the slice. -/
theorem walk (a : Option Addr) (n c : Nat) (zs : List Int) (e0 : Addr) (w : World) (hnc : n ≤ c) (hcm : c ≤ maxLen) (hz : zs.length = c)
    (hcell : ∀ i, i < zs.length → ∃ x, a = some x ∧ w.cell? (x.add i) = some (.int .u8 (zs.getD i 0))) (hwz : ∀ z ∈ zs, (Lit.int .u8 z).wf = true)
    (he : w.cell? ⟨0, 0, none⟩ = some (.iface 178 (.pointer (some e0)))) :
    Calls Ybad.prog 6 #[.slice a n c] w fun e w' => e = .returned (.bool true) ∧ Below w.heap.size w w' := by
  unfold maxLen at hcm
  have hb : ∀ j, 0 ≤ zs.getD j 0 ∧ zs.getD j 0 ≤ 255 := fun j => by
    rcases Nat.lt_or_ge j zs.length with h | h
    · have := bounds_u8 (hwz (zs.getD j 0) (by simp [h]))
      omega
    · simp [h]
  by_cases hl : 4096 < n
  · exact law_long a n c w hl (by omega)
  by_cases h0 : n = 0
  · subst h0
    exact law_short a 0 0 0 c e0 (fun j => zs.getD j 0) w (by omega) (by omega) (by omega) hb (fun h => by omega) (fun j hj => by omega) he
  obtain ⟨x, rfl, hx⟩ := hcell 0 (by omega)
  obtain ⟨b, off, spot⟩ := x
  have hspot : spot = none := by simpa [Addr.add] using World.cell?_spot hx
  subst hspot
  have hc : ∀ j, j < n → w.cell? ⟨b, off + j, none⟩ = some (.int .u8 (zs.getD j 0)) := fun j hj => by
    obtain ⟨x, e, h⟩ := hcell j (by omega)
    cases e
    rw [← add_plain]; exact h
  by_cases hs : n < 68
  · exact law_short _ b off n c e0 (fun j => zs.getD j 0) w hs (by omega) (by omega) hb (fun _ => rfl) hc he
  · exact law_full b off n c e0 (fun j => zs.getD j 0) w (by omega) (by omega) (by omega) (by omega) hb hc he

set_option maxRecDepth 100000 in
theorem lifted (os : Os) (started : os.Started) (H : Type) (enc : TypeId × Value → H) :
    ReturnsInHanded {} Ybad.checked os 6 .any (fun w args => (Rows.lawS4681CViaDecodableSpec.pre enc Ybad.prog Ybad.f6 [] false w args ∧ laidMetH Ybad.prog Rows.lawS4681CViaDecodableRow.laid w) ∧ sizedMet enc Ybad.prog Ybad.f6 (OpenSpec.ofChange Rows.lawS4681CViaDecodableSpec) false w args)
      (Rows.lawS4681CViaDecodableSpec.post enc Ybad.prog Ybad.f6 false true false false) := by
  refine returnsInHanded_of_change_and (C := Ybad.checked) (X := fun w _ => laidMetH Ybad.prog Rows.lawS4681CViaDecodableRow.laid w) (fun _ _ _ hh h => h.of_heap hh) own started (by kernel_rfl) Ybad.func6
    (ChangeSpec.witness_shaped (enc := enc) (C := Ybad.checked) (os := os) (X := fun w _ => laidMetH Ybad.prog Rows.lawS4681CViaDecodableRow.laid w) false (World.doorLaid Ybad.prog 33 os) #[.slice none 0 0] 8 rfl (World.shaped_of_RefB (by kernel_rfl) (by kernel_rfl)) (by kernel_rfl) (by kernel_rfl) (by kernel_rfl) (door_met os _)) ?_
  intro W base args ds gs before hval0 hW _ _ hL _
  have hval : ∀ (j : Nat) t v, Ybad.f6.params[j]? = some t → args[j]? = some v → Value.okWide Ybad.prog W .any base t v := hval0
  have hW' := hW
  obtain ⟨p, q, hA0, hV0, rfl, hfz, hnd⟩ := hW
  have hA : DataW.TrodAll enc Ybad.prog W 0 (fun _ => true) true Ybad.f6.params.toList args.toList ds p := hA0
  have hV : DataW.TrodVars enc Ybad.prog W (fun _ => true) ["example.com/latchwork/latchwork/pkg/wire.ErrShort"] gs q := hV0
  rw [Ybad.params6] at hA hval
  obtain ⟨v0, d0, rfl, rfl, h0⟩ := trodAll_one hA
  obtain ⟨e0, he⟩ := of_laid hL
  obtain ⟨a, n, c, rfl⟩ := okWide_slice Ybad.underlying24 (hval 0 24 v0 rfl rfl)
  have k0 := h0
  have lt0 : ∀ x ∈ p, x.block < W.heap.size := by obtain ⟨m, hm⟩ := k0; exact DataW.trod_lt m _ _ _ hm
  have hgs : ∃ g, gs = [g] := by
    match gs, hV with
    | [g], _ => exact ⟨g, rfl⟩
    | _ :: _ :: _, ⟨_, _, _, _, _, _, _, _, _, _, h, _⟩ => exact h.elim
  obtain ⟨g, rfl⟩ := hgs
  have hw : ∃ zs : List Int, n ≤ c ∧ c ≤ maxLen ∧ zs.length = c ∧ (∀ i, i < zs.length → ∃ x, a = some x ∧ W.cell? (x.add i) = some (.int .u8 (zs.getD i 0))) ∧ ∀ z ∈ zs, (Lit.int .u8 z).wf = true := by
    obtain ⟨fuel, hf⟩ := h0
    rcases open_ints Ybad.underlying24 Ybad.underlying5 (by kernel_rfl) hf with ⟨hcs, _⟩ | ⟨x, l, c', zs, hcs, _, hl, hm, hz, _, hcell, hwz⟩
    · simp [Value.cells] at hcs
      obtain ⟨rfl, rfl, rfl⟩ := hcs
      exact ⟨[], by omega, by unfold maxLen; omega, rfl, fun i hi => by simp at hi, fun z hz => by simp at hz⟩
    · simp [Value.cells] at hcs
      obtain ⟨rfl, rfl, rfl⟩ := hcs
      exact ⟨zs, hl, hm, by simpa using hz, fun i hi => ⟨x, rfl, hcell i hi⟩, hwz⟩
  obtain ⟨zs, z1, z2, z3, z4, z5⟩ := hw
  clear hA0 hval0
  refine (walk a n c zs e0 W z1 z2 z3 z4 z5 he).mono fun e W' ⟨he', bel⟩ => ?_
  subst he'
  exact ⟨_, rfl, _, _, _, [], _, _, hW', trodAll_mk1 (shut_bool Ybad.underlying4 _), trodAll_mk1 (Below.trod laidOut (by kernel_rfl) (of_decide_eq_true (by kernel_rfl)) k0 bel lt0), Below.trodVars laidOut bel (by kernel_rfl) hV, bel.frame _, fun h => by cases h⟩

theorem row_holds : Rows.LawS4681CViaDecodableSaid :=
  OpenClaim.holds_of_wide 6 Ybad.f6 rfl rfl rfl rfl rfl rfl rfl ⟨rfl, rfl, rfl, rfl, rfl⟩ rfl rfl rfl rfl rfl (by kernel_rfl) Ybad.func6 (by kernel_rfl)
    (of_decide_eq_true (by kernel_rfl)) (by unfold Func.isWrapper; first | (rw [if_pos (by decide +kernel)]; kernel_rfl) | (rw [if_neg (by decide +kernel)]; exact ⟨rfl, rfl⟩))
    (fun os started H enc _ => lifted os started H enc)

/-- ████ THE STATEMENT ████ -/
theorem proved : Rows.LawS4681CViaDecodableCardSaid :=
  Claim7.holds_tied_plain_at .later [] [.sentinel] true (true, "d8560b95abc9a274c01f2360b799f3c08ee31fd21263779a8602d6a56665da46") true
    row_holds (fun _ h => by cases h) (by kernel_rfl) (fun _ h => by cases h) lawS4681CViaDecodable_row_tie rfl ⟨rfl, rfl⟩ (by kernel_rfl) rfl
    (fun f fn hf hfn => by
      obtain rfl : f = 6 := Option.some.inj ((show Ybad.prog.funcNamed "example.com/latchwork/latchwork/pkg/wire.LawS4681CViaDecodable" = some 6 by kernel_rfl).symm.trans hf) |>.symm
      obtain rfl : fn = Ybad.f6 := (Option.some.inj (Ybad.func6.symm.trans hfn)).symm
      exact ⟨by kernel_rfl, fun j t ht => by
        rw [Ybad.params6] at ht
        have hm : t ∈ [24] := by simpa using Array.mem_of_getElem? ht
        have hall : ([24].all fun u => !Ybad.prog.wantsStandIn u) = true := by kernel_rfl
        exact (show Ybad.prog.wantsStandIn t = false by simpa using List.all_eq_true.1 hall t hm)⟩)
    (by kernel_rfl)
end Go.Proofs.YbulkcrxoDoor.ViaDecodable
