/-
  'Rows.LawS4681BFireCardSaid': the row proved, then the tied card.
-/
import Derived.Test.YbulkcrxoDoorBLaw
import Derived.Test.YbulkcrxoDoorBLong
import Derived.Test.YbulkcrxoDoorTie
import Derived.Test.YbulkcrxoDoorCards
import Derived.ProofKit
import Derived.LaidMore
import Derived.OpenShut
import Derived.ShutString
import Derived.ChangeOld
import Derived.OpenVars
import Derived.Stop.Joined
import Derived.Stop.LaidErr
import Derived.SevenTiedAt
import Derived.Deep.Slices
import Derived.Laws.IdiomArrays
namespace Go.Proofs.YbulkcrxoDoor.Fire
open Go.ChangeShapes Go.WideShapes Go.ChangeAt Go.RowKit Go.Deep
open Go.Proofs.YbulkcrxoDoor.F

theorem own : ownKnob Ybad.prog.godebug = none := by kernel_rfl
theorem laidOut : laidOutB Ybad.prog = true := by kernel_rfl
theorem gE : Ybad.prog.globalNamed "example.com/latchwork/latchwork/pkg/wire.EventHeader" = some 1 := by kernel_rfl
theorem gET : (Ybad.prog.globals[1]?).map (·.type) = some 133 := by kernel_rfl
theorem cells109 : Ybad.prog.cellsOf 109 = 3 := by kernel_rfl
theorem cells5 : Ybad.prog.cellsOf 5 = 1 := by kernel_rfl
theorem add_add (a : Addr) (m n : Nat) : (a.add m).add n = a.add (m + n) := by
  unfold Addr.add
  by_cases h1 : m = 0 <;> by_cases h2 : n = 0 <;> simp [h1, h2, Nat.add_assoc]
theorem add_plain (b off j : Nat) : (⟨b, off, none⟩ : Addr).add j = ⟨b, off + j, none⟩ := Addr.add_mid b off j

/-- One drawn watch, cell by cell. -/
def ElemIs (w : World) (a : Addr) (i : Nat) (x : Nat × Nat × Nat) : Prop :=
  w.cell? (a.add (i * 3)) = some (.int .u8 x.1) ∧ w.cell? (a.add (i * 3 + 1)) = some (.int .u8 x.2.1) ∧ w.cell? (a.add (i * 3 + 2)) = some (.int .u8 x.2.2) ∧ x.1 < 256 ∧ x.2.1 < 256 ∧ x.2.2 < 256

set_option maxRecDepth 100000 in
theorem elem_of {H : Type} {enc : TypeId × Value → H} {w : World} {base n : Nat} {held : Bool} {a : Addr} {i : Nat} {cs : List Value} {y : DataW H × List MemPlace} (h1 : w.cells? base (a.add (i * 3)) 3 = some cs)
    (h2 : DataW.trod enc Ybad.prog w base (fun _ => true) held n 109 cs = some y) : ∃ x, ElemIs w a i x := by
  obtain ⟨_, hlen, hcell⟩ := World.cells?_some h1
  obtain ⟨xs, m, rfl, hy, _, hxl, hf⟩ := DataW.trod_struct Ybad.underlying109 h2
  match cs, hlen with
  | [v0, v1, v2], _ =>
  have f0 := hf 0 _ rfl
  have f1 := hf 1 _ rfl
  have f2 := hf 2 _ rfl
  simp [cells5] at f0 f1 f2
  have hx3 : xs.length = 3 := hxl
  match xs, hx3 with
  | [x0, x1, x2], _ =>
  simp at f0 f1 f2
  obtain ⟨z0, e0, w0⟩ := DataW.trod_int Ybad.underlying5 f0
  obtain ⟨z1, e1, w1⟩ := DataW.trod_int Ybad.underlying5 f1
  obtain ⟨z2, e2, w2⟩ := DataW.trod_int Ybad.underlying5 f2
  simp at e0 e1 e2
  subst e0 e1 e2
  have b0 := bounds_u8 w0.2
  have b1 := bounds_u8 w1.2
  have b2 := bounds_u8 w2.2
  have c0 := hcell 0 (by omega)
  have c1 := hcell 1 (by omega)
  have c2 := hcell 2 (by omega)
  rw [add_add] at c0 c1 c2
  have t0 : ((z0.toNat : Nat) : Int) = z0 := Int.toNat_of_nonneg b0.1
  have t1 : ((z1.toNat : Nat) : Int) = z1 := Int.toNat_of_nonneg b1.1
  have t2 : ((z2.toNat : Nat) : Int) = z2 := Int.toNat_of_nonneg b2.1
  refine ⟨(z0.toNat, z1.toNat, z2.toNat), ?_, ?_, ?_, by show z0.toNat < _; omega, by show z1.toNat < _; omega, by show z2.toNat < _; omega⟩
  · show _ = some (Value.int .u8 ((z0.toNat : Nat) : Int)); rw [t0]; exact c0
  · show _ = some (Value.int .u8 ((z1.toNat : Nat) : Int)); rw [t1]; exact c1
  · show _ = some (Value.int .u8 ((z2.toNat : Nat) : Int)); rw [t2]; exact c2

theorem choose3 {w : World} {a : Addr} {n : Nat} (h : ∀ i, i < n → ∃ x, ElemIs w a i x) : ∃ p q r : Nat → Nat, (∀ i, i < n → ElemIs w a i (p i, q i, r i)) ∧ (∀ i, p i < 256) ∧ (∀ i, q i < 256) ∧ ∀ i, r i < 256 := by
  have key : ∀ i, ∃ x : Nat × Nat × Nat, (i < n → ElemIs w a i x) ∧ x.1 < 256 ∧ x.2.1 < 256 ∧ x.2.2 < 256 := fun i => by
    by_cases hi : i < n
    · obtain ⟨x, hx⟩ := h i hi
      exact ⟨x, fun _ => hx, hx.2.2.2.1, hx.2.2.2.2.1, hx.2.2.2.2.2⟩
    · exact ⟨(0, 0, 0), fun h => absurd h hi, by decide, by decide, by decide⟩
  obtain ⟨F, hF⟩ := Classical.axiomOfChoice key
  exact ⟨fun i => (F i).1, fun i => (F i).2.1, fun i => (F i).2.2, fun i hi => (hF i).1 hi, fun i => (hF i).2.1, fun i => (hF i).2.2.1, fun i => (hF i).2.2.2⟩

theorem door_met (os : Os) (args : Array Value) : laidMetH Ybad.prog Rows.lawS4681BFireRow.laid ((World.doorLaid Ybad.prog 33 os).forCall (fun _ _ => 0) ⟨#[], args, []⟩).memory :=
  laidMetH_of_parts3 (fuel := 8) (laidMet_of_run' 8 (by kernel_rfl) (by kernel_rfl)) (by kernel_rfl) (by kernel_rfl)

theorem cells21 : Ybad.prog.cellsOf 21 = 1 := by kernel_rfl
theorem cells2 : Ybad.prog.cellsOf 2 = 1 := by kernel_rfl
theorem cells131 : Ybad.prog.cellsOf 131 = 1 := by kernel_rfl
theorem cells133 : Ybad.prog.cellsOf 133 = 3 := by kernel_rfl

set_option maxRecDepth 100000 in
/-- What the listed header gives the walk. -/
theorem of_laid {W : World} (h : laidMetH Ybad.prog Rows.lawS4681BFireRow.laid W) : 2 ≤ W.heap.size ∧ W.cell? ⟨1, 0, none⟩ = some (.int .i32 (-1)) ∧ W.cell? ⟨1, 1, none⟩ = some (.int .i64 (-1)) ∧ W.cell? ⟨1, 2, none⟩ = some (.int .i32 0) := by
  rw [MakeChecks.laidMetH_plain _ _ _ (by kernel_rfl)] at h
  obtain ⟨ps, ⟨g, t, cs, fuel, p, q, hg, ht, hvar, hd, _, _⟩, _⟩ := h
  obtain rfl := Option.some.inj (gE.symm.trans hg)
  obtain rfl := Option.some.inj (gET.symm.trans ht)
  obtain ⟨xs, m, rfl, hy, hlen, hxl, hf⟩ := DataW.trod_struct Ybad.underlying133 hd
  obtain ⟨l⟩ := cs
  rw [cells133] at hlen
  match l, hlen with
  | [v0, v1, v2], _ =>
  have f0 := hf 0 _ rfl
  have f1 := hf 1 _ rfl
  have f2 := hf 2 _ rfl
  simp [cells21, cells2, cells131] at f0 f1 f2
  have hx3 : xs.length = 3 := hxl
  match xs, hx3 with
  | [x0, x1, x2], _ =>
  simp at f0 f1 f2
  obtain ⟨z0, e0, w0, _⟩ := DataW.trod_int Ybad.underlying21 f0
  obtain ⟨z1, e1, w1, _⟩ := DataW.trod_int Ybad.underlying2 f1
  obtain ⟨z2, e2, w2, _⟩ := DataW.trod_int Ybad.underlying131 f2
  simp at e0 e1 e2
  subst e0 e1 e2 w0 w1 w2
  have hy1 := congrArg Prod.fst hy
  simp [Rows.laid_example_com_latchwork_latchwork_pkg_wire_EventHeader] at hy1
  obtain ⟨rfl, rfl, rfl⟩ := hy1
  have c0 := World.var?_cell gE hvar 0
  have c1 := World.var?_cell gE hvar 1
  have c2 := World.var?_cell gE hvar 2
  simp at c0 c1 c2
  exact ⟨World.block_lt_of_cell? _ _ c0, c0, c1, c2⟩

set_option maxRecDepth 100000 in
theorem lifted (os : Os) (started : os.Started) (H : Type) (enc : TypeId × Value → H) :
    ReturnsInHanded {} Ybad.checked os 4 .any (fun w args => (Rows.lawS4681BFireSpec.pre enc Ybad.prog Ybad.f4 [] false w args ∧ laidMetH Ybad.prog Rows.lawS4681BFireRow.laid w) ∧ sizedMet enc Ybad.prog Ybad.f4 (OpenSpec.ofChange Rows.lawS4681BFireSpec) false w args)
      (Rows.lawS4681BFireSpec.post enc Ybad.prog Ybad.f4 false true false false) := by
  refine returnsInHanded_of_change_and (C := Ybad.checked) (X := fun w _ => laidMetH Ybad.prog Rows.lawS4681BFireRow.laid w) (fun _ _ _ hh h => h.of_heap hh) own started (by kernel_rfl) Ybad.func4
    (ChangeSpec.witness_shaped (enc := enc) (C := Ybad.checked) (os := os) (X := fun w _ => laidMetH Ybad.prog Rows.lawS4681BFireRow.laid w) false (World.doorLaid Ybad.prog 33 os) #[.slice none 0 0, .int .u8 0, .int .u8 0, .int .u8 0] 8 rfl (World.shaped_of_RefB (by kernel_rfl) (by kernel_rfl)) (by kernel_rfl) (by kernel_rfl) (by kernel_rfl) (door_met os _)) ?_
  intro W base args ds gs before hval0 hW _ _ hL _
  have hval : ∀ (j : Nat) t v, Ybad.f4.params[j]? = some t → args[j]? = some v → Value.okWide Ybad.prog W .any base t v := hval0
  have hW' := hW
  obtain ⟨p, q, hA0, hV0, rfl, hfz, hnd⟩ := hW
  have hA : DataW.TrodAll enc Ybad.prog W 0 (fun _ => true) true Ybad.f4.params.toList args.toList ds p := hA0
  have hV : DataW.TrodVars enc Ybad.prog W (fun _ => true) ["example.com/latchwork/latchwork/pkg/wire.EventHeader"] gs q := hV0
  rw [Ybad.params4] at hA hval
  obtain ⟨v0, vs0, d0, ds0, p0, q0, hargs, rfl, rfl, h0, r0⟩ := trodAll_cons hA
  obtain ⟨v1, vs1, d1, ds1, p1, q1, rfl, rfl, rfl, h1, r1⟩ := trodAll_cons r0
  obtain ⟨v2, vs2, d2, ds2, p2, q2, rfl, rfl, rfl, h2, r2⟩ := trodAll_cons r1
  obtain ⟨v3, vs3, d3, ds3, p3, q3, rfl, rfl, rfl, h3, r3⟩ := trodAll_cons r2
  obtain ⟨rfl, rfl, rfl⟩ := trodAll_nil r3
  obtain rfl : args = #[v0, v1, v2, v3] := by cases args; simp_all
  have hlaid := of_laid hL
  obtain ⟨wa, nw, wcap, rfl⟩ := okWide_slice Ybad.underlying102 (hval 0 102 v0 rfl rfl)
  obtain ⟨ev, rfl, rfl, rfl, wev⟩ := open_int Ybad.underlying5 (hval 1 5 v1 rfl rfl) h1
  obtain ⟨at0, rfl, rfl, rfl, wat⟩ := open_int Ybad.underlying5 (hval 2 5 v2 rfl rfl) h2
  obtain ⟨cs0, rfl, rfl, rfl, wcs⟩ := open_int Ybad.underlying5 (hval 3 5 v3 rfl rfl) h3
  have k0 := h0
  have lt0 : ∀ x ∈ p0, x.block < W.heap.size := by obtain ⟨m, hm⟩ := k0; exact DataW.trod_lt m _ _ _ hm
  have hgs : ∃ g, gs = [g] := by
    match gs, hV with
    | [g], _ => exact ⟨g, rfl⟩
    | _ :: _ :: _, ⟨_, _, _, _, _, _, _, _, _, _, h, _⟩ => exact h.elim
  obtain ⟨g, rfl⟩ := hgs
  have hw : nw ≤ 9223372036854775807 ∧ ∃ pp qq rr, Ws W wa nw pp qq rr := by
    obtain ⟨fuel, hf⟩ := h0
    have hfo := open_slice Ybad.underlying102 hf
    rw [cells109] at hfo
    rcases hfo with ⟨hcs, _⟩ | ⟨x, l, c', m, fu, D, Pl, hcs, _, hl, hm, hmm, hx, hel⟩
    · simp [Value.cells] at hcs
      obtain ⟨rfl, rfl, rfl⟩ := hcs
      exact ⟨by omega, fun _ => 0, fun _ => 0, fun _ => 0, fun j hj => by omega, fun _ => by decide, fun _ => by decide, fun _ => by decide⟩
    · simp [Value.cells] at hcs
      obtain ⟨rfl, rfl, rfl⟩ := hcs
      unfold maxLen at hm
      simp only [if_true] at hmm
      subst hmm
      refine ⟨by omega, ?_⟩
      have each : ∀ i, i < nw → ∃ y, ElemIs W x i y := fun i hi => by
        obtain ⟨cs, c1, c2⟩ := hel i (by omega)
        exact elem_of c1 c2
      obtain ⟨pp, qq, rr, hF, hp, hq, hr⟩ := choose3 each
      refine ⟨pp, qq, rr, fun j hj => ?_, hp, hq, hr⟩
      obtain ⟨b, off, spot⟩ := x
      obtain ⟨g0, g1, g2, _⟩ := hF j hj
      have hspot : spot = none := by simpa [Addr.add] using World.cell?_spot (hF 0 (by omega)).1
      subst hspot
      rw [add_plain] at g0 g1 g2
      exact ⟨b, off, rfl, g0, by rw [Nat.add_assoc]; exact g1, by rw [Nat.add_assoc]; exact g2⟩
  obtain ⟨hnw, pp, qq, rr, HW⟩ := hw
  have b1 := bounds_u8 wev
  have b2 := bounds_u8 wat
  have b3 := bounds_u8 wcs
  have walk : Calls Ybad.prog 4 #[.slice wa nw wcap, .int .u8 ev, .int .u8 at0, .int .u8 cs0] W fun e w' => e = .returned (.bool true) ∧ Below W.heap.size W w' := by
    by_cases hl : 1024 < nw
    · exact blong wa nw wcap ev at0 cs0 W hnw hl
    have := blaw wa nw wcap ev.toNat at0.toNat cs0.toNat W (by omega) (by omega) (by omega) (by omega) pp qq rr HW hlaid
    rwa [Int.toNat_of_nonneg b1.1, Int.toNat_of_nonneg b2.1, Int.toNat_of_nonneg b3.1] at this
  clear hA0 hval0
  refine walk.mono fun e W' ⟨he', bel⟩ => ?_
  subst he'
  exact ⟨_, rfl, _, _, _, [], _, _, hW', trodAll_mk1 (shut_bool Ybad.underlying4 _), trodAll_cons_mk (Below.trod laidOut (by kernel_rfl) (of_decide_eq_true (by kernel_rfl)) k0 bel lt0) (trodAll_cons_mk (shut_int Ybad.underlying5 wev) (trodAll_cons_mk (shut_int Ybad.underlying5 wat) (trodAll_cons_mk (shut_int Ybad.underlying5 wcs) trodAll_mk0))), Below.trodVars laidOut bel (by kernel_rfl) hV, bel.frame _, fun h => by cases h⟩

theorem row_holds : Rows.LawS4681BFireSaid :=
  OpenClaim.holds_of_wide 4 Ybad.f4 rfl rfl rfl rfl rfl rfl rfl ⟨rfl, rfl, rfl, rfl, rfl⟩ rfl rfl rfl rfl rfl (by kernel_rfl) Ybad.func4 (by kernel_rfl)
    (of_decide_eq_true (by kernel_rfl)) (by unfold Func.isWrapper; first | (rw [if_pos (by decide +kernel)]; kernel_rfl) | (rw [if_neg (by decide +kernel)]; exact ⟨rfl, rfl⟩))
    (fun os started H enc _ => lifted os started H enc)

/-- ████ THE STATEMENT ████ -/
theorem proved : Rows.LawS4681BFireCardSaid :=
  Claim7.holds_tied_plain_at .later [] [.data] true (true, "d8560b95abc9a274c01f2360b799f3c08ee31fd21263779a8602d6a56665da46") true
    row_holds (fun _ h => by cases h) (by kernel_rfl) (fun _ h => by cases h) lawS4681BFire_row_tie rfl ⟨rfl, rfl⟩ (by kernel_rfl) rfl
    (fun f fn hf hfn => by
      obtain rfl : f = 4 := Option.some.inj ((show Ybad.prog.funcNamed "example.com/latchwork/latchwork/pkg/server.LawS4681BFire" = some 4 by kernel_rfl).symm.trans hf) |>.symm
      obtain rfl : fn = Ybad.f4 := (Option.some.inj (Ybad.func4.symm.trans hfn)).symm
      exact ⟨by kernel_rfl, fun j t ht => by
        rw [Ybad.params4] at ht
        have hm : t ∈ [102, 5, 5, 5] := by simpa using Array.mem_of_getElem? ht
        have hall : ([102, 5, 5, 5].all fun u => !Ybad.prog.wantsStandIn u) = true := by kernel_rfl
        exact (show Ybad.prog.wantsStandIn t = false by simpa using List.all_eq_true.1 hall t hm)⟩)
    (by kernel_rfl)
end Go.Proofs.YbulkcrxoDoor.Fire
