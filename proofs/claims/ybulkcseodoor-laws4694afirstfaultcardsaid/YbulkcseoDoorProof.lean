/-
  'Rows.LawS4694AFirstFaultCardSaid': the row proved, then the tied card.
-/
import Derived.Test.YbulkcseoDoorLaw
import Derived.Test.YbulkcseoDoorTie
import Derived.Test.YbulkcseoDoorCards
import Derived.ProofKit
import Derived.LaidMore
import Derived.OpenShut
import Derived.ChangeOld
import Derived.OpenVars
import Derived.SizedLaws
import Derived.Stop.Joined
import Derived.SevenTiedAt
import Derived.Deep.Slices
import Derived.Deep.Grids
namespace Go.Proofs.YbulkcseoDoor
open Go.ChangeShapes Go.WideShapes Go.ChangeAt Go.RowKit Go.Deep

theorem own : ownKnob Ybad.prog.godebug = none := by kernel_rfl
theorem laidOut : laidOutB Ybad.prog = true := by kernel_rfl
theorem cells26 : Ybad.prog.cellsOf 26 = 2 := by kernel_rfl
theorem cells24 : Ybad.prog.cellsOf 24 = 1 := by kernel_rfl
theorem cells4 : Ybad.prog.cellsOf 4 = 1 := by kernel_rfl
theorem cells5 : Ybad.prog.cellsOf 5 = 1 := by kernel_rfl
theorem bytes5 : Ybad.prog.bytesOf 5 = 1 := by kernel_rfl

/-- One drawn quorum, cell by cell. -/
def ElemIs (w : World) (a : Addr) (i : Nat) (x : Nat × Option Addr × Nat × Nat × (Nat → Nat)) : Prop :=
  w.cell? (a.add (i * 2)) = some (.int .u8 x.1) ∧ w.cell? (a.add (i * 2 + 1)) = some (.slice x.2.1 x.2.2.1 x.2.2.2.1) ∧ x.1 < 256 ∧ x.2.2.1 ≤ 4611686018427387904 ∧ (∀ j, x.2.2.2.2 j < 256) ∧
  ∀ j, j < x.2.2.1 → ∃ b off, x.2.1 = some ⟨b, off, none⟩ ∧ w.cell? ⟨b, off + j, none⟩ = some (.int .u8 (x.2.2.2.2 j))

theorem add_add (a : Addr) (m n : Nat) : (a.add m).add n = a.add (m + n) := by
  unfold Addr.add
  by_cases h1 : m = 0 <;> by_cases h2 : n = 0 <;> simp [h1, h2, Nat.add_assoc]

theorem weightsAll_mem {H : Type} {P : Program} {e : TypeId} : ∀ {l : List (DataW H)} {d : DataW H}, d ∈ l → ∀ n ∈ d.weights P e, n ∈ DataW.weightsAll P e l
  | _ :: _, _, .head _, n, hn => by simp only [DataW.weightsAll, List.mem_append]; exact .inl hn
  | _ :: _, _, .tail _ h, n, hn => by simp only [DataW.weightsAll, List.mem_append]; exact .inr (weightsAll_mem h n hn)

set_option maxRecDepth 100000 in
theorem elem_of {H : Type} {enc : TypeId × Value → H} {w : World} {base n : Nat} {held : Bool} {a : Addr} {i : Nat} {cs : List Value} {y : DataW H × List MemPlace} (h1 : w.cells? base (a.add (i * 2)) 2 = some cs)
    (h2 : DataW.trod enc Ybad.prog w base (fun _ => true) held n 26 cs = some y) (hw : ∀ k ∈ y.1.weights Ybad.prog 26, k ≤ reachBytes) : ∃ x, ElemIs w a i x := by
  obtain ⟨_, hlen, hcell⟩ := World.cells?_some h1
  obtain ⟨xs, m, rfl, hy, _, hxl, hf⟩ := DataW.trod_struct Ybad.underlying26 h2
  match cs, hlen with
  | [v0, v1], _ =>
  have f0 := hf 0 _ rfl
  have f1 := hf 1 _ rfl
  simp [cells24, cells5] at f0 f1
  have hx2 : xs.length = 2 := hxl
  match xs, hx2 with
  | [x0, x1], _ =>
  simp at f0 f1
  obtain ⟨z0, e0, _, w0⟩ := DataW.trod_int Ybad.underlying5 f0
  simp at e0
  subst e0
  have c0 := hcell 0 (by omega)
  have c1 := hcell 1 (by omega)
  rw [add_add] at c0 c1
  have b0 := bounds_u8 w0
  have ez : ((z0.toNat : Nat) : Int) = z0 := by omega
  rcases open_ints Ybad.underlying24 Ybad.underlying5 cells5 f1 with ⟨hcs, _⟩ | ⟨a', l, c, zs, hcs, _, hl, hm, hz, hx, hc, hwz⟩
  · simp at hcs
    subst hcs
    refine ⟨(z0.toNat, none, 0, 0, fun _ => 0), ?_, c1, ?_, ?_, ?_, ?_⟩
    · show _ = some (Value.int .u8 ((z0.toNat : Nat) : Int)); rw [ez]; exact c0
    · show z0.toNat < 256; omega
    · show (0 : Nat) ≤ _; omega
    · intro j; show (0 : Nat) < 256; omega
    · intro j hj
      have : j < 0 := hj
      omega
  · simp at hcs
    subst hcs
    simp only [if_true] at hz
    have hb : (l + (c - l)) * 1 ≤ reachBytes := by
      refine hw _ ?_
      rw [hy]
      simp only [DataW.weights, Ybad.underlying26]
      refine DataW.weights_mem_each (j := 1) (t := 24) (d := x1.1) rfl rfl _ ?_
      rw [hx]
      simp only [DataW.weights, Ybad.underlying24, bytes5, List.mem_cons]
      refine .inl ?_
      simp only [lits, List.length_map, List.length_take, List.length_drop]
      have e : min l zs.length = l := by omega
      rw [e, hz]
    have := reachBytes_lt
    refine ⟨(z0.toNat, some a', l, c, fun j => (zs.getD j 0).toNat), ?_, c1, ?_, ?_, ?_, ?_⟩
    · show _ = some (Value.int .u8 ((z0.toNat : Nat) : Int)); rw [ez]; exact c0
    · show z0.toNat < 256; omega
    · show l ≤ _; omega
    · intro j
      have := range_u8 hwz j
      show (zs.getD j 0).toNat < 256
      have e : zs.getD j 0 = zs[j]?.getD 0 := by simp [List.getD]
      rw [e]
      omega
    · intro j hj
      have hj' : j < l := hj
      obtain ⟨b, off, spot⟩ := a'
      have hspot : spot = none := by simpa [Addr.add] using World.cell?_spot (hc 0 (by omega))
      subst hspot
      refine ⟨b, off, rfl, ?_⟩
      have := range_u8 hwz j
      show _ = some (Value.int .u8 (((zs.getD j 0).toNat : Nat) : Int))
      have e : zs.getD j 0 = zs[j]?.getD 0 := by simp [List.getD]
      have e2 : (((zs.getD j 0).toNat : Nat) : Int) = zs.getD j 0 := by rw [e]; omega
      rw [e2, ← add_plain]
      exact hc j (by omega)

theorem door_met (os : Os) (args : Array Value) : laidMetH Ybad.prog Rows.lawS4694AFirstFaultRow.laid ((World.doorLaid Ybad.prog 24 os).forCall (fun _ _ => 0) ⟨#[], args, []⟩).memory :=
  laidMetH_of_parts3 (fuel := 8) (laidMet_of_run' 8 (by kernel_rfl) (by kernel_rfl)) (by kernel_rfl) (by kernel_rfl)

set_option maxRecDepth 100000 in
theorem lifted (os : Os) (started : os.Started) (H : Type) (enc : TypeId × Value → H) :
    ReturnsInHanded {} Ybad.checked os 3 .any (fun w args => (Rows.lawS4694AFirstFaultSpec.pre enc Ybad.prog Ybad.f3 [] false w args ∧ laidMetH Ybad.prog Rows.lawS4694AFirstFaultRow.laid w) ∧ sizedMet enc Ybad.prog Ybad.f3 (OpenSpec.ofChange Rows.lawS4694AFirstFaultSpec) false w args)
      (Rows.lawS4694AFirstFaultSpec.post enc Ybad.prog Ybad.f3 false true false false) := by
  refine returnsInHanded_of_change_and (C := Ybad.checked) (X := fun w _ => laidMetH Ybad.prog Rows.lawS4694AFirstFaultRow.laid w) (fun _ _ _ hh h => h.of_heap hh) own started (by kernel_rfl) Ybad.func3
    (ChangeSpec.witness_shaped (enc := enc) (C := Ybad.checked) (os := os) (X := fun w _ => laidMetH Ybad.prog Rows.lawS4694AFirstFaultRow.laid w) false (World.doorLaid Ybad.prog 24 os) #[.int .u8 0, .slice none 0 0, .slice none 0 0] 8 rfl (World.shaped_of_RefB (by kernel_rfl) (by kernel_rfl)) (by kernel_rfl) (by kernel_rfl) (by kernel_rfl) (door_met os _)) ?_
  intro W base args ds gs before hval0 hW _ hsz0 hL _
  have hval : ∀ (j : Nat) t v, Ybad.f3.params[j]? = some t → args[j]? = some v → Value.okWide Ybad.prog W .any base t v := hval0
  have hsz : (DataW.weightsEach Ybad.prog (Ybad.f3.params.toList ++ Rows.lawS4694AFirstFaultSpec.plain.varTypes Ybad.prog) (ds ++ gs)).all (· ≤ reachBytes) = true := hsz0
  have hW' := hW
  obtain ⟨p, q, hA0, hV0, rfl, hfz, hnd⟩ := hW
  have hA : DataW.TrodAll enc Ybad.prog W 0 (fun _ => true) true Ybad.f3.params.toList args.toList ds p := hA0
  have hV : DataW.TrodVars enc Ybad.prog W (fun _ => true) [] gs q := hV0
  rw [Ybad.params3] at hA hval hsz
  obtain ⟨v0, vs0, d0, ds0, p0, q0, hargs, rfl, rfl, h0, r0⟩ := trodAll_cons hA
  obtain ⟨v1, vs1, d1, ds1, p1, q1, rfl, rfl, rfl, h1, r1⟩ := trodAll_cons r0
  obtain ⟨v2, vs2, d2, ds2, p2, q2, rfl, rfl, rfl, h2, r2⟩ := trodAll_cons r1
  obtain ⟨rfl, rfl, rfl⟩ := trodAll_nil r2
  obtain rfl : args = #[v0, v1, v2] := by cases args; simp_all
  obtain ⟨N, rfl, rfl, rfl, wN⟩ := open_int Ybad.underlying5 (hval 0 5 v0 rfl rfl) h0
  obtain ⟨fa, fl, fc, rfl⟩ := okWide_slice Ybad.underlying22 (hval 1 22 v1 rfl rfl)
  obtain ⟨qa, n, qc, rfl⟩ := okWide_slice Ybad.underlying23 (hval 2 23 v2 rfl rfl)
  have k1 := h1
  have k2 := h2
  have lt1 : ∀ x ∈ p1, x.block < W.heap.size := by obtain ⟨m, hm⟩ := k1; exact DataW.trod_lt m _ _ _ hm
  have lt2 : ∀ x ∈ p2, x.block < W.heap.size := by obtain ⟨m, hm⟩ := k2; exact DataW.trod_lt m _ _ _ hm
  obtain rfl : gs = [] := by
    match gs, hV with
    | [], _ => rfl
  have hN := bounds_u8 wN
  have eN : ((N.toNat : Nat) : Int) = N := by omega
  have hfl : ∃ g : Nat → Bool, fl ≤ 9223372036854775807 ∧ ∀ j, j < fl → ∃ b off, fa = some ⟨b, off, none⟩ ∧ W.cell? ⟨b, off + j, none⟩ = some (.bool (g j)) ∧ b < W.heap.size := by
    obtain ⟨fuel, hf⟩ := h1
    rcases open_bools Ybad.underlying22 Ybad.underlying4 cells4 hf with ⟨hcs, _⟩ | ⟨a, l, c, B, hcs, _, hl, hm, _, hcell⟩
    · simp [Value.cells] at hcs
      obtain ⟨rfl, rfl, rfl⟩ := hcs
      exact ⟨fun _ => false, by omega, fun j hj => by omega⟩
    · simp [Value.cells] at hcs
      obtain ⟨rfl, rfl, rfl⟩ := hcs
      unfold maxLen at hm
      refine ⟨B, by omega, fun j hj => ?_⟩
      obtain ⟨b, off, spot⟩ := a
      have hspot : spot = none := by simpa [Addr.add] using World.cell?_spot (hcell 0 (by omega))
      subst hspot
      have hc := hcell j (by omega)
      rw [add_plain] at hc
      exact ⟨b, off, rfl, hc, World.block_lt_of_cell? _ _ hc⟩
  obtain ⟨g, hfl1, hfl2⟩ := hfl
  have hw : ∃ (pp : Nat → Nat) (ma : Nat → Option Addr) (ml mc : Nat → Nat) (m : Nat → Nat → Nat), n ≤ 9223372036854775807 ∧ Lies W N.toNat fa fl g qa n pp ma ml mc m := by
    obtain ⟨fuel, hf⟩ := h2
    have hfo := open_slice Ybad.underlying23 hf
    rw [cells26] at hfo
    rcases hfo with ⟨hcs, _⟩ | ⟨x, l, c', m, fu, D, Pl, hcs, _, hl, hm, hmm, hx, hel⟩
    · simp [Value.cells] at hcs
      obtain ⟨rfl, rfl, rfl⟩ := hcs
      refine ⟨fun _ => 0, fun _ => none, fun _ => 0, fun _ => 0, fun _ _ => 0, by omega, hfl2, ?_, ?_, ?_, ?_, ?_, by omega⟩
      all_goals (intros; omega)
    · simp [Value.cells] at hcs
      obtain ⟨rfl, rfl, rfl⟩ := hcs
      unfold maxLen at hm
      simp only [if_true] at hmm
      subst hmm
      have hx1 : d2 = .slice ((List.range n).map D) ((List.range (m - n)).map fun j => D (n + j)) := congrArg Prod.fst hx
      have each : ∀ i, i < n → ∃ y, ElemIs W x i y := fun i hi => by
        obtain ⟨cs, c1, c2⟩ := hel i (by omega)
        refine elem_of c1 c2 (fun k hk => ?_)
        refine of_decide_eq_true (List.all_eq_true.1 hsz _ (DataW.weights_mem_each (j := 2) (t := 23) (d := d2) rfl rfl _ ?_))
        rw [hx1]
        simp only [DataW.weights, Ybad.underlying23, List.mem_cons, List.mem_append]
        exact .inr (.inl (weightsAll_mem (List.mem_map.2 ⟨i, by simpa using hi, rfl⟩) k hk))
      obtain ⟨F, hF⟩ := choose_lt each
      obtain ⟨b, off, spot⟩ := x
      by_cases hn0 : n = 0
      · subst hn0
        refine ⟨fun _ => 0, fun _ => none, fun _ => 0, fun _ => 0, fun _ _ => 0, by omega, hfl2, ?_, ?_, ?_, ?_, ?_, by omega⟩
        all_goals (intros; omega)
      have hspot : spot = none := by simpa [Addr.add] using World.cell?_spot (hF 0 (by omega)).1
      subst hspot
      refine ⟨fun i => if i < n then (F i).1 else 0, fun i => (F i).2.1, fun i => (F i).2.2.1, fun i => (F i).2.2.2.1, fun i j => if i < n then (F i).2.2.2.2 j else 0, by omega, hfl2, ?_, ?_, ?_, ?_, ?_, by omega⟩
      · intro i hi
        obtain ⟨c0, c1, _⟩ := hF i hi
        rw [add_plain] at c0 c1
        simp only [if_pos hi]
        exact ⟨b, off, rfl, c0, by rw [Nat.add_assoc]; exact c1, World.block_lt_of_cell? _ _ c0⟩
      · intro i hi j hj
        obtain ⟨_, _, _, _, _, c5⟩ := hF i hi
        obtain ⟨b', off', e, hc⟩ := c5 j hj
        simp only [if_pos hi]
        exact ⟨b', off', e, hc, World.block_lt_of_cell? _ _ hc⟩
      · intro i
        by_cases hi : i < n
        · simp only [if_pos hi]; exact (hF i hi).2.2.1
        · simp only [if_neg hi]; omega
      · intro i j
        by_cases hi : i < n
        · simp only [if_pos hi]; exact (hF i hi).2.2.2.2.1 j
        · simp only [if_neg hi]; omega
      · intro i hi; exact (hF i hi).2.2.2.1
  obtain ⟨pp, ma, ml, mc, m, z1, z2⟩ := hw
  have walk : Calls Ybad.prog 3 #[.int .u8 N, .slice fa fl fc, .slice qa n qc] W fun e w' => e = .returned (.bool true) ∧ Below W.heap.size W w' := by
    by_cases hl : 1024 < n
    · exact law_long N fa fl fc qa n qc W hl z1
    · by_cases hl2 : 1024 < fl
      · exact law_long2 N fa fl fc qa n qc W hl hl2 hfl1
      · have := law_short N.toNat fa fl fc g qa n qc pp ma ml mc m W z2 (by omega) (by omega)
        rw [eN] at this
        exact this
  clear hA0 hval0
  refine walk.mono fun e W' ⟨he', bel⟩ => ?_
  subst he'
  exact ⟨_, rfl, _, _, _, [], _, _, hW', trodAll_mk1 (shut_bool Ybad.underlying4 _), trodAll_cons_mk (shut_int Ybad.underlying5 wN) (trodAll_cons_mk (Below.trod laidOut (by kernel_rfl) (of_decide_eq_true (by kernel_rfl)) k1 bel lt1) (trodAll_cons_mk (Below.trod laidOut (by kernel_rfl) (of_decide_eq_true (by kernel_rfl)) k2 bel lt2) trodAll_mk0)), Below.trodVars laidOut bel (by kernel_rfl) hV, bel.frame _, fun h => by cases h⟩

theorem row_holds : Rows.LawS4694AFirstFaultSaid :=
  OpenClaim.holds_of_wide 3 Ybad.f3 rfl rfl rfl rfl rfl rfl rfl ⟨rfl, rfl, rfl, rfl, rfl⟩ rfl rfl rfl rfl rfl (by kernel_rfl) Ybad.func3 (by kernel_rfl)
    (of_decide_eq_true (by kernel_rfl)) (by unfold Func.isWrapper; first | (rw [if_pos (by decide +kernel)]; kernel_rfl) | (rw [if_neg (by decide +kernel)]; exact ⟨rfl, rfl⟩))
    (fun os started H enc _ => lifted os started H enc)

/-- ████ THE STATEMENT ████ -/
theorem proved : Rows.LawS4694AFirstFaultCardSaid :=
  Claim7.holds_tied_plain_at .later [] [.data, .data, .data] true (true, "9b32e9c63511324975eba73666a9b25d2876d6a91e32c67038eb0c6bf4467091") false
    row_holds (fun _ h => by cases h) (by kernel_rfl) (fun _ h => by cases h) lawS4694AFirstFault_row_tie rfl ⟨rfl, rfl⟩ (by kernel_rfl) rfl
    (fun f fn hf hfn => by
      obtain rfl : f = 3 := Option.some.inj ((show Ybad.prog.funcNamed "example.com/caucus/caucus/history.LawS4694AFirstFault" = some 3 by kernel_rfl).symm.trans hf) |>.symm
      obtain rfl : fn = Ybad.f3 := (Option.some.inj (Ybad.func3.symm.trans hfn)).symm
      exact ⟨by kernel_rfl, fun j t ht => by
        rw [Ybad.params3] at ht
        have hm : t ∈ [5, 22, 23] := by simpa using Array.mem_of_getElem? ht
        have hall : ([5, 22, 23].all fun u => !Ybad.prog.wantsStandIn u) = true := by kernel_rfl
        exact (show Ybad.prog.wantsStandIn t = false by simpa using List.all_eq_true.1 hall t hm)⟩)
    (by kernel_rfl)
end Go.Proofs.YbulkcseoDoor
