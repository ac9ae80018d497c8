/-
  'Rows.LawS4689CSpendCardSaid': the row proved, then the tied card.
-/
import Derived.Test.YbulkcsbwDoorLaw
import Derived.Test.YbulkcsbwDoorTie
import Derived.Test.YbulkcsbwDoorCards
import Derived.ProofKit
import Derived.LaidMore
import Derived.OpenShut
import Derived.ShutString
import Derived.ChangeOld
import Derived.OpenVars
import Derived.SizedLaws
import Derived.Stop.Joined
import Derived.Stop.LaidErr
import Derived.SevenTiedAt
import Derived.Deep.Slices
namespace Go.Proofs.YbulkcsbwDoor
open Go.ChangeShapes Go.WideShapes Go.ChangeAt Go.RowKit Go.Deep
open Go.ChangeMaps (open_string shut_string)

theorem own : ownKnob Ybad.prog.godebug = none := by kernel_rfl
theorem laidOut : laidOutB Ybad.prog = true := by kernel_rfl
theorem cells38 : Ybad.prog.cellsOf 38 = 6 := by kernel_rfl
theorem cells9 : Ybad.prog.cellsOf 9 = 1 := by kernel_rfl
theorem cells35 : Ybad.prog.cellsOf 35 = 1 := by kernel_rfl
theorem cells4 : Ybad.prog.cellsOf 4 = 1 := by kernel_rfl
theorem cells5 : Ybad.prog.cellsOf 5 = 1 := by kernel_rfl
theorem cells121 : Ybad.prog.cellsOf 121 = 1 := by kernel_rfl

/-- A slice of bytes that was read. -/
theorem bs_of {H : Type} {enc : TypeId × Value → H} {w : World} {base fuel : Nat} {held : Bool} {v : Value} {x : DataW H × List MemPlace} (h : DataW.trod enc Ybad.prog w base (fun _ => true) held fuel 35 [v] = some x) :
    ∃ (a : Option Addr) (n c : Nat) (z : Nat → Int), v = .slice a n c ∧ Bs w a n z := by
  rcases open_ints Ybad.underlying35 Ybad.underlying5 cells5 h with ⟨hcs, _⟩ | ⟨a, l, c, zs, hcs, _, hl, hm, hz, _, hcell, hwz⟩
  · simp at hcs
    exact ⟨none, 0, 0, fun _ => 0, hcs, by omega, fun _ => by omega, fun j hj => by omega⟩
  · simp at hcs
    unfold maxLen at hm
    simp only [if_true] at hz
    refine ⟨some a, l, c, fun j => zs.getD j 0, hcs, by omega, fun j => ?_, fun j hj => ?_⟩
    · have := range_u8 hwz j
      simpa [List.getD] using this
    · obtain ⟨b, off, spot⟩ := a
      have hspot : spot = none := by simpa [Addr.add] using World.cell?_spot (hcell 0 (by omega))
      subst hspot
      exact ⟨b, off, rfl, by rw [← add_plain]; exact hcell j (by omega)⟩

/-- One drawn registration, cell by cell. -/
def ElemIs (w : World) (a : Addr) (i : Nat) (x : ByteArray × ByteArray × (Option Addr × Nat × Nat × (Nat → Int)) × (Option Addr × Nat × Nat × (Nat → Int)) × ByteArray × Bool) : Prop :=
  w.cell? (a.add (i * 6)) = some (.string x.1) ∧ w.cell? (a.add (i * 6 + 1)) = some (.string x.2.1) ∧ w.cell? (a.add (i * 6 + 2)) = some (.slice x.2.2.1.1 x.2.2.1.2.1 x.2.2.1.2.2.1) ∧
  w.cell? (a.add (i * 6 + 3)) = some (.slice x.2.2.2.1.1 x.2.2.2.1.2.1 x.2.2.2.1.2.2.1) ∧ w.cell? (a.add (i * 6 + 4)) = some (.string x.2.2.2.2.1) ∧ w.cell? (a.add (i * 6 + 5)) = some (.bool x.2.2.2.2.2) ∧
  Bs w x.2.2.1.1 x.2.2.1.2.1 x.2.2.1.2.2.2 ∧ Bs w x.2.2.2.1.1 x.2.2.2.1.2.1 x.2.2.2.1.2.2.2 ∧ x.2.2.2.2.1.size < 9223372036854775807

theorem add_add (a : Addr) (m n : Nat) : (a.add m).add n = a.add (m + n) := by
  unfold Addr.add
  by_cases h1 : m = 0 <;> by_cases h2 : n = 0 <;> simp [h1, h2, Nat.add_assoc]

theorem weightsAll_mem {H : Type} {P : Program} {e : TypeId} : ∀ {l : List (DataW H)} {d : DataW H}, d ∈ l → ∀ n ∈ d.weights P e, n ∈ DataW.weightsAll P e l
  | _ :: _, _, .head _, n, hn => by simp only [DataW.weightsAll, List.mem_append]; exact .inl hn
  | _ :: _, _, .tail _ h, n, hn => by simp only [DataW.weightsAll, List.mem_append]; exact .inr (weightsAll_mem h n hn)

set_option maxRecDepth 100000 in
theorem elem_of {H : Type} {enc : TypeId × Value → H} {w : World} {base n : Nat} {held : Bool} {a : Addr} {i : Nat} {cs : List Value} {y : DataW H × List MemPlace} (h1 : w.cells? base (a.add (i * 6)) 6 = some cs)
    (h2 : DataW.trod enc Ybad.prog w base (fun _ => true) held n 38 cs = some y) (hw : ∀ k ∈ y.1.weights Ybad.prog 38, k ≤ reachBytes) : ∃ x, ElemIs w a i x := by
  obtain ⟨_, hlen, hcell⟩ := World.cells?_some h1
  obtain ⟨xs, m, rfl, hy, _, hxl, hf⟩ := DataW.trod_struct Ybad.underlying38 h2
  match cs, hlen with
  | [v0, v1, v2, v3, v4, v5], _ =>
  have f0 := hf 0 _ rfl
  have f1 := hf 1 _ rfl
  have f2 := hf 2 _ rfl
  have f3 := hf 3 _ rfl
  have f4 := hf 4 _ rfl
  have f5 := hf 5 _ rfl
  simp [cells9, cells35, cells4] at f0 f1 f2 f3 f4 f5
  have hx6 : xs.length = 6 := hxl
  match xs, hx6 with
  | [x0, x1, x2, x3, x4, x5], _ =>
  simp at f0 f1 f2 f3 f4 f5
  obtain ⟨s0, e0, _, _⟩ := DataW.trod_string Ybad.underlying9 f0
  obtain ⟨s1, e1, _, _⟩ := DataW.trod_string Ybad.underlying9 f1
  obtain ⟨ka, kn, kc, kz, e2, hk⟩ := bs_of f2
  obtain ⟨ta, tn, tc, tz, e3, ht⟩ := bs_of f3
  obtain ⟨s4, e4, q4, _⟩ := DataW.trod_string Ybad.underlying9 f4
  obtain ⟨b5, e5, _⟩ := DataW.trod_bool Ybad.underlying4 f5
  simp at e0 e1 e4 e5
  subst e0 e1 e2 e3 e4 e5
  have c0 := hcell 0 (by omega)
  have c1 := hcell 1 (by omega)
  have c2 := hcell 2 (by omega)
  have c3 := hcell 3 (by omega)
  have c4 := hcell 4 (by omega)
  have c5 := hcell 5 (by omega)
  rw [add_add] at c0 c1 c2 c3 c4 c5
  refine ⟨(s0, s1, (ka, kn, kc, kz), (ta, tn, tc, tz), s4, b5), c0, c1, c2, c3, c4, c5, hk, ht, ?_⟩
  have hb : s4.data.toList.length ≤ reachBytes := by
    refine hw _ ?_
    rw [hy]
    simp only [DataW.weights, Ybad.underlying38]
    refine DataW.weights_mem_each (j := 4) (t := 9) (d := .lit (.string s4.data.toList)) rfl ?_ _ (by simp [DataW.weights])
    simp [q4]
  have := reachBytes_lt
  have hs : s4.data.toList.length = s4.size := Array.length_toList
  show s4.size < _
  omega

theorem gE0 : Ybad.prog.globalNamed "example.com/roamkey/roamkey/store.ErrUnknown" = some 0 := by kernel_rfl
theorem gE1 : Ybad.prog.globalNamed "example.com/roamkey/roamkey/store.ErrSpent" = some 1 := by kernel_rfl
theorem gT0 : (Ybad.prog.globals[0]?).map (·.type) = some 55 := by kernel_rfl
theorem gT1 : (Ybad.prog.globals[1]?).map (·.type) = some 55 := by kernel_rfl
theorem star : "*" ++ "errors.errorString" = "*errors.errorString" := by decide
theorem row119 (u : TypeId) (h : Ybad.prog.typeName? 3 u = some "*errors.errorString") : u = 119 :=
  typeName_ptr_named (nm := "errors.errorString") (by rw [star]; kernel_rfl) (by kernel_rfl) (by decide) u (by rw [star]; exact h)

theorem door_met (os : Os) (args : Array Value) : laidMetH Ybad.prog Rows.lawS4689CSpendRow.laid ((World.doorLaid Ybad.prog 100 os).forCall (fun _ _ => 0) ⟨#[], args, []⟩).memory :=
  laidMetH_of_parts3 (fuel := 8) (laidMet_of_run' 8 (by kernel_rfl) (by kernel_rfl)) (by kernel_rfl) (by kernel_rfl)

theorem of_laid {W : World} (h : laidMetH Ybad.prog Rows.lawS4689CSpendRow.laid W) : ∃ e0 e1, W.cell? ⟨0, 0, none⟩ = some (.iface 119 (.pointer (some e0))) ∧ W.cell? ⟨1, 0, none⟩ = some (.iface 119 (.pointer (some e1))) := by
  rw [MakeChecks.laidMetH_plain _ _ _ (by kernel_rfl)] at h
  obtain ⟨a0, s0, hv0, _, _, _⟩ := laid_sentinel h gE0 gT0 Ybad.underlying55 row119 Ybad.underlying119 Ybad.underlying121 rfl rfl Ybad.underlying9 cells121 cells9
  obtain ⟨a1, s1, hv1, _, _, _⟩ := laid_sentinel h.tail gE1 gT1 Ybad.underlying55 row119 Ybad.underlying119 Ybad.underlying121 rfl rfl Ybad.underlying9 cells121 cells9
  exact ⟨a0, a1, by simpa using World.var?_cell gE0 hv0 0, by simpa using World.var?_cell gE1 hv1 0⟩

set_option maxRecDepth 100000 in
theorem lifted (os : Os) (started : os.Started) (H : Type) (enc : TypeId × Value → H) :
    ReturnsInHanded {} Ybad.checked os 5 .any (fun w args => (Rows.lawS4689CSpendSpec.pre enc Ybad.prog Ybad.f5 [] false w args ∧ laidMetH Ybad.prog Rows.lawS4689CSpendRow.laid w) ∧ sizedMet enc Ybad.prog Ybad.f5 (OpenSpec.ofChange Rows.lawS4689CSpendSpec) false w args)
      (Rows.lawS4689CSpendSpec.post enc Ybad.prog Ybad.f5 false true false false) := by
  refine returnsInHanded_of_change_and (C := Ybad.checked) (X := fun w _ => laidMetH Ybad.prog Rows.lawS4689CSpendRow.laid w) (fun _ _ _ hh h => h.of_heap hh) own started (by kernel_rfl) Ybad.func5
    (ChangeSpec.witness_shaped (enc := enc) (C := Ybad.checked) (os := os) (X := fun w _ => laidMetH Ybad.prog Rows.lawS4689CSpendRow.laid w) false (World.doorLaid Ybad.prog 100 os) #[.slice none 0 0, .int .u8 0, .string ⟨#[]⟩, .slice none 0 0, .bool false] 8 rfl (World.shaped_of_RefB (by kernel_rfl) (by kernel_rfl)) (by kernel_rfl) (by kernel_rfl) (by kernel_rfl) (door_met os _)) ?_
  intro W base args ds gs before hval0 hW _ hsz0 hL _
  have hval : ∀ (j : Nat) t v, Ybad.f5.params[j]? = some t → args[j]? = some v → Value.okWide Ybad.prog W .any base t v := hval0
  have hsz : (DataW.weightsEach Ybad.prog (Ybad.f5.params.toList ++ Rows.lawS4689CSpendSpec.plain.varTypes Ybad.prog) (ds ++ gs)).all (· ≤ reachBytes) = true := hsz0
  have hW' := hW
  obtain ⟨p, q, hA0, hV0, rfl, hfz, hnd⟩ := hW
  have hA : DataW.TrodAll enc Ybad.prog W 0 (fun _ => true) true Ybad.f5.params.toList args.toList ds p := hA0
  have hV : DataW.TrodVars enc Ybad.prog W (fun _ => true) ["example.com/roamkey/roamkey/store.ErrUnknown", "example.com/roamkey/roamkey/store.ErrSpent"] gs q := hV0
  rw [Ybad.params5] at hA hval hsz
  obtain ⟨v0, vs0, d0, ds0, p0, q0, hargs, rfl, rfl, h0, r0⟩ := trodAll_cons hA
  obtain ⟨v1, vs1, d1, ds1, p1, q1, rfl, rfl, rfl, h1, r1⟩ := trodAll_cons r0
  obtain ⟨v2, vs2, d2, ds2, p2, q2, rfl, rfl, rfl, h2, r2⟩ := trodAll_cons r1
  obtain ⟨v3, vs3, d3, ds3, p3, q3, rfl, rfl, rfl, h3, r3⟩ := trodAll_cons r2
  obtain ⟨v4, vs4, d4, ds4, p4, q4, rfl, rfl, rfl, h4, r4⟩ := trodAll_cons r3
  obtain ⟨rfl, rfl, rfl⟩ := trodAll_nil r4
  obtain rfl : args = #[v0, v1, v2, v3, v4] := by cases args; simp_all
  obtain ⟨e0, e1, he0, he1⟩ := of_laid hL
  obtain ⟨a, n, c, rfl⟩ := okWide_slice Ybad.underlying34 (hval 0 34 v0 rfl rfl)
  obtain ⟨pk, rfl, rfl, rfl, wpk⟩ := open_int Ybad.underlying5 (hval 1 5 v1 rfl rfl) h1
  obtain ⟨tmsi, rfl, rfl, rfl, wtm⟩ := open_string Ybad.underlying9 (hval 2 9 v2 rfl rfl) h2
  obtain ⟨us, rfl, rfl, rfl⟩ := open_bool Ybad.underlying4 (hval 4 4 v4 rfl rfl) h4
  have k0 := h0
  have k3 := h3
  have lt0 : ∀ x ∈ p0, x.block < W.heap.size := by obtain ⟨m, hm⟩ := k0; exact DataW.trod_lt m _ _ _ hm
  have lt3 : ∀ x ∈ p3, x.block < W.heap.size := by obtain ⟨m, hm⟩ := k3; exact DataW.trod_lt m _ _ _ hm
  have hgs : ∃ g g', gs = [g, g'] := by
    match gs, hV with
    | [g, g'], _ => exact ⟨g, g', rfl⟩
    | [_], ⟨_, _, _, _, _, _, _, _, _, _, h, _⟩ => exact h.elim
    | _ :: _ :: _ :: _, ⟨_, _, _, _, _, _, _, _, _, _, ⟨_, _, _, _, _, _, _, _, _, _, h, _⟩, _⟩ => exact h.elim
  obtain ⟨g, g', rfl⟩ := hgs
  obtain ⟨sa, sn, sc, sz, rfl, hS⟩ : ∃ (a : Option Addr) (n c : Nat) (z : Nat → Int), v3 = .slice a n c ∧ Bs W a n z := by
    obtain ⟨a3, n3, c3, e3⟩ := okWide_slice Ybad.underlying35 (hval 3 35 v3 rfl rfl)
    subst e3
    obtain ⟨m, hm⟩ := h3
    exact bs_of (v := .slice a3 n3 c3) (by simpa [Value.cells] using hm)
  have hw : ∃ (R : Drawn) (b off : Nat), n ≤ 9223372036854775807 ∧ Lies W R a b off n ∧ (0 < n → b < W.heap.size) := by
    obtain ⟨fuel, hf⟩ := h0
    have hfo := open_slice Ybad.underlying34 hf
    rw [cells38] at hfo
    rcases hfo with ⟨hcs, _⟩ | ⟨x, l, c', m, fu, D, Pl, hcs, _, hl, hm, hmm, hx, hel⟩
    · simp [Value.cells] at hcs
      obtain ⟨rfl, rfl, rfl⟩ := hcs
      refine ⟨⟨fun _ => ⟨#[]⟩, fun _ => ⟨#[]⟩, fun _ => none, fun _ => 0, fun _ => 0, fun _ _ => 0, fun _ => none, fun _ => 0, fun _ => 0, fun _ _ => 0, fun _ => ⟨#[]⟩, fun _ => false⟩, 0, 0, by omega, ⟨?_, ?_, ?_, ?_, ?_, ?_, ?_, ?_, ?_, ?_⟩, ?_⟩
      all_goals (intros; omega)
    · simp [Value.cells] at hcs
      obtain ⟨rfl, rfl, rfl⟩ := hcs
      unfold maxLen at hm
      simp only [if_true] at hmm
      subst hmm
      have hx1 : d0 = .slice ((List.range n).map D) ((List.range (m - n)).map fun j => D (n + j)) := congrArg Prod.fst hx
      have each : ∀ i, i < n → ∃ y, ElemIs W x i y := fun i hi => by
        obtain ⟨cs, c1, c2⟩ := hel i (by omega)
        refine elem_of c1 c2 (fun k hk => ?_)
        refine of_decide_eq_true (List.all_eq_true.1 hsz _ (DataW.weights_mem_each (j := 0) (t := 34) (d := d0) rfl rfl _ ?_))
        rw [hx1]
        simp only [DataW.weights, Ybad.underlying34, List.mem_cons, List.mem_append]
        exact .inr (.inl (weightsAll_mem (List.mem_map.2 ⟨i, by simpa using hi, rfl⟩) k hk))
      obtain ⟨F, hF⟩ := choose_lt each
      obtain ⟨b, off, spot⟩ := x
      by_cases hn0 : n = 0
      · subst hn0
        refine ⟨⟨fun _ => ⟨#[]⟩, fun _ => ⟨#[]⟩, fun _ => none, fun _ => 0, fun _ => 0, fun _ _ => 0, fun _ => none, fun _ => 0, fun _ => 0, fun _ _ => 0, fun _ => ⟨#[]⟩, fun _ => false⟩, 0, 0, by omega, ⟨?_, ?_, ?_, ?_, ?_, ?_, ?_, ?_, ?_, ?_⟩, ?_⟩
        all_goals (intros; omega)
      have hspot : spot = none := by simpa [Addr.add] using World.cell?_spot (hF 0 (by omega)).1
      subst hspot
      refine ⟨⟨fun i => (F i).1, fun i => (F i).2.1, fun i => (F i).2.2.1.1, fun i => (F i).2.2.1.2.1, fun i => (F i).2.2.1.2.2.1, fun i => (F i).2.2.1.2.2.2, fun i => (F i).2.2.2.1.1, fun i => (F i).2.2.2.1.2.1, fun i => (F i).2.2.2.1.2.2.1, fun i => (F i).2.2.2.1.2.2.2, fun i => (F i).2.2.2.2.1, fun i => (F i).2.2.2.2.2⟩, b, off, by omega, ⟨fun _ => rfl, ?_, ?_, ?_, ?_, ?_, ?_, ?_, ?_, ?_⟩, ?_⟩
      · intro i hi; rw [← add_plain]; exact (hF i hi).1
      · intro i hi; rw [Nat.add_assoc, ← add_plain]; exact (hF i hi).2.1
      · intro i hi; rw [Nat.add_assoc, ← add_plain]; exact (hF i hi).2.2.1
      · intro i hi; rw [Nat.add_assoc, ← add_plain]; exact (hF i hi).2.2.2.1
      · intro i hi; rw [Nat.add_assoc, ← add_plain]; exact (hF i hi).2.2.2.2.1
      · intro i hi; rw [Nat.add_assoc, ← add_plain]; exact (hF i hi).2.2.2.2.2.1
      · intro i hi; exact (hF i hi).2.2.2.2.2.2.1
      · intro i hi; exact (hF i hi).2.2.2.2.2.2.2.1
      · intro i hi; exact (hF i hi).2.2.2.2.2.2.2.2
      · intro h; have := World.block_lt_of_cell? _ _ (hF 0 h).1; simpa [Addr.add] using this
  obtain ⟨R, b, off, z1, z2, z3⟩ := hw
  have hpk := bounds_u8 wpk
  have walk : Calls Ybad.prog 5 #[.slice a n c, .int .u8 pk, .string tmsi, .slice sa sn sc, .bool us] W fun e w' => e = .returned (.bool true) ∧ Below W.heap.size W w' := by
    by_cases hl : 1024 < n
    · exact law_long a n c pk tmsi sa sn sc us W hl z1
    · exact law_all R a b off n c pk tmsi sa sn sc sz us e0 e1 W (by omega) z2 z3 hS hpk he0 he1
  clear hA0 hval0
  refine walk.mono fun e W' ⟨he', bel⟩ => ?_
  subst he'
  exact ⟨_, rfl, _, _, _, [], _, _, hW', trodAll_mk1 (shut_bool Ybad.underlying4 _), trodAll_cons_mk (Below.trod laidOut (by kernel_rfl) (of_decide_eq_true (by kernel_rfl)) k0 bel lt0) (trodAll_cons_mk (shut_int Ybad.underlying5 wpk) (trodAll_cons_mk (shut_string Ybad.underlying9 wtm) (trodAll_cons_mk (Below.trod laidOut (by kernel_rfl) (of_decide_eq_true (by kernel_rfl)) k3 bel lt3) (trodAll_cons_mk (shut_bool Ybad.underlying4 us) trodAll_mk0)))), Below.trodVars laidOut bel (by kernel_rfl) hV, bel.frame _, fun h => by cases h⟩

theorem row_holds : Rows.LawS4689CSpendSaid :=
  OpenClaim.holds_of_wide 5 Ybad.f5 rfl rfl rfl rfl rfl rfl rfl ⟨rfl, rfl, rfl, rfl, rfl⟩ rfl rfl rfl rfl rfl (by kernel_rfl) Ybad.func5 (by kernel_rfl)
    (of_decide_eq_true (by kernel_rfl)) (by unfold Func.isWrapper; first | (rw [if_pos (by decide +kernel)]; kernel_rfl) | (rw [if_neg (by decide +kernel)]; exact ⟨rfl, rfl⟩))
    (fun os started H enc _ => lifted os started H enc)

/-- ████ THE STATEMENT ████ -/
theorem proved : Rows.LawS4689CSpendCardSaid :=
  Claim7.holds_tied_plain_at .later [] [.sentinel, .sentinel] true (true, "627ed53f4acc72ce0a7bf796edc08cc47e296fc1b2b78505f6906d88ed875fa2") true
    row_holds (fun _ h => by cases h) (by kernel_rfl) (fun _ h => by cases h) lawS4689CSpend_row_tie rfl ⟨rfl, rfl⟩ (by kernel_rfl) rfl
    (fun f fn hf hfn => by
      obtain rfl : f = 5 := Option.some.inj ((show Ybad.prog.funcNamed "example.com/roamkey/roamkey/store.LawS4689CSpend" = some 5 by kernel_rfl).symm.trans hf) |>.symm
      obtain rfl : fn = Ybad.f5 := (Option.some.inj (Ybad.func5.symm.trans hfn)).symm
      exact ⟨by kernel_rfl, fun j t ht => by
        rw [Ybad.params5] at ht
        have hm : t ∈ [34, 5, 9, 35, 4] := by simpa using Array.mem_of_getElem? ht
        have hall : ([34, 5, 9, 35, 4].all fun u => !Ybad.prog.wantsStandIn u) = true := by kernel_rfl
        exact (show Ybad.prog.wantsStandIn t = false by simpa using List.all_eq_true.1 hall t hm)⟩)
    (by kernel_rfl)
end Go.Proofs.YbulkcsbwDoor
