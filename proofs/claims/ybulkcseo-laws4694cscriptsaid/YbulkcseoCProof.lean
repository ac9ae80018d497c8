/-
  'Rows.LawS4694CScriptSaid': the row proved.
-/
import Derived.Test.YbulkcseoRows
import Derived.Test.YbulkcseoCLaw
import Derived.WalkKit
import Derived.ProofKit
import Derived.OpenShut
import Derived.ShutString
import Derived.ChangeOld
import Derived.Below
import Derived.Deep.Slices
namespace Go.Proofs.Ybulkcseo.lawS4694CScript
open Go.ChangeShapes Go.WideShapes Go.ChangeAt Go.RowKit Go.Deep
open Go.ChangeMaps (open_string shut_string)
open Go.Proofs.Ybulkcseo.C
set_option linter.unusedVariables false

theorem own : ownKnob Yba.prog.godebug = none := by kernel_rfl
theorem laidOut : laidOutB Yba.prog = true := by kernel_rfl
theorem cells52 : Yba.prog.cellsOf 52 = 3 := by kernel_rfl
theorem cells5 : Yba.prog.cellsOf 5 = 1 := by kernel_rfl
theorem cells30 : Yba.prog.cellsOf 30 = 1 := by kernel_rfl

theorem add_plain (b off j : Nat) : (⟨b, off, none⟩ : Addr).add j = ⟨b, off + j, none⟩ := Addr.add_mid b off j
theorem add_add (a : Addr) (m n : Nat) : (a.add m).add n = a.add (m + n) := by
  unfold Addr.add
  by_cases h1 : m = 0 <;> by_cases h2 : n = 0 <;> simp [h1, h2, Nat.add_assoc]

/-- One drawn operation, cell by cell. -/
def ElemIs (w : World) (a : Addr) (i : Nat) (x : Nat × Nat × Nat) : Prop :=
  w.cell? (a.add (i * 3)) = some (.int .u8 x.1) ∧ w.cell? (a.add (i * 3 + 1)) = some (.int .u8 x.2.1) ∧ w.cell? (a.add (i * 3 + 2)) = some (.int .u64 x.2.2) ∧ x.1 < 256 ∧ x.2.1 < 256 ∧ x.2.2 < 18446744073709551616

set_option maxRecDepth 100000 in
theorem elem_of {H : Type} {enc : TypeId × Value → H} {w : World} {base n : Nat} {held : Bool} {a : Addr} {i : Nat} {cs : List Value} {y : DataW H × List MemPlace} (h1 : w.cells? base (a.add (i * 3)) 3 = some cs)
    (h2 : DataW.trod enc Yba.prog w base (fun _ => true) held n 52 cs = some y) : ∃ x, ElemIs w a i x := by
  obtain ⟨_, hlen, hcell⟩ := World.cells?_some h1
  obtain ⟨xs, m, rfl, hy, _, hxl, hf⟩ := DataW.trod_struct Yba.underlying52 h2
  match cs, hlen with
  | [v0, v1, v2], _ =>
  have f0 := hf 0 _ rfl
  have f1 := hf 1 _ rfl
  have f2 := hf 2 _ rfl
  simp [cells5, cells30] at f0 f1 f2
  have hx3 : xs.length = 3 := hxl
  match xs, hx3 with
  | [x0, x1, x2], _ =>
  simp at f0 f1 f2
  obtain ⟨z0, e0, w0⟩ := DataW.trod_int Yba.underlying5 f0
  obtain ⟨z1, e1, w1⟩ := DataW.trod_int Yba.underlying5 f1
  obtain ⟨z2, e2, w2⟩ := DataW.trod_int Yba.underlying30 f2
  simp at e0 e1 e2
  subst e0 e1 e2
  have b0 := bounds_u8 w0.2
  have b1 := bounds_u8 w1.2
  have b2 := bounds_u64 w2.2
  have c0 := hcell 0 (by omega)
  have c1 := hcell 1 (by omega)
  have c2 := hcell 2 (by omega)
  rw [add_add] at c0 c1 c2
  have t0 : ((z0.toNat : Nat) : Int) = z0 := Int.toNat_of_nonneg b0.1
  have t1 : ((z1.toNat : Nat) : Int) = z1 := Int.toNat_of_nonneg b1.1
  have t2 : ((z2.toNat : Nat) : Int) = z2 := Int.toNat_of_nonneg b2.1
  refine ⟨(z0.toNat, z1.toNat, z2.toNat), ?_, ?_, ?_, by show z0.toNat < _; omega, by show z1.toNat < _; omega, by show z2.toNat < _; omega⟩
  · show _ = some (Value.int .u8 ((z0.toNat : Nat) : Int)); rw [t0]; exact c0
  · show _ = some (Value.int .u8 ((z1.toNat : Nat) : Int)); rw [t1]; exact c1
  · show _ = some (Value.int .u64 ((z2.toNat : Nat) : Int)); rw [t2]; exact c2

theorem choose3 {w : World} {a : Addr} {n : Nat} (h : ∀ i, i < n → ∃ x, ElemIs w a i x) : ∃ p q r : Nat → Nat, (∀ i, i < n → ElemIs w a i (p i, q i, r i)) ∧ (∀ i, p i < 256) ∧ (∀ i, q i < 256) ∧ ∀ i, r i < 18446744073709551616 := by
  have key : ∀ i, ∃ x : Nat × Nat × Nat, (i < n → ElemIs w a i x) ∧ x.1 < 256 ∧ x.2.1 < 256 ∧ x.2.2 < 18446744073709551616 := fun i => by
    by_cases hi : i < n
    · obtain ⟨x, hx⟩ := h i hi
      exact ⟨x, fun _ => hx, hx.2.2.2.1, hx.2.2.2.2.1, hx.2.2.2.2.2⟩
    · exact ⟨(0, 0, 0), fun h => absurd h hi, by decide, by decide, by decide⟩
  obtain ⟨F, hF⟩ := Classical.axiomOfChoice key
  exact ⟨fun i => (F i).1, fun i => (F i).2.1, fun i => (F i).2.2, fun i hi => (hF i).1 hi, fun i => (hF i).2.1, fun i => (hF i).2.2.1, fun i => (hF i).2.2.2⟩

set_option maxRecDepth 100000 in
theorem lifted (os : Os) (started : os.Started) (H : Type) (enc : TypeId × Value → H) :
    ReturnsInHanded {} Yba.checked os 5 .any (Rows.lawS4694CScriptSpec.pre6 enc Yba.prog Yba.f5 Rows.lawS4694CScriptRow.domain false) (Rows.lawS4694CScriptSpec.post enc Yba.prog Yba.f5 false true false false) := by
  refine returnsInHanded_of_change (C := Yba.checked) own started (by kernel_rfl) Yba.func5
    (ChangeSpec.witness6 (enc := enc) (C := Yba.checked) false ⟨#[], #[.int .u8 0, .int .u8 0, .slice none 0 0, .int .u64 0], []⟩ 8 (by kernel_rfl) (by kernel_rfl) (by kernel_rfl) (by kernel_rfl)) ?_
  intro W base args ds gs before hval0 hW hcnd _
  have hval : ∀ (j : Nat) t v, Yba.f5.params[j]? = some t → args[j]? = some v → Value.okWide Yba.prog W .any base t v := hval0
  have hW' := hW
  obtain ⟨p, q, hA0, hV, rfl, hfz, hnd⟩ := hW
  have hA : DataW.TrodAll enc Yba.prog W 0 (fun _ => true) true Yba.f5.params.toList args.toList ds p := hA0
  rw [Yba.params5] at hA hval
  obtain ⟨v0, vs0, d0, ds0, p0, q0, hargs, rfl, rfl, h0, r0⟩ := trodAll_cons hA
  obtain ⟨v1, vs1, d1, ds1, p1, q1, rfl, rfl, rfl, h1, r1⟩ := trodAll_cons r0
  obtain ⟨v2, vs2, d2, ds2, p2, q2, rfl, rfl, rfl, h2, r2⟩ := trodAll_cons r1
  obtain ⟨v3, vs3, d3, ds3, p3, q3, rfl, rfl, rfl, h3, r3⟩ := trodAll_cons r2
  obtain ⟨rfl, rfl, rfl⟩ := trodAll_nil r3
  obtain rfl : args = #[v0, v1, v2, v3] := by cases args; simp_all
  obtain ⟨rfl, rfl⟩ := trodVars_none hV
  obtain ⟨i, rfl, rfl, rfl, wi⟩ := open_int Yba.underlying5 (hval 0 5 v0 rfl rfl) h0
  obtain ⟨n, rfl, rfl, rfl, wn⟩ := open_int Yba.underlying5 (hval 1 5 v1 rfl rfl) h1
  obtain ⟨a, len, c, rfl⟩ := okWide_slice Yba.underlying48 (hval 2 48 v2 rfl rfl)
  obtain ⟨wt, rfl, rfl, rfl, wwt⟩ := open_int Yba.underlying30 (hval 3 30 v3 rfl rfl) h3
  have k2 := h2
  have lt2 : ∀ x ∈ p2, x.block < W.heap.size := by obtain ⟨m, hm⟩ := k2; exact DataW.trod_lt m _ _ _ hm
  have hw : len ≤ 9223372036854775807 ∧ ∃ pp qq rr, Ops W a len pp qq rr := by
    obtain ⟨fuel, hf⟩ := h2
    have hfo := open_slice Yba.underlying48 hf
    rw [cells52] at hfo
    rcases hfo with ⟨hcs, _⟩ | ⟨x, l, c', m, fu, D, Pl, hcs, _, hl, hm, hmm, hx, hel⟩
    · simp [Value.cells] at hcs
      obtain ⟨rfl, rfl, rfl⟩ := hcs
      exact ⟨by omega, fun _ => 0, fun _ => 0, fun _ => 0, fun j hj => by omega, fun _ => by decide, fun _ => by decide, fun _ => by decide⟩
    · simp [Value.cells] at hcs
      obtain ⟨rfl, rfl, rfl⟩ := hcs
      unfold maxLen at hm
      simp only [if_true] at hmm
      subst hmm
      refine ⟨by omega, ?_⟩
      have each : ∀ i, i < len → ∃ y, ElemIs W x i y := fun i hi => by
        obtain ⟨cs, c1, c2⟩ := hel i (by omega)
        exact elem_of c1 c2
      obtain ⟨pp, qq, rr, hF, hp, hq, hr⟩ := choose3 each
      refine ⟨pp, qq, rr, fun j hj => ?_, hp, hq, hr⟩
      obtain ⟨b, off, spot⟩ := x
      obtain ⟨g0, g1, g2, _⟩ := hF j hj
      have hspot : spot = none := by simpa [Addr.add] using World.cell?_spot (hF 0 (by omega)).1
      subst hspot
      rw [add_plain] at g0 g1 g2
      exact ⟨b, off, rfl, g0, by rw [Nat.add_assoc]; exact g1, by rw [Nat.add_assoc]; exact g2, by have := World.block_lt_of_cell? _ _ g0; simpa using this⟩
  obtain ⟨hlen, pp, qq, rr, hOps⟩ := hw
  have bi := bounds_u8 wi
  have bn := bounds_u8 wn
  have bw := bounds_u64 wwt
  have walk : Calls Yba.prog 5 #[.int .u8 i, .int .u8 n, .slice a len c, .int .u64 wt] W fun e w' => e = .returned (.bool true) ∧ Below W.heap.size W w' := by
    by_cases hl : 1024 < len
    · exact claw_long i n a len c wt W hl hlen
    · have := claw_short i.toNat n.toNat a len c wt.toNat pp qq rr W (by omega) (by omega) (by omega) (by omega) hOps
      rwa [Int.toNat_of_nonneg bi.1, Int.toNat_of_nonneg bn.1, Int.toNat_of_nonneg bw.1] at this
  clear hA0 hval0
  refine walk.mono fun e W' ⟨he, bel⟩ => ?_
  subst he
  exact ⟨_, rfl, _, _, _, [], _, [], hW', trodAll_mk1 (shut_bool Yba.underlying4 _), (trodAll_cons_mk (shut_int Yba.underlying5 wi) (trodAll_cons_mk (shut_int Yba.underlying5 wn) (trodAll_cons_mk (Below.trod laidOut (by kernel_rfl) (of_decide_eq_true (by kernel_rfl)) k2 bel lt2) (trodAll_cons_mk (shut_int Yba.underlying30 wwt) trodAll_mk0)))), rfl, bel.frame _, fun h => by cases h⟩

theorem over : Rows.lawS4694CScriptRow.holds Yba.pinned (OpenSpec.ofChange Rows.lawS4694CScriptSpec) :=
  OpenClaim.holds_of_wide 5 Yba.f5 rfl rfl rfl rfl rfl rfl rfl ⟨rfl, rfl, rfl, rfl, rfl⟩ rfl rfl rfl rfl rfl (by kernel_rfl) Yba.func5 (by kernel_rfl)
    (of_decide_eq_true (by kernel_rfl)) (by unfold Func.isWrapper; first | (rw [if_pos (by decide +kernel)]; kernel_rfl) | (rw [if_neg (by decide +kernel)]; exact ⟨rfl, rfl⟩))
    (fun os started H enc _ => lifted os started H enc)

/-- ████ THE STATEMENT ████ -/
theorem proved : Rows.LawS4694CScriptSaid := over
end Go.Proofs.Ybulkcseo.lawS4694CScript
