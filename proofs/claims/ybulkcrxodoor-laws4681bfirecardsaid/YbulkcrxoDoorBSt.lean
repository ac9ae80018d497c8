/-
  LawS4681BFire: what stands when 'fire' is called.
-/
import Derived.Test.YbulkcrxoDoorBTb
set_option linter.unusedVariables false
namespace Go.Proofs.YbulkcrxoDoor.F
open Go.RowKit Go.Any
open Go.ChangeMaps (setBlock)

theorem Gn.of_got {w : World} {lo lo' S : Nat} {fr : Value} {len : Int} {c : Option (Nat × Bool)} (h : Got w lo' S fr len c false) : Gn w lo S [] 0 none c := by
  match c, h with
  | none, h => exact ⟨_, h, World.ownsRow_nil _ _ _ _, rfl⟩
  | some (C, true), h => exact ⟨h.1, h.2, rfl⟩
  | some (C, false), h => exact ⟨h.1, _, h.2, World.ownsRow_nil _ _ _ _, rfl⟩

/-- The sessions are as they were made. -/
theorem Bb.gots {wt wS w : World} {T SA CA HBk : Nat} {al : Value} {SB : Fin 4 → Nat} {CB : Fin 4 → Option (Nat × Bool)} {IK : Key → Nat} {JS : Fin 4 → Nat} {ρ : Nat → Role} {A : Nat → Wt} {N : Nat} (h : Bb wS w T HBk al SB IK JS ρ A N) (Q : P1 wt wS SA SA CA 4 SB CB) (hSA : SA = T + 3) (hS : ∀ j, SB j ≠ HBk) (hC : ∀ j C cl, CB j = some (C, cl) → C ≠ HBk) (i : Fin 4) (lo : Nat) (fr : Value) (len : Int) : Got w lo (SB i) fr len (CB i) false := by
  have g := Q.got i i.isLt wS.heap.size fr len
  have eq : ∀ j, j < wS.heap.size → SA ≤ j → j ≠ HBk → (∃ c t, wS.heap[j]? = some (.cells c t (0, 0))) → w.heap[j]? = wS.heap[j]? := fun j h1 h2 h3 ⟨c, t, e⟩ => by
    rw [h.old j c t _ h1 (by omega) h3 e, e]
  have lS := Q.ls i i.isLt
  refine (g.keep (eq _ lS.2.1 lS.1 (hS i) g.blk) (fun C cl e => ?_) (fun g h1 h2 => by omega)).free
  have lC := Q.lc i C cl i.isLt e
  refine eq _ lC.2.1 lC.1 (hC i C cl e) ?_
  rw [e] at g
  cases cl with
  | true => exact g.2.blk
  | false => exact g.2.blk

theorem St.of {w wt wS wr : World} {T SA CA HBk : Nat} {al : Value} {SB : Fin 4 → Nat} {CB : Fin 4 → Option (Nat × Bool)} {IK : Key → Nat} {JS : Fin 4 → Nat} {ρ : Nat → Role} {A : Nat → Wt} {N : Nat} (hT : T = w.heap.size) (hSA : SA = T + 3) (h : Bb wS wr T HBk al SB IK JS ρ A N) (Q : P1 wt wS SA SA CA 4 SB CB) (hS : ∀ j, SB j ≠ HBk) (hC : ∀ j C cl, CB j = some (C, cl) → C ≠ HBk) (hw : Below w.heap.size w wS) (hN : N ≤ 1024)
    (HE : 2 ≤ w.heap.size ∧ w.cell? ⟨1, 0, none⟩ = some (.int .i32 (-1)) ∧ w.cell? ⟨1, 1, none⟩ = some (.int .i64 (-1)) ∧ w.cell? ⟨1, 2, none⟩ = some (.int .i32 0)) :
    ∃ AB, AB < wr.heap.size + 1 ∧ (0 < N → wS.heap.size ≤ AB) ∧ (N = 0 → AB = 0) ∧ Env2 T wr.heap.size wr.heap.size (T + 2) AB SB CB ∧ St T wr.heap.size wr.heap.size (T + 2) T (T + 1) AB (wr.heap.size + 1) SB CB IK JS ρ (wr.alloc (.cells (srvC (T + 2)) 93)) A N 0 (fun _ => []) (fun _ => 0) (fun _ => none) := by
  have lt := h.lt
  have hsz := h.bel.size
  obtain ⟨AB, t1, t2, t3⟩ := Tbl.of h.tk h.ts h.tx h.inj (by omega) (by omega) (by omega) (by omega) (by omega)
  have hA : 0 < N → wS.heap.size ≤ AB ∧ AB < wr.heap.size := fun hN => by
    obtain ⟨h1, c, e⟩ := own_lt h.own (t2 hN).2
    exact ⟨h1, by rcases Array.getElem?_eq_some_iff.1 e with ⟨h, _⟩; exact h⟩
  have B1 : Below wr.heap.size wr (wr.alloc (.cells (srvC (T + 2)) 93)) := (Below.refl _ _).alloc (Nat.le_refl _) _
  have bw : Below w.heap.size w (wr.alloc (.cells (srvC (T + 2)) 93)) := hw.trans ((h.bel.mono (by omega)).trans (B1.mono (by have := hw.size; omega)))
  have nA : ∀ j, T + 3 ≤ j → j < wS.heap.size → j ≠ AB := fun j h1 h2 e => by
    rcases Nat.eq_zero_or_pos N with q | q
    · have := t3 q; omega
    · have := (hA q).1; omega
  have lS := fun i => Q.ls i i.isLt
  have lC := fun i C cl e => Q.lc i C cl i.isLt e
  have hvA : wr.heap.size ≠ AB := fun e => by
    rcases Nat.eq_zero_or_pos N with q | q
    · have := t3 q; omega
    · have := (hA q).2; omega
  refine ⟨AB, ?_, fun hN => (hA hN).1, t3, ⟨fun i => ⟨by have := lS i; omega, nA _ (by have := lS i; omega) (lS i).2.1⟩, fun i C cl e => ⟨by have := lC i C cl e; omega, nA _ (by have := lC i C cl e; omega) (lC i C cl e).2.1⟩, fun i => by have := lS i; omega, fun i C cl e => by have := lC i C cl e; omega, fun i j e => Q.ss i j i.isLt j.isLt e, fun i j C cl e => Q.sc i j C cl i.isLt j.isLt e, fun i j C cl cl' e e' => Q.cc i j C cl cl' i.isLt j.isLt e e', Nat.le_refl _, ⟨by omega, hvA⟩, by omega⟩, ⟨t1.below B1, ⟨fun i => ?_, fun a b e => Q.ss a b a.isLt b.isLt e⟩, fun i => Gn.of_got ((h.gots Q hSA hS hC i 0 undef 0).below B1), srv_new wr (T + 2), by omega, fun i => by simp, fun i => by omega, fun i g q => (by cases q), fun i j g q => (by cases q), (by simp), (bw.cell (p := ⟨1, 0, none⟩) (by show 1 < _; omega)).trans HE.2.1, (bw.cell (p := ⟨1, 1, none⟩) (by show 1 < _; omega)).trans HE.2.2.1, (bw.cell (p := ⟨1, 2, none⟩) (by show 1 < _; omega)).trans HE.2.2.2, fun i => by have := lS i; omega, fun i C cl e => by have := lC i C cl e; omega⟩⟩
  · rcases Nat.eq_zero_or_pos N with q | q
    · have := t3 q; omega
    · have := (hA q).2; omega
  · exact ((h.gots Q hSA hS hC i 0 undef 0).below B1).blk
end Go.Proofs.YbulkcrxoDoor.F
