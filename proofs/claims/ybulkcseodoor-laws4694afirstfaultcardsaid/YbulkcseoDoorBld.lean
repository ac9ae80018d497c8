/-
  LawS4694AFirstFault: the words for the memory while the quorums are laid.
-/
import Derived.Test.YbulkcseoDoorQuo
import Derived.Deep.RegionHeld
set_option linter.unusedVariables false
namespace Go.Proofs.YbulkcseoDoor
open Go.RowKit

/-- i quorums are laid. -/
structure Bld (d : Qd) (w wr : World) (CB QB : Nat) (MB : Nat → Nat) (i : Nat) : Prop where
  bel : Below w.heap.size w wr
  cc : ∀ s, s ≤ d.n → wr.cell? ⟨CB, s, none⟩ = some (.bool (d.cor s))
  th : ∀ j, j < d.q * 2 → (wr.cell? ⟨QB, j, none⟩).isSome = true ∧ wr.frozen? ⟨QB, j, none⟩ = false
  qp : ∀ j, j < i → wr.cell? ⟨QB, j * 2, none⟩ = some (.int .i64 (d.P j))
  qm : ∀ j, j < i → wr.cell? ⟨QB, j * 2 + 1, none⟩ = some (.slice (some ⟨MB j, 0, none⟩) (d.L j) (d.L j))
  mm : ∀ j, j < i → ∀ t, t < d.L j → wr.cell? ⟨MB j, t, none⟩ = some (.int .i64 (d.F j t))
  sC : CB < wr.heap.size
  sQ : QB < wr.heap.size
  sM : ∀ j, j < i → MB j < wr.heap.size
  nM : ∀ j, j < i → MB j ≠ QB
  CQ : CB ≠ QB
  lQ : w.heap.size ≤ QB

theorem Bld.more {d : Qd} {w wr wr' : World} {CB QB : Nat} {MB : Nat → Nat} {i : Nat} (h : Bld d w wr CB QB MB i) (k : Below wr.heap.size wr wr') : Bld d w wr' CB QB MB i :=
  ⟨h.bel.trans (k.mono h.bel.size), fun s hs => (k.cell h.sC).trans (h.cc s hs), fun j hj => by rw [k.cell (p := ⟨QB, j, none⟩) h.sQ, k.frozen (p := ⟨QB, j, none⟩) h.sQ]; exact h.th j hj,
    fun j hj => (k.cell h.sQ).trans (h.qp j hj), fun j hj => (k.cell h.sQ).trans (h.qm j hj), fun j hj t ht => (k.cell (h.sM j hj)).trans (h.mm j hj t ht),
    Nat.lt_of_lt_of_le h.sC k.size, Nat.lt_of_lt_of_le h.sQ k.size, fun j hj => Nat.lt_of_lt_of_le (h.sM j hj) k.size, h.nM, h.CQ, h.lQ⟩

/-- A write to a block of one's own. -/
theorem Bld.far {d : Qd} {w wr : World} {CB QB : Nat} {MB : Nat → Nat} {i : Nat} (h : Bld d w wr CB QB MB i) (p : Addr) (v : Value) (h0 : w.heap.size ≤ p.block) (h1 : p.block ≠ CB) (h2 : p.block ≠ QB) (h3 : ∀ j, j < i → p.block ≠ MB j) : Bld d w (wr.setCell p v) CB QB MB i :=
  ⟨h.bel.setCell h0 _, fun s hs => (World.cell?_setCell_far _ _ _ _ h1).trans (h.cc s hs), fun j hj => by
      rw [World.cell?_setCell_far _ _ _ _ h2]; refine ⟨(h.th j hj).1, by simpa using (h.th j hj).2⟩,
    fun j hj => (World.cell?_setCell_far _ _ _ _ h2).trans (h.qp j hj), fun j hj => (World.cell?_setCell_far _ _ _ _ h2).trans (h.qm j hj), fun j hj t ht => (World.cell?_setCell_far _ _ _ _ (h3 j hj)).trans (h.mm j hj t ht),
    by simpa using h.sC, by simpa using h.sQ, fun j hj => by simpa using h.sM j hj, h.nM, h.CQ, h.lQ⟩

/-- The next quorum is stored. -/
theorem Bld.add {d : Qd} {w wr : World} {CB QB B : Nat} {MB : Nat → Nat} {i : Nat} (h : Bld d w wr CB QB MB i) (hi : i < d.q) (hB : B < wr.heap.size) (hBQ : B ≠ QB)
    (hm : ∀ t, t < d.L i → wr.cell? ⟨B, t, none⟩ = some (.int .i64 (d.F i t))) :
    Bld d w ((wr.setCell ⟨QB, i * 2, none⟩ (.int .i64 (d.P i))).setCell ⟨QB, i * 2 + 1, none⟩ (.slice (some ⟨B, 0, none⟩) (d.L i) (d.L i))) CB QB (fun j => if j = i then B else MB j) (i + 1) := by
  have t0 := (h.th (i * 2) (by omega)).1
  have t1 := (h.th (i * 2 + 1) (by omega)).1
  have t1' : ((wr.setCell ⟨QB, i * 2, none⟩ (.int .i64 (d.P i))).cell? ⟨QB, i * 2 + 1, none⟩).isSome = true := by
    rw [World.cell?_setCell_other _ _ _ _ (by intro h; injection h; omega)]; exact t1
  have far : ∀ b t, b ≠ QB → ((wr.setCell ⟨QB, i * 2, none⟩ (.int .i64 (d.P i))).setCell ⟨QB, i * 2 + 1, none⟩ (.slice (some ⟨B, 0, none⟩) (d.L i) (d.L i))).cell? ⟨b, t, none⟩ = wr.cell? ⟨b, t, none⟩ := fun b t hb =>
    (World.cell?_setCell_far _ _ _ _ (Ne.symm hb)).trans (World.cell?_setCell_far _ _ _ _ (Ne.symm hb))
  refine ⟨(h.bel.setCell h.lQ _).setCell h.lQ _, fun s hs => (far CB s h.CQ).trans (h.cc s hs), fun j hj => ?_, fun j hj => ?_, fun j hj => ?_, fun j hj t ht => ?_, by simpa using h.sC, by simpa using h.sQ, fun j hj => ?_, fun j hj => ?_, h.CQ, h.lQ⟩
  · refine ⟨?_, by simpa using (h.th j hj).2⟩
    by_cases e1 : j = i * 2 + 1
    · subst e1; rw [World.cell?_setCell_same' _ _ _ t1']; rfl
    · rw [World.cell?_setCell_other _ _ _ _ (by intro h; injection h; omega)]
      by_cases e0 : j = i * 2
      · subst e0; rw [World.cell?_setCell_same' _ _ _ t0]; rfl
      · rw [World.cell?_setCell_other _ _ _ _ (by intro h; injection h; omega)]; exact (h.th j hj).1
  · rw [World.cell?_setCell_other _ _ _ _ (by intro h; injection h; omega)]
    by_cases e : j = i
    · subst e; exact World.cell?_setCell_same' _ _ _ t0
    · rw [World.cell?_setCell_other _ _ _ _ (by intro h; injection h; omega)]; exact h.qp j (by omega)
  · by_cases e : j = i
    · subst e; simp only [if_true]; exact World.cell?_setCell_same' _ _ _ t1'
    · rw [World.cell?_setCell_other _ _ _ _ (by intro h; injection h; omega), World.cell?_setCell_other _ _ _ _ (by intro h; injection h; omega), if_neg e]; exact h.qm j (by omega)
  · by_cases e : j = i
    · subst e; simp only [if_true]; rw [far B t hBQ]; exact hm t ht
    · simp only [if_neg e]; rw [far _ t (h.nM j (by omega))]; exact h.mm j (by omega) t ht
  · by_cases e : j = i
    · simp only [if_pos e]; simpa using hB
    · simp only [if_neg e]; simpa using h.sM j (by omega)
  · by_cases e : j = i
    · simp only [if_pos e]; exact hBQ
    · simp only [if_neg e]; exact h.nM j (by omega)

theorem Bld.done {d : Qd} {w wr : World} {CB QB : Nat} {MB : Nat → Nat} (h : Bld d w wr CB QB MB d.q) : Qm d wr CB QB MB := ⟨h.cc, h.qp, h.qm, h.mm, h.sC, h.sQ, h.sM⟩
end Go.Proofs.YbulkcseoDoor
