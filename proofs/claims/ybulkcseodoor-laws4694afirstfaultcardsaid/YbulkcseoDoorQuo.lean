/-
  LawS4694AFirstFault: 'quorumCompleteness' by a contract.
-/
import Derived.Test.YbulkcseoDoorStr
set_option linter.unusedVariables false
namespace Go.Proofs.YbulkcseoDoor
open Go.RowKit

/-- The last of the first k quorums that is member p's. -/
def lastI (P : Nat → Nat) (p : Nat) : Nat → Option Nat
  | 0 => none
  | k + 1 => if P k = p then some k else lastI P p k
theorem lastI_lt {P : Nat → Nat} {p : Nat} : ∀ {k i : Nat}, lastI P p k = some i → i < k ∧ P i = p
  | 0, i, h => by cases h
  | k + 1, i, h => by
    unfold lastI at h
    split at h
    · injection h with h; subst h; exact ⟨by omega, by assumption⟩
    · have := lastI_lt h; exact ⟨by omega, this.2⟩

/-- The drawn quorums. -/
structure Qd where
  n : Nat
  q : Nat
  cor : Nat → Bool
  P : Nat → Nat
  L : Nat → Nat
  F : Nat → Nat → Nat

def Bad (d : Qd) (p : Nat) : Prop := d.cor p = true ∧ ∃ i, lastI d.P p d.q = some i ∧ ∃ j, j < d.L i ∧ d.cor (d.F i j) = false
/-- The answer. -/
def Res (d : Qd) (s : ByteArray) : Prop :=
  (s = ⟨#[]⟩ ∧ ∀ p, 1 ≤ p → p ≤ d.n → ¬ Bad d p) ∨ ∃ p i, 1 ≤ p ∧ p ≤ d.n ∧ Bad d p ∧ (∀ p', 1 ≤ p' → p' < p → ¬ Bad d p') ∧ lastI d.P p d.q = some i ∧ s = shB p (d.F i) (d.L i)

theorem Res.one {d : Qd} {s s' : ByteArray} (h : Res d s) (h' : Res d s') : s = s' := by
  rcases h with ⟨rfl, h⟩ | ⟨p, i, h1, h2, h3, h4, h5, rfl⟩ <;> rcases h' with ⟨rfl, h'⟩ | ⟨p', i', h1', h2', h3', h4', h5', rfl⟩
  · rfl
  · exact absurd h3' (h p' h1' h2')
  · exact absurd h3 (h' p h1 h2)
  · have hp : p = p' := by
      rcases Nat.lt_trichotomy p p' with g | g | g
      · exact absurd h3 (h4' p h1 g)
      · exact g
      · exact absurd h3' (h4 p' h1' g)
    subst hp
    rw [h5] at h5'
    injection h5' with h5'
    subst h5'
    rfl

/-- How they lie in memory. -/
structure Qm (d : Qd) (w : World) (CB QB : Nat) (MB : Nat → Nat) : Prop where
  cc : ∀ i, i ≤ d.n → w.cell? ⟨CB, i, none⟩ = some (.bool (d.cor i))
  qp : ∀ i, i < d.q → w.cell? ⟨QB, i * 2, none⟩ = some (.int .i64 (d.P i))
  qm : ∀ i, i < d.q → w.cell? ⟨QB, i * 2 + 1, none⟩ = some (.slice (some ⟨MB i, 0, none⟩) (d.L i) (d.L i))
  mm : ∀ i, i < d.q → ∀ j, j < d.L i → w.cell? ⟨MB i, j, none⟩ = some (.int .i64 (d.F i j))
  sC : CB < w.heap.size
  sQ : QB < w.heap.size
  sM : ∀ i, i < d.q → MB i < w.heap.size
theorem Qm.below {d : Qd} {w w' : World} {CB QB : Nat} {MB : Nat → Nat} (h : Qm d w CB QB MB) (k : Below w.heap.size w w') : Qm d w' CB QB MB :=
  ⟨fun i hi => (k.cell h.sC).trans (h.cc i hi), fun i hi => (k.cell h.sQ).trans (h.qp i hi), fun i hi => (k.cell h.sQ).trans (h.qm i hi), fun i hi j hj => (k.cell (h.sM i hi)).trans (h.mm i hi j hj),
    Nat.lt_of_lt_of_le h.sC k.size, Nat.lt_of_lt_of_le h.sQ k.size, fun i hi => Nat.lt_of_lt_of_le (h.sM i hi) k.size⟩
structure Qb (d : Qd) : Prop where
  hn : d.n < 16
  hq : d.q ≤ 1024
  pb : ∀ i, d.P i ≤ d.n
  fb : ∀ i j, d.F i j ≤ d.n
  lb : ∀ i, i < d.q → d.L i ≤ 4096

def lv (QB : Nat) (o : Option Nat) : Value := .pointer (o.map fun i => ⟨QB, i * 2, none⟩)

theorem make48 (n : Nat) (hn : n ≤ 1024) : ∀ w : World, (Instr.makeSlice 48 (.int .i64 ((n : Int) + 1)) (.int .i64 ((n : Int) + 1))).run Ybad.prog w = .ok (.slice (some ⟨w.heap.size, 0, none⟩) (n + 1) (n + 1)) (w.alloc (.cells (madeCells #[.pointer none] (n + 1)) 49)) := by
  intro w
  obtain ⟨i, h1, h2, h3, h4⟩ := info_of (t := 49) (z := .pointer none) (s := 1) (b := 8) (by kernel_rfl)
  have := run_make (P := Ybad.prog) w 48 49 i _ Ybad.underlying48 h1 h2 .i64 .i64 ((n + 1 : Nat) : Int) ((n + 1 : Nat) : Int) (by omega) (by omega) (by rw [h4]; omega) (by omega)
  simpa [h3, Value.cells] using this

theorem made_at (z : Value) (n j : Nat) (h : j < n) : (madeCells #[z] n)[j]? = some z := by
  rw [← Array.getElem?_toList, toList_madeCells_one, List.getElem?_replicate, if_pos h]

/-- The table of the last quorums when k of them are in. -/
structure Lw (d : Qd) (w wr : World) (QB k : Nat) : Prop where
  bel : Below w.heap.size w wr
  lc : ∀ p, p ≤ d.n → wr.cell? ⟨w.heap.size, p, none⟩ = some (lv QB (lastI d.P p k))
  lf : ∀ p, wr.frozen? ⟨w.heap.size, p, none⟩ = false
  sL : w.heap.size < wr.heap.size
theorem Lw.drew {d : Qd} {w wr : World} {QB k : Nat} (h : Lw d w wr QB k) : Lw d w wr.drew QB k := ⟨h.bel.drew, h.lc, h.lf, h.sL⟩
theorem Lw.drewN {d : Qd} {w wr : World} {QB k : Nat} (h : Lw d w wr QB k) (m : Nat) : Lw d w (wr.drewN m) QB k := ⟨h.bel.trans ⟨rfl, rfl, rfl, Nat.le_refl _, fun _ _ => rfl⟩, h.lc, h.lf, h.sL⟩
theorem Lw.next {d : Qd} {w wr : World} {QB k : Nat} (h : Lw d w wr QB k) (hp : d.P k ≤ d.n) : Lw d w (wr.setCell ⟨w.heap.size, d.P k, none⟩ (.pointer (some ⟨QB, k * 2, none⟩))) QB (k + 1) := by
  refine ⟨h.bel.setCell (Nat.le_refl _) _, fun p hpn => ?_, fun p => by simpa using h.lf p, by simpa using h.sL⟩
  by_cases e : d.P k = p
  · subst e
    rw [World.cell?_setCell_same _ _ _ (h.lc _ hpn)]
    unfold lastI
    rw [if_pos rfl]
    rfl
  · rw [World.cell?_setCell_other _ _ _ _ (by intro h; injection h; omega), h.lc p hpn]
    unfold lastI
    rw [if_neg e]
    cases k <;> rfl

set_option maxHeartbeats 4000000 in
set_option maxRecDepth 20000 in
theorem quorum (d : Qd) (hb : Qb d) (RB CB QB : Nat) (MB : Nat → Nat) (w : World) (hm : Qm d w CB QB MB) (r0 : w.cell? ⟨RB, 0, none⟩ = some (.int .i64 d.n)) (r1 : w.cell? ⟨RB, 1, none⟩ = some (.slice (some ⟨CB, 0, none⟩) (d.n + 1) (d.n + 1))) (r13 : w.cell? ⟨RB, 13, none⟩ = some (.slice (some ⟨QB, 0, none⟩) d.q d.q)) :
    Calls Ybad.prog 4 #[.pointer (some ⟨RB, 0, none⟩)] w fun e w' => ∃ s, e = .returned (.string s) ∧ Res d s ∧ Below w.heap.size w w' := by
  have HM : Hid (Qm d w CB QB MB) := hm
  have HB : Hid (Qb d) := hb
  have hn := hb.hn
  have hq := hb.hq
  clear hm hb
  have sR : RB < w.heap.size := World.block_lt_of_cell? _ _ r0
  have m1 := make48 d.n (by omega)
  go_enter Ybad.func4, Ybad.ntmps4
  go_wp2_with fail
  have L0 : Hid (Lw d w (w.alloc (Obj.cells (madeCells #[.pointer none] (d.n + 1)) 49)) QB 0) := ⟨(Below.refl _ _).alloc (Nat.le_refl _) _, fun p hp => by rw [World.cell?_alloc_new, made_at _ _ _ (by omega)]; rfl, fun p => World.frozen?_alloc_new _ _ _ _, by simp⟩
  generalize w.alloc (Obj.cells (madeCells #[.pointer none] (d.n + 1)) 49) = w3 at L0 ⊢
  clear m1
  go_loopw [19] (fun i wr => ∃ k : Nat, k ≤ d.q ∧ i = .int .i64 k ∧ Hid (Lw d w wr QB k)) (fun i _ => d.q - (intOf i).toNat)
  case atStart => exact ⟨0, Nat.zero_le _, rfl, L0⟩
  case round =>
    obtain ⟨k, hk, rfl, HL⟩ := hrel
    clear L0
    have y0 := (HL.out.bel.cell (p := ⟨RB, 0, none⟩) sR).trans r0
    have y1 := (HL.out.bel.cell (p := ⟨RB, 1, none⟩) sR).trans r1
    have y13 := (HL.out.bel.cell (p := ⟨RB, 13, none⟩) sR).trans r13
    by_cases hlt : k < d.q
    · have g0 := (HL.out.bel.cell (p := ⟨QB, k * 2, none⟩) HM.out.sQ).trans (HM.out.qp k hlt)
      have hp := HB.out.pb k
      have gl := HL.out.lc (d.P k) hp
      have fl := HL.out.lf (d.P k)
      go_wp2_with fail
      go_region
      all_goals (
        go_wp2
        go_roundw
        case rel => exact ⟨k + 1, hlt, rfl, (HL.out.next hp).drew⟩
        case measure => simp [intOf]; omega)
    · obtain rfl : k = d.q := by omega
      go_wp2_with fail
      clear hlt hk y0 y1 y13
      go_loopw [5] (fun i wr => ∃ p : Nat, 1 ≤ p ∧ p ≤ d.n + 1 ∧ i = .int .i64 p ∧ Hid (Lw d w wr QB d.q) ∧ Hid (∀ p', 1 ≤ p' → p' < p → ¬ Bad d p')) (fun i _ => d.n + 1 - (intOf i).toNat)
      case atStart => exact ⟨1, by omega, by omega, rfl, HL, fun p' h1 h2 => by omega⟩
      case round =>
        obtain ⟨p, hp1, hp2, rfl, HL2, NB⟩ := hrel
        clear HL
        have y0 := (HL2.out.bel.cell (p := ⟨RB, 0, none⟩) sR).trans r0
        have y1 := (HL2.out.bel.cell (p := ⟨RB, 1, none⟩) sR).trans r1
        have y13 := (HL2.out.bel.cell (p := ⟨RB, 13, none⟩) sR).trans r13
        have nxt : ∀ h : ¬ Bad d p, Hid (∀ p', 1 ≤ p' → p' < p + 1 → ¬ Bad d p') := fun h p' h1 h2 => by
          rcases Nat.lt_or_eq_of_le (Nat.le_of_lt_succ h2) with g | rfl
          · exact NB.out p' h1 g
          · exact h
        by_cases hlt : p ≤ d.n
        · have hlt' : (p : Int) ≤ d.n := by omega
          have gc := (HL2.out.bel.cell (p := ⟨CB, p, none⟩) HM.out.sC).trans (HM.out.cc p hlt)
          have gl := HL2.out.lc p hlt
          cases hcor : d.cor p
          · rw [hcor] at gc
            have N2 := nxt (fun h => by rw [h.1] at hcor; cases hcor)
            clear nxt
            go_wp2
            exact ⟨⟨p + 1, by omega, by omega, rfl, HL2, N2⟩, by simp [intOf]; omega⟩
          · rw [hcor] at gc
            cases hla : lastI d.P p d.q with
            | none =>
              rw [hla] at gl
              have gl' : wr.cell? ⟨w.heap.size, p, none⟩ = some (.pointer none) := gl
              have N2 := nxt (fun h => by obtain ⟨_, i, hi, _⟩ := h; rw [hla] at hi; cases hi)
              clear nxt gl
              go_wp2
              exact ⟨⟨p + 1, by omega, by omega, rfl, HL2, N2⟩, by simp [intOf]; omega⟩
            | some i =>
              rw [hla] at gl
              have gl' : wr.cell? ⟨w.heap.size, p, none⟩ = some (.pointer (some ⟨QB, i * 2, none⟩)) := gl
              obtain ⟨hiq, hpi⟩ := lastI_lt hla
              have gp := (HL2.out.bel.cell (p := ⟨QB, i * 2, none⟩) HM.out.sQ).trans (HM.out.qp i hiq)
              rw [hpi] at gp
              have gm := (HL2.out.bel.cell (p := ⟨QB, i * 2 + 1, none⟩) HM.out.sQ).trans (HM.out.qm i hiq)
              have hLi := HB.out.lb i hiq
              have HI : Hid (lastI d.P p d.q = some i ∧ d.P i = p) := ⟨hla, hpi⟩
              have HC : Hid (d.cor p = true) := hcor
              clear gl hla hpi hcor
              go_wp2_with fail
              go_loopw [70] (fun v wr' => ∃ j : Nat, j ≤ d.L i ∧ v = .int .i64 j ∧ wr' = wr ∧ Hid (∀ j', j' < j → d.cor (d.F i j') = true)) (fun v _ => d.L i - (intOf v).toNat)
              case atStart => exact ⟨0, Nat.zero_le _, rfl, rfl, fun j' h => by omega⟩
              case round =>
                obtain ⟨j, hj, rfl, rfl, HA⟩ := hrel
                by_cases hj2 : j < d.L i
                · have gf := (HL2.out.bel.cell (p := ⟨MB i, j, none⟩) (HM.out.sM i hiq)).trans (HM.out.mm i hiq j hj2)
                  have hfb := HB.out.fb i j
                  have gcf := (HL2.out.bel.cell (p := ⟨CB, d.F i j, none⟩) HM.out.sC).trans (HM.out.cc (d.F i j) hfb)
                  cases hcf : d.cor (d.F i j)
                  · rw [hcf] at gcf
                    have HCF : Hid (d.cor (d.F i j) = false) := hcf
                    clear hcf nxt
                    go_wp2_with (refine (stringOf p (by omega) (some ⟨MB i, 0, none⟩) (d.L i) (d.L i) (d.F i) _ hLi (fun j => by have := HB.out.fb i j; omega) (fun j' hj' => ⟨MB i, rfl, (HL2.out.bel.cell (p := ⟨MB i, j', none⟩) (HM.out.sM i hiq)).trans (HM.out.mm i hiq j' hj'), Nat.lt_of_lt_of_le (HM.out.sM i hiq) HL2.out.bel.size⟩)).mono ?_; rintro e w9 ⟨rfl, hb9⟩)
                    go_ret
                    refine ⟨_, rfl, .inr ⟨p, i, hp1, hlt, ⟨HC.out, i, HI.out.1, j, hj2, HCF.out⟩, NB.out, HI.out.1, rfl⟩, HL2.out.bel.trans (by rename_i hb9; exact hb9.mono HL2.out.bel.size)⟩
                  · rw [hcf] at gcf
                    have HCF : Hid (d.cor (d.F i j) = true) := hcf
                    clear hcf nxt
                    go_wp2
                    exact ⟨⟨j + 1, hj2, rfl, trivial, fun j' h => by
                      rcases Nat.lt_or_eq_of_le (Nat.le_of_lt_succ h) with g | rfl
                      · exact HA.out j' g
                      · exact HCF.out⟩, by simp [intOf]; omega⟩
                · obtain rfl : j = d.L i := by omega
                  have N2 := nxt (fun h => by
                    obtain ⟨_, i', hi', j', hj', hc'⟩ := h
                    rw [HI.out.1] at hi'
                    injection hi' with hi'
                    subst hi'
                    rw [HA.out j' hj'] at hc'
                    cases hc')
                  clear nxt
                  go_wp2
                  exact ⟨⟨p + 1, by omega, by omega, rfl, HL2, N2⟩, by simp [intOf]; omega⟩
        · have hlt' : ¬ (p : Int) ≤ d.n := by omega
          clear nxt
          go_wp2
          go_ret
          exact ⟨_, rfl, .inl ⟨rfl, fun p' h1 h2 => NB.out p' h1 (by omega)⟩, HL2.out.bel⟩
end Go.Proofs.YbulkcseoDoor
