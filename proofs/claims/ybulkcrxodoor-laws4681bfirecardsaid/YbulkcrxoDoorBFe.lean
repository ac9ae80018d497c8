/-
  LawS4681BFire: what stands behind 'fire'; the law's own counts.
-/
import Derived.Test.YbulkcrxoDoorBSt
set_option linter.unusedVariables false
namespace Go.Proofs.YbulkcrxoDoor.F
open Go.RowKit Go.Any
open Go.ChangeMaps (setBlock)

/-- All watches are of the law's 32. -/
def W32 (A : Nat → Wt) (N : Nat) : Prop := ∀ x, Has A N x → ∃ p k, p < 4 ∧ k < 2 ∧ x.1 = (pb p, k)
theorem W32.start : W32 A0 0 := fun x ⟨i, hi, _⟩ => absurd hi (Nat.not_lt_zero _)
theorem W32.add {A : Nat → Wt} {N p k : Nat} {s : Fin 4} (h : W32 A N) (hp : p < 4) (hk : k < 2) : W32 (addW A N ((pb p, k), s)) (N + 1) := fun x hx => by
  rcases (addW_has x).1 hx with q | rfl
  · exact h x q
  · exact ⟨p, k, hp, hk, rfl⟩

/-- The law's own three bits. -/
def tD (ev : Nat) : Bool := decide (ev = 1) || (decide (ev = 2) || decide (ev = 3))
def tH (ev : Nat) : Bool := decide (ev = 2)
def tP (ev : Nat) : Bool := decide (ev = 1) || decide (ev = 2)

/-- What stands behind 'fire'. -/
structure Fe (w w9 : World) (T V SA CA HBk AB : Nat) (SB : Fin 4 → Nat) (CB : Fin 4 → Option (Nat × Bool)) (IK : Key → Nat) (JS : Fin 4 → Nat) (ρ : Nat → Role) (A : Nat → Wt) (N ev fp : Nat) (A' : Nat → Wt) (N' : Nat) (D1 D2 : Fin 4 → Bool) (F1 F2 : Nat) (RB : Fin 4 → Option Nat) : Prop where
  st : St T V V (T + 2) T (T + 1) AB (V + 1) SB CB IK JS ρ w9 A' N' ((cnt fun i => D1 i && isOpen (CB i)) + cnt fun i => D2 i && isOpen (CB i)) (addF (addF (fun _ => []) D1 (frv F1 (pb fp))) D2 (frv F2 (pb (pr fp)))) (addQ (addQ (fun _ => 0) D1 (32 + (pb fp).size : Nat)) D2 (32 + (pb (pr fp)).size : Nat)) RB
  has : ∀ x, Has A' N' x ↔ Has A N x ∧ ¬ T1 ev fp x ∧ ¬ T2 ev fp x
  d1 : ∀ s, D1 s = true ↔ ∃ x, Has A N x ∧ x.2 = s ∧ T1 ev fp x
  d2 : ∀ s, D2 s = true ↔ ∃ x, Has A N x ∧ x.2 = s ∧ T2 ev fp x
  f1 : (∃ s, D1 s = true) → Buf w9 F1 64 (frm ev (pb fp))
  f2 : (∃ s, D2 s = true) → Buf w9 F2 64 (frm 4 (pb (pr fp)))
  sa : ∀ j : Fin 4, w9.cell? ⟨SA, j.val, none⟩ = some (.pointer (some ⟨SB j, 0, none⟩))
  ca : ∀ j : Fin 4, w9.cell? ⟨CA, j.val, none⟩ = some (.pointer ((CB j).map fun x => ⟨x.1, 0, none⟩))
  hs : Hs w9 HBk fun s p k => hasB A N ((pb p, k), s)
  w32 : W32 A N
  bel : Below w.heap.size w w9

theorem Fe.of {w wt wS wr w9 : World} {T V SA CA HBk AB : Nat} {al : Value} {SB : Fin 4 → Nat} {CB : Fin 4 → Option (Nat × Bool)} {IK : Key → Nat} {JS : Fin 4 → Nat} {ρ : Nat → Role} {A : Nat → Wt} {N ev fp : Nat} {A' : Nat → Wt} {N' : Nat} {D1 D2 : Fin 4 → Bool} {F1 F2 : Nat} {RB : Fin 4 → Option Nat}
    (hT : T = w.heap.size) (hSA : SA = T + 3) (Q : P1 wt wS SA SA CA 4 SB CB) (h : Bb wS wr T HBk al SB IK JS ρ A N) (hw : Below w.heap.size w wS) (q2 : SA < HBk ∧ CA < HBk) (q3 : ∀ j, SB j ≠ HBk) (q4 : ∀ j C cl, CB j = some (C, cl) → C ≠ HBk) (hV : V = wr.heap.size) (hA : (0 < N → wS.heap.size ≤ AB) ∧ (N = 0 → AB = 0)) (h32 : W32 A N)
    (hF : Fd T V V (T + 2) T (T + 1) AB (V + 1) SB CB IK JS ρ (wr.alloc (.cells (srvC (T + 2)) 93)) w9 A N ev fp A' N' D1 D2 F1 F2 RB) : Fe w w9 T V SA CA HBk AB SB CB IK JS ρ A N ev fp A' N' D1 D2 F1 F2 RB := by
  have lt := h.lt
  have hsz := h.bel.size
  have lS := Q.lS
  have lC := Q.lC
  have hC := Q.hC
  have nA : ∀ j, T + 3 ≤ j → j < wS.heap.size → j ≠ AB := fun j h1 h2 e => by
    rcases Nat.eq_zero_or_pos N with q | q
    · have := hA.2 q; omega
    · have := hA.1 q; omega
  have B1 : Below wr.heap.size wr (wr.alloc (.cells (srvC (T + 2)) 93)) := (Below.refl _ _).alloc (Nat.le_refl _) _
  have key : ∀ j c t, T + 3 ≤ j → j < wS.heap.size → (∀ i, j ≠ SB i) → (∀ i cl, CB i ≠ some (j, cl)) → wr.heap[j]? = some (.cells c t (0, 0)) → w9.heap[j]? = some (.cells c t (0, 0)) := fun j c t h1 h2 h3 h4 e =>
    hF.al j c t _ (by omega) (nA j h1 h2) (by omega) h3 h4 (fun i q => (by cases q)) ((B1.block j (by omega)).trans e)
  have eS : w9.heap[SA]? = wS.heap[SA]? := by
    obtain ⟨c, t, e⟩ := Q.bs
    rw [key SA c t (by omega) lS (fun i => Ne.symm (Q.ls i i.isLt).2.2.1) (fun i cl q => (Q.lc i SA cl i.isLt q).2.2.1 rfl) (h.old SA c t _ lS (by omega) (by omega) e), e]
  have eC : w9.heap[CA]? = wS.heap[CA]? := by
    obtain ⟨c, t, e⟩ := Q.bc
    rw [key CA c t (by omega) lC (fun i => Ne.symm (Q.ls i i.isLt).2.2.2) (fun i cl q => (Q.lc i CA cl i.isLt q).2.2.2 rfl) (h.old CA c t _ lC (by omega) (by omega) e), e]
  have eH : w9.heap[HBk]? = wr.heap[HBk]? := by
    obtain ⟨c, t, e⟩ := h.bh
    rw [key HBk c t (by omega) lt.1 (fun i => Ne.symm (q3 i)) (fun i cl q => q4 i _ _ q rfl) e, e]
  have bF : Below T (wr.alloc (.cells (srvC (T + 2)) 93)) w9 := ⟨hF.fr.os, hF.fr.tape, hF.fr.output, hF.fr.size, fun j hj => hF.fr.block j (by have := B1.size; omega) (by
    rintro (q | ⟨i, q⟩ | ⟨i, cl, q⟩)
    · omega
    · have := (Q.ls i i.isLt).1; omega
    · have := (Q.lc i _ _ i.isLt q).1; omega)⟩
  exact ⟨hF.st, hF.has, hF.d1, hF.d2, hF.f1, hF.f2, fun j => (cellB eS _).trans (Q.sa j j.isLt), fun j => (cellB eC _).trans (Q.ca j j.isLt), h.hs.block eH, h32, hw.trans (by rw [← hT]; exact h.bel.trans ((B1.mono (by omega)).trans bF))⟩

section
variable {w w9 : World} {T V SA CA HBk AB : Nat} {SB : Fin 4 → Nat} {CB : Fin 4 → Option (Nat × Bool)} {IK : Key → Nat} {JS : Fin 4 → Nat} {ρ : Nat → Role} {A : Nat → Wt} {N ev fp : Nat} {A' : Nat → Wt} {N' : Nat} {D1 D2 : Fin 4 → Bool} {F1 F2 : Nat} {RB : Fin 4 → Option Nat}
theorem Fe.below {w' : World} (h : Fe w w9 T V SA CA HBk AB SB CB IK JS ρ A N ev fp A' N' D1 D2 F1 F2 RB) (k : Below w9.heap.size w9 w') : Fe w w' T V SA CA HBk AB SB CB IK JS ρ A N ev fp A' N' D1 D2 F1 F2 RB := by
  have lS : SA < w9.heap.size := World.block_lt_of_cell? _ _ (h.sa 0)
  have lC : CA < w9.heap.size := World.block_lt_of_cell? _ _ (h.ca 0)
  have lH : HBk < w9.heap.size := World.block_lt_of_cell? _ _ (h.hs 0 0 0 (by omega) (by omega))
  have lB : ∀ {B : Nat} {bs : List UInt8}, Buf w9 B 64 bs → B < w9.heap.size := fun hb => World.block_lt_of_cell? _ _ (Option.isSome_iff_exists.1 (hb.th 0 (by omega)).1).choose_spec
  exact ⟨h.st.below k, h.has, h.d1, h.d2, fun q => (h.f1 q).below k (lB (h.f1 q)), fun q => (h.f2 q).below k (lB (h.f2 q)), fun j => (k.cell (p := ⟨SA, j.val, none⟩) lS).trans (h.sa j), fun j => (k.cell (p := ⟨CA, j.val, none⟩) lC).trans (h.ca j), h.hs.block (k.block HBk lH), h.w32, h.bel.trans (k.mono h.bel.size)⟩

/-- Who gets the first frame, by the law's own memory. -/
theorem Fe.g1 (h : Fe w w9 T V SA CA HBk AB SB CB IK JS ρ A N ev fp A' N' D1 D2 F1 F2 RB) (s : Fin 4) : ((hasB A N ((pb fp, 0), s) && tD ev) || (hasB A N ((pb fp, 1), s) && tH ev)) = D1 s := by
  rw [Bool.eq_iff_iff, h.d1 s, Bool.or_eq_true, Bool.and_eq_true, Bool.and_eq_true, hasB_true, hasB_true]
  simp only [tD, tH, Bool.or_eq_true, decide_eq_true_eq]
  constructor
  · rintro (⟨q1, q2⟩ | ⟨q1, q2⟩)
    · exact ⟨_, q1, rfl, rfl, .inl ⟨q2, rfl⟩⟩
    · exact ⟨_, q1, rfl, rfl, .inr ⟨q2, rfl⟩⟩
  · rintro ⟨⟨⟨p, k⟩, s'⟩, q1, rfl, rfl, ⟨q2, rfl⟩ | ⟨q2, rfl⟩⟩
    · exact .inl ⟨q1, q2⟩
    · exact .inr ⟨q1, q2⟩
theorem Fe.g2 (h : Fe w w9 T V SA CA HBk AB SB CB IK JS ρ A N ev fp A' N' D1 D2 F1 F2 RB) (s : Fin 4) : (hasB A N ((pb (pr fp), 1), s) && tP ev) = D2 s := by
  rw [Bool.eq_iff_iff, h.d2 s, Bool.and_eq_true, hasB_true]
  simp only [tP, Bool.or_eq_true, decide_eq_true_eq]
  constructor
  · rintro ⟨q1, q2⟩
    exact ⟨_, q1, rfl, rfl, q2, rfl⟩
  · rintro ⟨⟨⟨p, k⟩, s'⟩, q1, rfl, rfl, q2, rfl⟩
    exact ⟨q1, q2⟩

/-- Which watches the law holds for taken. -/
def tkn (ev fp p k : Nat) : Bool := (decide (p = fp) && ((decide (k = 0) && tD ev) || (decide (k = 1) && tH ev))) || (decide (p = pr fp) && (decide (k = 1) && tP ev))
theorem Fe.want (h : Fe w w9 T V SA CA HBk AB SB CB IK JS ρ A N ev fp A' N' D1 D2 F1 F2 RB) (hf : fp < 4) (s : Fin 4) (p k : Nat) (hp : p < 4) : (hasB A N ((pb p, k), s) && !tkn ev fp p k) = hasB A' N' ((pb p, k), s) := by
  have hr : pr fp < 4 := by unfold pr; split <;> omega
  have i1 : pb p = pb fp ↔ p = fp := ⟨fun e => pb_inj hp hf e, fun e => by rw [e]⟩
  have i2 : pb p = pb (pr fp) ↔ p = pr fp := ⟨fun e => pb_inj hp hr e, fun e => by rw [e]⟩
  rw [Bool.eq_iff_iff, hasB_true, h.has, Bool.and_eq_true, hasB_true, Bool.not_eq_true', ← Bool.not_eq_true]
  simp only [tkn, tD, tH, tP, T1, T2, i1, i2, Bool.or_eq_true, Bool.and_eq_true, decide_eq_true_eq]
  constructor
  · rintro ⟨q1, q2⟩
    exact ⟨q1, by omega, by omega⟩
  · rintro ⟨q1, q2, q3⟩
    exact ⟨q1, by omega⟩

/-- The 32 watches in the law's own order. -/
def x32 (m : Nat) : Wt := ((pb (m / 2 % 4), m % 2), ⟨m / 8 % 4, Nat.mod_lt _ (by omega)⟩)
theorem x32_at (s : Fin 4) (p k : Nat) (hp : p < 4) (hk : k < 2) : x32 (s.val * 8 + p * 2 + k) = ((pb p, k), s) := by
  have := s.isLt
  have e1 : (s.val * 8 + p * 2 + k) / 2 % 4 = p := by omega
  have e2 : (s.val * 8 + p * 2 + k) % 2 = k := by omega
  have e3 : (⟨(s.val * 8 + p * 2 + k) / 8 % 4, Nat.mod_lt _ (by omega)⟩ : Fin 4) = s := Fin.ext (by show _ % 4 = _; omega)
  unfold x32
  rw [e1, e2, e3]
theorem x32_inj : Inj x32 32 := fun i j hi hj e => by
  injection e with e1 e2
  injection e1 with e1 e3
  injection e2 with e2
  have := pb_inj (Nat.mod_lt _ (by omega)) (Nat.mod_lt _ (by omega)) e1
  omega
theorem Fe.count (h : Fe w w9 T V SA CA HBk AB SB CB IK JS ρ A N ev fp A' N' D1 D2 F1 F2 RB) : N' = rc (hasB A' N') x32 32 := by
  refine left_all x32_inj h.st.t.inj fun x => ⟨fun hx => ⟨?_, hasB_true.2 hx⟩, fun hx => hasB_true.1 hx.2⟩
  obtain ⟨p, k, hp, hk, e⟩ := h.w32 x ((h.has x).1 hx).1
  have := x.2.isLt
  exact ⟨x.2.val * 8 + p * 2 + k, by omega, by rw [x32_at _ _ _ hp hk, ← e]⟩
theorem rc_step (q : Wt → Bool) (s : Fin 4) (p k : Nat) (hp : p < 4) (hk : k < 2) (b : Bool) (hb : q ((pb p, k), s) = b) : rc q x32 (s.val * 8 + p * 2 + k + 1) = rc q x32 (s.val * 8 + p * 2 + k) + (if b then 1 else 0) := by
  rw [← x32_at s p k hp hk] at hb
  cases b with
  | true => rw [rc_take hb]; rfl
  | false => rw [rc_skip hb]; rfl
end
end Go.Proofs.YbulkcrxoDoor.F
