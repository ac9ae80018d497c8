/-
  LawS4681BFire: what each session shows behind 'fire'.
-/
import Derived.Test.YbulkcrxoDoorBCut
set_option linter.unusedVariables false
namespace Go.Proofs.YbulkcrxoDoor.F
open Go.RowKit Go.Any

/-- How many frames a session got; whose bytes the j-th is; how long it is; how long the first j are. -/
def nn (d1 d2 : Bool) : Nat := (if d1 = true then 1 else 0) + if d2 = true then 1 else 0
def pk (d1 : Bool) (a b : Nat) (j : Nat) : Nat := if d1 = true ∧ j = 0 then a else b
def sm (f : Nat → Nat) : Nat → Nat
  | 0 => 0
  | j + 1 => sm f j + f j
theorem nn_le (d1 d2 : Bool) : nn d1 d2 ≤ 2 := by cases d1 <;> cases d2 <;> decide
theorem sm_le {f : Nat → Nat} {b : Nat} (h : ∀ j, f j ≤ b) : ∀ j, sm f j ≤ j * b
  | 0 => by simp [sm]
  | j + 1 => by
    have := sm_le h j
    have := h j
    unfold sm
    rw [Nat.succ_mul]
    omega

/-- A row of n frames. -/
def Rw (w : World) (v : Value) (n : Nat) (FB fl : Nat → Nat) : Prop := ∃ ao cap, v = .slice ao n cap ∧ n ≤ cap ∧ ∀ j, j < n → ∃ g, ao = some ⟨g, 0, none⟩ ∧ w.cell? ⟨g, j, none⟩ = some (.slice (some ⟨FB j, 0, none⟩) (fl j) 64)
theorem Rw.of {w : World} {lo : Nat} {v : Value} {fs : List Value} {FB fl : Nat → Nat} (h : w.ownsRow lo 24 1 v fs.length fs) (hf : ∀ j, j < fs.length → fs[j]? = some (.slice (some ⟨FB j, 0, none⟩) (fl j) 64)) : Rw w v fs.length FB fl := by
  rcases h.2 with ⟨rfl, e⟩ | ⟨g, cap, cur, rfl, _, hb, hc, _, hs, ht⟩
  · exact ⟨none, 0, by rw [e], by omega, fun j hj => by omega⟩
  · refine ⟨_, cap, rfl, hc, fun j hj => ⟨g, rfl, ?_⟩⟩
    have e1 := hf j hj
    rw [← ht, List.getElem?_take_of_lt (by omega), Array.getElem?_toList] at e1
    simp only [World.cell?, hb]
    exact e1
theorem Rw.of_n {w : World} {lo n : Nat} {v : Value} {fs : List Value} {FB fl : Nat → Nat} (h : w.ownsRow lo 24 1 v fs.length fs) (hn : fs.length = n) (hf : ∀ j, j < n → fs[j]? = some (.slice (some ⟨FB j, 0, none⟩) (fl j) 64)) : Rw w v n FB fl := by
  subst hn
  exact Rw.of h hf

/-- What one session shows. -/
def Vw (w : World) (S : Nat) (d1 d2 : Bool) (FB fl : Nat → Nat) : Option (Nat × Bool) → Prop
  | none => ∃ v, Se w S none v ∧ Rw w v (nn d1 d2) FB fl
  | some (C, true) => Se w S (some C) (.slice none 0 0) ∧ Cn w C true (.slice none 0 0) 0
  | some (C, false) => Se w S (some C) (.slice none 0 0) ∧ ∃ o, Cn w C false o (sm fl (nn d1 d2) : Nat) ∧ Rw w o (nn d1 d2) FB fl
section
variable {w w9 : World} {T V SA CA HBk AB : Nat} {SB : Fin 4 → Nat} {CB : Fin 4 → Option (Nat × Bool)} {IK : Key → Nat} {JS : Fin 4 → Nat} {ρ : Nat → Role} {A : Nat → Wt} {N ev fp : Nat} {A' : Nat → Wt} {N' : Nat} {D1 D2 : Fin 4 → Bool} {F1 F2 : Nat} {RB : Fin 4 → Option Nat}
theorem Fe.vw (h : Fe w w9 T V SA CA HBk AB SB CB IK JS ρ A N ev fp A' N' D1 D2 F1 F2 RB) (s : Fin 4) : Vw w9 (SB s) (D1 s) (D2 s) (pk (D1 s) F1 F2) (pk (D1 s) (32 + (pb fp).size) (32 + (pb (pr fp)).size)) (CB s) := by
  have hl : (addF (addF (fun _ => []) D1 (frv F1 (pb fp))) D2 (frv F2 (pb (pr fp))) s).length = nn (D1 s) (D2 s) := by
    unfold addF nn
    cases D1 s <;> cases D2 s <;> rfl
  have hf : ∀ j, j < nn (D1 s) (D2 s) → (addF (addF (fun _ => []) D1 (frv F1 (pb fp))) D2 (frv F2 (pb (pr fp))) s)[j]? = some (.slice (some ⟨pk (D1 s) F1 F2 j, 0, none⟩) (pk (D1 s) (32 + (pb fp).size) (32 + (pb (pr fp)).size) j) 64) := fun j hj => by
    unfold addF frv pk
    unfold nn at hj
    cases h1 : D1 s <;> cases h2 : D2 s
    · rw [h1, h2] at hj
      exact absurd hj (Nat.not_lt_zero _)
    · rw [h1, h2] at hj
      obtain rfl : j = 0 := by have : j < 1 := hj; omega
      rfl
    · rw [h1, h2] at hj
      obtain rfl : j = 0 := by have : j < 1 := hj; omega
      rfl
    · rw [h1, h2] at hj
      rcases (show j = 0 ∨ j = 1 by have : j < 2 := hj; omega) with rfl | rfl <;> rfl
  have hq : addQ (addQ (fun _ => 0) D1 (32 + (pb fp).size : Nat)) D2 (32 + (pb (pr fp)).size : Nat) s = ((sm (pk (D1 s) (32 + (pb fp).size) (32 + (pb (pr fp)).size)) (nn (D1 s) (D2 s)) : Nat) : Int) := by
    unfold addQ
    cases h1 : D1 s <;> cases h2 : D2 s <;> simp [nn, sm, pk]
  have g := h.st.g s
  generalize CB s = c at g ⊢
  match c, g with
  | none, ⟨v, g1, g2, _⟩ => exact ⟨v, g1, Rw.of_n g2 hl hf⟩
  | some (C, true), ⟨g1, g2, _⟩ => exact ⟨g1, g2⟩
  | some (C, false), ⟨g1, o, g2, g3, _⟩ => exact ⟨g1, o, by rw [← hq]; exact g2, Rw.of_n g3 hl hf⟩
/-- The frames' bytes. -/
theorem Fe.r1 (h : Fe w w9 T V SA CA HBk AB SB CB IK JS ρ A N ev fp A' N' D1 D2 F1 F2 RB) (s : Fin 4) (hd : D1 s = true) : Rd w9 F1 (frm ev (pb fp)) ∧ F1 < w9.heap.size := by
  have hb := h.f1 ⟨s, hd⟩
  exact ⟨hb.rd, World.block_lt_of_cell? _ _ (Option.isSome_iff_exists.1 (hb.th 0 (by omega)).1).choose_spec⟩
theorem Fe.r2 (h : Fe w w9 T V SA CA HBk AB SB CB IK JS ρ A N ev fp A' N' D1 D2 F1 F2 RB) (s : Fin 4) (hd : D2 s = true) : Rd w9 F2 (frm 4 (pb (pr fp))) ∧ F2 < w9.heap.size := by
  have hb := h.f2 ⟨s, hd⟩
  exact ⟨hb.rd, World.block_lt_of_cell? _ _ (Option.isSome_iff_exists.1 (hb.th 0 (by omega)).1).choose_spec⟩
/-- What the law adds up. -/
def sn (D1 D2 : Fin 4 → Bool) (CB : Fin 4 → Option (Nat × Bool)) (i : Nat) : Int := qn (fun j => D1 j && isOpen (CB j)) i + qn (fun j => D2 j && isOpen (CB j)) i
theorem sn_bd (D1 D2 : Fin 4 → Bool) (CB : Fin 4 → Option (Nat × Bool)) (i : Nat) : 0 ≤ sn D1 D2 CB i ∧ sn D1 D2 CB i ≤ 2 * i := by
  have h1 := qn_bd (fun j => D1 j && isOpen (CB j)) i
  have h2 := qn_bd (fun j => D2 j && isOpen (CB j)) i
  unfold sn
  omega
theorem sn_four (D1 D2 : Fin 4 → Bool) (CB : Fin 4 → Option (Nat × Bool)) : sn D1 D2 CB 4 = (cnt fun i => D1 i && isOpen (CB i)) + cnt fun i => D2 i && isOpen (CB i) := by
  unfold sn
  rw [qn_four, qn_four]
theorem sn_step (D1 D2 : Fin 4 → Bool) (CB : Fin 4 → Option (Nat × Bool)) (s : Fin 4) : sn D1 D2 CB (s.val + 1) = sn D1 D2 CB s.val + if isOpen (CB s) = true then ((nn (D1 s) (D2 s) : Nat) : Int) else 0 := by
  have h : ∀ f : Fin 4 → Bool, qn f (s.val + 1) = qn f s.val + b2z (f s) := fun f => by
    show qn _ (s.val + 1) = _
    conv => lhs; unfold qn
    rw [dif_pos s.isLt]
  unfold sn
  rw [h, h]
  cases isOpen (CB s) <;> cases D1 s <;> cases D2 s <;> simp [b2z, nn] <;> omega
end
end Go.Proofs.YbulkcrxoDoor.F
