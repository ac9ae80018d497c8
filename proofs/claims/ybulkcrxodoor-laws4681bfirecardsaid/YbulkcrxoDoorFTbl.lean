/-
  LawS4681AFires, LawS4681BFire: the watch table: an enumeration of (key, session) and the maps that index it.
-/
import Derived.Test.YbulkcrxoDoorFKey
set_option linter.unusedVariables false
namespace Go.Proofs.YbulkcrxoDoor.F
open Go.RowKit
open Go.ChangeMaps (setBlock)

abbrev Wt := Key × Fin 4

/-- The watch at i0 is taken out; the last takes its place. -/
def drop (A : Nat → Wt) (N i0 : Nat) : Nat → Wt := fun j => if j = i0 then A (N - 1) else A j

section
variable {A : Nat → Wt} {N i0 : Nat}

def Inj (A : Nat → Wt) (N : Nat) : Prop := ∀ i j, i < N → j < N → A i = A j → i = j

theorem drop_inj (h : Inj A N) (hi : i0 < N) : Inj (drop A N i0) (N - 1) := by
  intro i j hi' hj' e
  unfold drop at e
  by_cases h1 : i = i0 <;> by_cases h2 : j = i0
  · rw [h1, h2]
  · rw [if_pos h1, if_neg h2] at e
    have := h (N - 1) j (by omega) (by omega) e
    omega
  · rw [if_neg h1, if_pos h2] at e
    have := h i (N - 1) (by omega) (by omega) e
    omega
  · rw [if_neg h1, if_neg h2] at e
    exact h i j (by omega) (by omega) e

/-- Where a pair stands behind the drop. -/
theorem drop_pos (h : Inj A N) (hi : i0 < N) (x : Wt) (v : Value) :
    (∃ j, j < N - 1 ∧ drop A N i0 j = x ∧ v = .int .i64 (j : Int)) ↔ x ≠ A i0 ∧ ((x = A (N - 1) ∧ v = .int .i64 (i0 : Int)) ∨ (x ≠ A (N - 1) ∧ ∃ j, j < N ∧ A j = x ∧ v = .int .i64 (j : Int))) := by
  constructor
  · rintro ⟨j, hj, e, rfl⟩
    unfold drop at e
    by_cases h1 : j = i0
    · subst h1
      rw [if_pos rfl] at e
      refine ⟨fun q => ?_, .inl ⟨e.symm, rfl⟩⟩
      rw [← e] at q
      have := h (N - 1) j (by omega) hi q
      omega
    · rw [if_neg h1] at e
      refine ⟨fun q => ?_, .inr ⟨fun q => ?_, j, by omega, e, rfl⟩⟩
      · rw [← e] at q
        exact h1 (h j i0 (by omega) hi q)
      · rw [← e] at q
        have := h j (N - 1) (by omega) (by omega) q
        omega
  · rintro ⟨h0, (⟨rfl, rfl⟩ | ⟨h1, j, hj, e, rfl⟩)⟩
    · have hne : i0 ≠ N - 1 := fun q => h0 (by rw [q])
      exact ⟨i0, by omega, by unfold drop; rw [if_pos rfl], rfl⟩
    · have hj0 : j ≠ i0 := fun q => h0 (by rw [← e, q])
      have hj1 : j ≠ N - 1 := fun q => h1 (by rw [← e, q])
      exact ⟨j, by omega, by unfold drop; rw [if_neg hj0]; exact e, rfl⟩

theorem drop_has (h : Inj A N) (hi : i0 < N) (x : Wt) : (∃ j, j < N - 1 ∧ drop A N i0 j = x) ↔ x ≠ A i0 ∧ ∃ j, j < N ∧ A j = x := by
  constructor
  · rintro ⟨j, hj, e⟩
    have := (drop_pos h hi x (.int .i64 (j : Int))).1 ⟨j, hj, e, rfl⟩
    refine ⟨this.1, ?_⟩
    rcases this.2 with ⟨e, _⟩ | ⟨_, j', hj', e', _⟩
    · exact ⟨N - 1, by omega, e.symm⟩
    · exact ⟨j', hj', e'⟩
  · rintro ⟨h0, j, hj, e⟩
    by_cases hl : x = A (N - 1)
    · obtain ⟨j', hj', e', _⟩ := (drop_pos h hi x (.int .i64 (i0 : Int))).2 ⟨h0, .inl ⟨hl, rfl⟩⟩
      exact ⟨j', hj', e'⟩
    · obtain ⟨j', hj', e', _⟩ := (drop_pos h hi x (.int .i64 (j : Int))).2 ⟨h0, .inr ⟨hl, j, hj, e, rfl⟩⟩
      exact ⟨j', hj', e'⟩
end

def ISpec (A : Nat → Wt) (N : Nat) (k : Key) (l : List (RM.Ent (Fin 4))) : Prop := RM.Uniq l ∧ ∀ s v, RM.get l s = some v ↔ ∃ i, i < N ∧ A i = (k, s) ∧ v = .int .i64 (i : Int)
def KSpec (A : Nat → Wt) (N : Nat) (IK : Key → Nat) (l : List (RM.Ent Key)) : Prop := RM.Uniq l ∧ ∀ k v, RM.get l k = some v ↔ (∃ i, i < N ∧ (A i).1 = k) ∧ v = .map (some (IK k))
def SSpec (A : Nat → Wt) (N : Nat) (JS : Fin 4 → Nat) (l : List (RM.Ent (Fin 4))) : Prop := RM.Uniq l ∧ ∀ s v, RM.get l s = some v ↔ (∃ i, i < N ∧ (A i).2 = s) ∧ v = .map (some (JS s))
def JSpec (A : Nat → Wt) (N : Nat) (s : Fin 4) (l : List (RM.Ent Key)) : Prop := RM.Uniq l ∧ ∀ k v, RM.get l k = some v ↔ (∃ i, i < N ∧ A i = (k, s)) ∧ v = .agg #[]

theorem get_none_of {κ : Type} [DecidableEq κ] {l : List (RM.Ent κ)} {k : κ} (h : ∀ v, RM.get l k ≠ some v) : RM.get l k = none := by
  cases hg : RM.get l k with
  | none => rfl
  | some v => exact absurd hg (h v)
theorem nil_of_none {κ : Type} [DecidableEq κ] {l : List (RM.Ent κ)} (hu : RM.Uniq l) (h : ∀ k, RM.get l k = none) : l = [] := by
  cases l with
  | nil => rfl
  | cons e r =>
    have := RM.get_of_mem hu (List.mem_cons_self (a := e) (l := r))
    rw [h e.k] at this
    cases this

section
variable {A : Nat → Wt} {N i0 : Nat} {IK : Key → Nat} {JS : Fin 4 → Nat}

/-- An inner map that is neither the taken one's nor the last one's. -/
theorem ISpec.other {q : Key} {l : List (RM.Ent (Fin 4))} (h : ISpec A N q l) (hA : Inj A N) (hi : i0 < N) (h1 : q ≠ (A i0).1) (h2 : q ≠ (A (N - 1)).1) : ISpec (drop A N i0) (N - 1) q l := by
  refine ⟨h.1, fun s v => ?_⟩
  rw [h.2 s v, drop_pos hA hi]
  have e1 : (q, s) ≠ A i0 := fun e => h1 (by rw [← e])
  have e2 : (q, s) ≠ A (N - 1) := fun e => h2 (by rw [← e])
  simp [e1, e2]
/-- The last one's, where it is another than the taken one's. -/
theorem ISpec.moved {q : Key} {l : List (RM.Ent (Fin 4))} {c : Nat} (h : ISpec A N q l) (hA : Inj A N) (hi : i0 < N) (h1 : q ≠ (A i0).1) (h2 : q = (A (N - 1)).1) : ISpec (drop A N i0) (N - 1) q (RM.ins l (A (N - 1)).2 (.int .i64 (i0 : Int)) c) := by
  refine ⟨RM.uniq_ins h.1 _ _ _, fun s v => ?_⟩
  rw [RM.get_ins, drop_pos hA hi]
  have e1 : (q, s) ≠ A i0 := fun e => h1 (by rw [← e])
  by_cases hs : s = (A (N - 1)).2
  · subst hs
    have e2 : (q, (A (N - 1)).2) = A (N - 1) := by rw [h2]
    rw [e2] at e1
    simp [e1, e2]
    exact ⟨fun h => h.symm, fun h => h.symm⟩
  · have e2 : (q, s) ≠ A (N - 1) := fun e => hs (by rw [← e])
    rw [if_neg hs, h.2 s v]
    simp [e1, e2]
/-- The taken one's, where it is another than the last one's. -/
theorem ISpec.taken {q : Key} {l : List (RM.Ent (Fin 4))} (h : ISpec A N q l) (hA : Inj A N) (hi : i0 < N) (h1 : q = (A i0).1) (h2 : q ≠ (A (N - 1)).1) : ISpec (drop A N i0) (N - 1) q (RM.del l (A i0).2) := by
  refine ⟨RM.uniq_del h.1 _, fun s v => ?_⟩
  rw [RM.get_del h.1, drop_pos hA hi]
  have e2 : (q, s) ≠ A (N - 1) := fun e => h2 (by rw [← e])
  by_cases hs : s = (A i0).2
  · subst hs
    have e1 : (q, (A i0).2) = A i0 := by rw [h1]
    simp [e1]
  · have e1 : (q, s) ≠ A i0 := fun e => hs (by rw [← e])
    rw [if_neg hs, h.2 s v]
    simp [e1, e2]
/-- The taken one's that is the last one's too. -/
theorem ISpec.both {q : Key} {l : List (RM.Ent (Fin 4))} {c : Nat} (h : ISpec A N q l) (hA : Inj A N) (hi : i0 < N) (h1 : q = (A i0).1) (h2 : q = (A (N - 1)).1) : ISpec (drop A N i0) (N - 1) q (RM.del (RM.ins l (A (N - 1)).2 (.int .i64 (i0 : Int)) c) (A i0).2) := by
  have hu := RM.uniq_ins h.1 (A (N - 1)).2 (.int .i64 (i0 : Int)) c
  refine ⟨RM.uniq_del hu _, fun s v => ?_⟩
  rw [RM.get_del hu, RM.get_ins, drop_pos hA hi]
  by_cases hs : s = (A i0).2
  · subst hs
    have e1 : (q, (A i0).2) = A i0 := by rw [h1]
    simp [e1]
  · have e1 : (q, s) ≠ A i0 := fun e => hs (by rw [← e])
    rw [if_neg hs]
    by_cases hs2 : s = (A (N - 1)).2
    · subst hs2
      have e2 : (q, (A (N - 1)).2) = A (N - 1) := by rw [h2]
      rw [e2] at e1
      simp [e1, e2]
      exact ⟨fun h => h.symm, fun h => h.symm⟩
    · have e2 : (q, s) ≠ A (N - 1) := fun e => hs2 (by rw [← e])
      rw [if_neg hs2, h.2 s v]
      simp [e1, e2]

/-- Which keys stand. -/
theorem drop_key (hA : Inj A N) (hi : i0 < N) {q : Key} (h : q ≠ (A i0).1) : (∃ i, i < N - 1 ∧ (drop A N i0 i).1 = q) ↔ ∃ i, i < N ∧ (A i).1 = q := by
  constructor
  · rintro ⟨i, hi', e⟩
    obtain ⟨_, j, hj, ej⟩ := (drop_has hA hi _).1 ⟨i, hi', rfl⟩
    exact ⟨j, hj, by rw [ej]; exact e⟩
  · rintro ⟨i, hi', e⟩
    obtain ⟨j, hj, ej⟩ := (drop_has hA hi (A i)).2 ⟨fun q' => h (by rw [← e, q']), i, hi', rfl⟩
    exact ⟨j, hj, by rw [ej]; exact e⟩
theorem drop_sess (hA : Inj A N) (hi : i0 < N) {t : Fin 4} (h : t ≠ (A i0).2) : (∃ i, i < N - 1 ∧ (drop A N i0 i).2 = t) ↔ ∃ i, i < N ∧ (A i).2 = t := by
  constructor
  · rintro ⟨i, hi', e⟩
    obtain ⟨_, j, hj, ej⟩ := (drop_has hA hi _).1 ⟨i, hi', rfl⟩
    exact ⟨j, hj, by rw [ej]; exact e⟩
  · rintro ⟨i, hi', e⟩
    obtain ⟨j, hj, ej⟩ := (drop_has hA hi (A i)).2 ⟨fun q' => h (by rw [← e, q']), i, hi', rfl⟩
    exact ⟨j, hj, by rw [ej]; exact e⟩

theorem KSpec.keep {l : List (RM.Ent Key)} {li : List (RM.Ent (Fin 4))} (h : KSpec A N IK l) (hA : Inj A N) (hi : i0 < N) (hl : ISpec (drop A N i0) (N - 1) (A i0).1 li) (hn : li ≠ []) : KSpec (drop A N i0) (N - 1) IK l := by
  refine ⟨h.1, fun k v => ?_⟩
  rw [h.2 k v]
  by_cases e : k = (A i0).1
  · subst e
    have hp : ∃ i, i < N - 1 ∧ (drop A N i0 i).1 = (A i0).1 := by
      cases li with
      | nil => exact absurd rfl hn
      | cons x r =>
        obtain ⟨i, hi', ei, _⟩ := (hl.2 x.k x.v).1 (RM.get_of_mem hl.1 List.mem_cons_self)
        exact ⟨i, hi', by rw [ei]⟩
    exact ⟨fun hh => ⟨hp, hh.2⟩, fun hh => ⟨⟨i0, hi, rfl⟩, hh.2⟩⟩
  · rw [drop_key hA hi e]
theorem KSpec.gone {l : List (RM.Ent Key)} (h : KSpec A N IK l) (hA : Inj A N) (hi : i0 < N) (hl : ISpec (drop A N i0) (N - 1) (A i0).1 []) : KSpec (drop A N i0) (N - 1) IK (RM.del l (A i0).1) := by
  refine ⟨RM.uniq_del h.1 _, fun k v => ?_⟩
  rw [RM.get_del h.1]
  by_cases e : k = (A i0).1
  · subst e
    rw [if_pos rfl]
    constructor
    · intro q; cases q
    · rintro ⟨⟨i, hi', ei⟩, _⟩
      have := (hl.2 (drop A N i0 i).2 (.int .i64 (i : Int))).2 ⟨i, hi', by rw [← ei], rfl⟩
      cases this
  · rw [if_neg e, h.2 k v, drop_key hA hi e]

theorem JSpec.other {t : Fin 4} {l : List (RM.Ent Key)} (h : JSpec A N t l) (hA : Inj A N) (hi : i0 < N) (h1 : t ≠ (A i0).2) : JSpec (drop A N i0) (N - 1) t l := by
  refine ⟨h.1, fun k v => ?_⟩
  rw [h.2 k v, drop_has hA hi]
  have e1 : (k, t) ≠ A i0 := fun e => h1 (by rw [← e])
  simp [e1]
theorem JSpec.taken {t : Fin 4} {l : List (RM.Ent Key)} (h : JSpec A N t l) (hA : Inj A N) (hi : i0 < N) (h1 : t = (A i0).2) : JSpec (drop A N i0) (N - 1) t (RM.del l (A i0).1) := by
  refine ⟨RM.uniq_del h.1 _, fun k v => ?_⟩
  rw [RM.get_del h.1, drop_has hA hi]
  by_cases hk : k = (A i0).1
  · subst hk
    have e1 : ((A i0).1, t) = A i0 := by rw [h1]
    simp [e1]
  · have e1 : (k, t) ≠ A i0 := fun e => hk (by rw [← e])
    rw [if_neg hk, h.2 k v]
    simp [e1]
theorem SSpec.keep {l : List (RM.Ent (Fin 4))} {lj : List (RM.Ent Key)} (h : SSpec A N JS l) (hA : Inj A N) (hi : i0 < N) (hl : JSpec (drop A N i0) (N - 1) (A i0).2 lj) (hn : lj ≠ []) : SSpec (drop A N i0) (N - 1) JS l := by
  refine ⟨h.1, fun k v => ?_⟩
  rw [h.2 k v]
  by_cases e : k = (A i0).2
  · subst e
    have hp : ∃ i, i < N - 1 ∧ (drop A N i0 i).2 = (A i0).2 := by
      cases lj with
      | nil => exact absurd rfl hn
      | cons x r =>
        obtain ⟨⟨i, hi', ei⟩, _⟩ := (hl.2 x.k x.v).1 (RM.get_of_mem hl.1 List.mem_cons_self)
        exact ⟨i, hi', by rw [ei]⟩
    exact ⟨fun hh => ⟨hp, hh.2⟩, fun hh => ⟨⟨i0, hi, rfl⟩, hh.2⟩⟩
  · rw [drop_sess hA hi e]
theorem SSpec.gone {l : List (RM.Ent (Fin 4))} (h : SSpec A N JS l) (hA : Inj A N) (hi : i0 < N) (hl : JSpec (drop A N i0) (N - 1) (A i0).2 []) : SSpec (drop A N i0) (N - 1) JS (RM.del l (A i0).2) := by
  refine ⟨RM.uniq_del h.1 _, fun k v => ?_⟩
  rw [RM.get_del h.1]
  by_cases e : k = (A i0).2
  · subst e
    rw [if_pos rfl]
    constructor
    · intro q; cases q
    · rintro ⟨⟨i, hi', ei⟩, _⟩
      have := (hl.2 (drop A N i0 i).1 (.agg #[])).2 ⟨⟨i, hi', by rw [← ei]⟩, rfl⟩
      cases this
  · rw [if_neg e, h.2 k v, drop_sess hA hi e]
end
end Go.Proofs.YbulkcrxoDoor.F
