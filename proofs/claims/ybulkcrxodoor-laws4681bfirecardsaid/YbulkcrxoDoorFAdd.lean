/-
  LawS4681AFires, LawS4681BFire: one watch more: plain laws of the table.
-/
import Derived.Test.YbulkcrxoDoorFTake
set_option linter.unusedVariables false
namespace Go.Proofs.YbulkcrxoDoor.F
open Go.RowKit

/-- The watch x stands at the end. -/
def addW (A : Nat → Wt) (N : Nat) (x : Wt) : Nat → Wt := fun j => if j = N then x else A j
theorem addW_lt {A : Nat → Wt} {N j : Nat} {x : Wt} (h : j < N) : addW A N x j = A j := if_neg (by omega)
theorem addW_at {A : Nat → Wt} {N : Nat} {x : Wt} : addW A N x N = x := if_pos rfl

section
variable {A : Nat → Wt} {N : Nat} {x : Wt}
theorem addW_inj (h : Inj A N) (hx : ¬ Has A N x) : Inj (addW A N x) (N + 1) := by
  intro i j hi hj e
  by_cases h1 : i = N <;> by_cases h2 : j = N
  · omega
  · subst h1
    rw [addW_at, addW_lt (by omega)] at e
    exact absurd ⟨j, by omega, e.symm⟩ hx
  · subst h2
    rw [addW_at, addW_lt (by omega)] at e
    exact absurd ⟨i, by omega, e⟩ hx
  · rw [addW_lt (by omega), addW_lt (by omega)] at e
    exact h i j (by omega) (by omega) e
theorem addW_has (y : Wt) : Has (addW A N x) (N + 1) y ↔ Has A N y ∨ y = x := by
  constructor
  · rintro ⟨i, hi, e⟩
    by_cases h : i = N
    · subst h; rw [addW_at] at e; exact .inr e.symm
    · rw [addW_lt (by omega)] at e; exact .inl ⟨i, by omega, e⟩
  · rintro (⟨i, hi, e⟩ | rfl)
    · exact ⟨i, by omega, by rw [addW_lt hi]; exact e⟩
    · exact ⟨N, by omega, addW_at⟩
theorem addW_pos (y : Wt) (v : Value) : (∃ i, i < N + 1 ∧ addW A N x i = y ∧ v = .int .i64 (i : Int)) ↔ (∃ i, i < N ∧ A i = y ∧ v = .int .i64 (i : Int)) ∨ (y = x ∧ v = .int .i64 (N : Int)) := by
  constructor
  · rintro ⟨i, hi, e, rfl⟩
    by_cases h : i = N
    · subst h; rw [addW_at] at e; exact .inr ⟨e.symm, rfl⟩
    · rw [addW_lt (by omega)] at e; exact .inl ⟨i, by omega, e, rfl⟩
  · rintro (⟨i, hi, e, rfl⟩ | ⟨rfl, rfl⟩)
    · exact ⟨i, by omega, by rw [addW_lt hi]; exact e, rfl⟩
    · exact ⟨N, by omega, addW_at, rfl⟩
theorem addW_key (q : Key) : (∃ i, i < N + 1 ∧ (addW A N x i).1 = q) ↔ (∃ i, i < N ∧ (A i).1 = q) ∨ q = x.1 := by
  constructor
  · rintro ⟨i, hi, e⟩
    by_cases h : i = N
    · subst h; rw [addW_at] at e; exact .inr e.symm
    · rw [addW_lt (by omega)] at e; exact .inl ⟨i, by omega, e⟩
  · rintro (⟨i, hi, e⟩ | rfl)
    · exact ⟨i, by omega, by rw [addW_lt hi]; exact e⟩
    · exact ⟨N, by omega, by rw [addW_at]⟩
theorem addW_ses (t : Fin 4) : (∃ i, i < N + 1 ∧ (addW A N x i).2 = t) ↔ (∃ i, i < N ∧ (A i).2 = t) ∨ t = x.2 := by
  constructor
  · rintro ⟨i, hi, e⟩
    by_cases h : i = N
    · subst h; rw [addW_at] at e; exact .inr e.symm
    · rw [addW_lt (by omega)] at e; exact .inl ⟨i, by omega, e⟩
  · rintro (⟨i, hi, e⟩ | rfl)
    · exact ⟨i, by omega, by rw [addW_lt hi]; exact e⟩
    · exact ⟨N, by omega, by rw [addW_at]⟩
end

def updK (IK : Key → Nat) (k : Key) (B : Nat) : Key → Nat := fun q => if q = k then B else IK q
def updS (JS : Fin 4 → Nat) (s : Fin 4) (B : Nat) : Fin 4 → Nat := fun t => if t = s then B else JS t
def updR (ρ : Nat → Role) (B : Nat) (r : Role) : Nat → Role := fun b => if b = B then r else ρ b

section
variable {A : Nat → Wt} {N : Nat} {k : Key} {s : Fin 4} {IK : Key → Nat} {JS : Fin 4 → Nat}

theorem ISpec.putIn {l : List (RM.Ent (Fin 4))} {c : Nat} (h : ISpec A N k l) (hx : ¬ Has A N (k, s)) : ISpec (addW A N (k, s)) (N + 1) k (RM.ins l s (.int .i64 (N : Int)) c) := by
  refine ⟨RM.uniq_ins h.1 _ _ _, fun t v => ?_⟩
  rw [RM.get_ins, addW_pos]
  by_cases e : t = s
  · subst e
    rw [if_pos rfl]
    constructor
    · intro q; injection q with q; exact .inr ⟨rfl, q.symm⟩
    · rintro (⟨i, hi, e, _⟩ | ⟨_, rfl⟩)
      · exact absurd ⟨i, hi, e⟩ hx
      · rfl
  · rw [if_neg e, h.2 t v]
    constructor
    · intro q; exact .inl q
    · rintro (q | ⟨q, _⟩)
      · exact q
      · exact absurd (by injection q) e
theorem ISpec.stay {q : Key} {l : List (RM.Ent (Fin 4))} (h : ISpec A N q l) (hq : q ≠ k) : ISpec (addW A N (k, s)) (N + 1) q l := by
  refine ⟨h.1, fun t v => ?_⟩
  rw [h.2 t v, addW_pos]
  constructor
  · intro q; exact .inl q
  · rintro (q | ⟨q, _⟩)
    · exact q
    · exact absurd (by injection q) hq
theorem ISpec.empty (h : ¬ ∃ i, i < N ∧ (A i).1 = k) : ISpec A N k [] := by
  refine ⟨List.nodup_nil, fun t v => ?_⟩
  constructor
  · intro q; cases q
  · rintro ⟨i, hi, e, _⟩
    exact absurd ⟨i, hi, by rw [e]⟩ h
theorem KSpec.stay {l : List (RM.Ent Key)} (h : KSpec A N IK l) (hk : ∃ i, i < N ∧ (A i).1 = k) : KSpec (addW A N (k, s)) (N + 1) IK l := by
  refine ⟨h.1, fun q v => ?_⟩
  rw [h.2 q v, addW_key]
  constructor
  · rintro ⟨a, b⟩; exact ⟨.inl a, b⟩
  · rintro ⟨a | rfl, b⟩
    · exact ⟨a, b⟩
    · exact ⟨hk, b⟩
theorem KSpec.new {l : List (RM.Ent Key)} {c B : Nat} (h : KSpec A N IK l) (hk : ¬ ∃ i, i < N ∧ (A i).1 = k) : KSpec (addW A N (k, s)) (N + 1) (updK IK k B) (RM.ins l k (.map (some B)) c) := by
  refine ⟨RM.uniq_ins h.1 _ _ _, fun q v => ?_⟩
  rw [RM.get_ins, addW_key]
  unfold updK
  by_cases e : q = k
  · subst e
    rw [if_pos rfl, if_pos rfl]
    constructor
    · intro q; injection q with q; exact ⟨.inr rfl, q.symm⟩
    · rintro ⟨_, rfl⟩; rfl
  · rw [if_neg e, if_neg e, h.2 q v]
    constructor
    · rintro ⟨a, b⟩; exact ⟨.inl a, b⟩
    · rintro ⟨a | a, b⟩
      · exact ⟨a, b⟩
      · exact absurd a e
theorem JSpec.putIn {l : List (RM.Ent Key)} {c : Nat} (h : JSpec A N s l) : JSpec (addW A N (k, s)) (N + 1) s (RM.ins l k (.agg #[]) c) := by
  refine ⟨RM.uniq_ins h.1 _ _ _, fun q v => ?_⟩
  have hh : (∃ i, i < N + 1 ∧ addW A N (k, s) i = (q, s)) ↔ Has A N (q, s) ∨ (q, s) = (k, s) := addW_has (q, s)
  rw [RM.get_ins, hh]
  by_cases e : q = k
  · subst e
    rw [if_pos rfl]
    constructor
    · intro q; injection q with q; exact ⟨.inr rfl, q.symm⟩
    · rintro ⟨_, rfl⟩; rfl
  · rw [if_neg e, h.2 q v]
    constructor
    · rintro ⟨a, b⟩; exact ⟨.inl a, b⟩
    · rintro ⟨a | a, b⟩
      · exact ⟨a, b⟩
      · exact absurd (by injection a) e
theorem JSpec.stay {t : Fin 4} {l : List (RM.Ent Key)} (h : JSpec A N t l) (ht : t ≠ s) : JSpec (addW A N (k, s)) (N + 1) t l := by
  refine ⟨h.1, fun q v => ?_⟩
  have hh : (∃ i, i < N + 1 ∧ addW A N (k, s) i = (q, t)) ↔ Has A N (q, t) ∨ (q, t) = (k, s) := addW_has (q, t)
  rw [h.2 q v, hh]
  constructor
  · rintro ⟨a, b⟩; exact ⟨.inl a, b⟩
  · rintro ⟨a | a, b⟩
    · exact ⟨a, b⟩
    · exact absurd (by injection a) ht
theorem JSpec.empty (h : ¬ ∃ i, i < N ∧ (A i).2 = s) : JSpec A N s [] := by
  refine ⟨List.nodup_nil, fun q v => ?_⟩
  constructor
  · intro q; cases q
  · rintro ⟨⟨i, hi, e⟩, _⟩
    exact absurd ⟨i, hi, by rw [e]⟩ h
theorem SSpec.stay {l : List (RM.Ent (Fin 4))} (h : SSpec A N JS l) (hk : ∃ i, i < N ∧ (A i).2 = s) : SSpec (addW A N (k, s)) (N + 1) JS l := by
  refine ⟨h.1, fun q v => ?_⟩
  rw [h.2 q v, addW_ses]
  constructor
  · rintro ⟨a, b⟩; exact ⟨.inl a, b⟩
  · rintro ⟨a | rfl, b⟩
    · exact ⟨a, b⟩
    · exact ⟨hk, b⟩
theorem SSpec.new {l : List (RM.Ent (Fin 4))} {c B : Nat} (h : SSpec A N JS l) (hk : ¬ ∃ i, i < N ∧ (A i).2 = s) : SSpec (addW A N (k, s)) (N + 1) (updS JS s B) (RM.ins l s (.map (some B)) c) := by
  refine ⟨RM.uniq_ins h.1 _ _ _, fun q v => ?_⟩
  rw [RM.get_ins, addW_ses]
  unfold updS
  by_cases e : q = s
  · subst e
    rw [if_pos rfl, if_pos rfl]
    constructor
    · intro q; injection q with q; exact ⟨.inr rfl, q.symm⟩
    · rintro ⟨_, rfl⟩; rfl
  · rw [if_neg e, if_neg e, h.2 q v]
    constructor
    · rintro ⟨a, b⟩; exact ⟨.inl a, b⟩
    · rintro ⟨a | a, b⟩
      · exact ⟨a, b⟩
      · exact absurd a e
end

/-- The watches' cells, in a row. -/
def wl (SB : Fin 4 → Nat) (A : Nat → Wt) : Nat → List Value
  | 0 => []
  | N + 1 => wl SB A N ++ [.string (A N).1.1, .int .u8 ((A N).1.2 : Int), kvS SB (A N).2]
theorem wl_len (SB : Fin 4 → Nat) (A : Nat → Wt) : ∀ N, (wl SB A N).length = N * 3
  | 0 => rfl
  | N + 1 => by rw [wl, List.length_append, wl_len SB A N]; simp; omega
theorem wl_congr (SB : Fin 4 → Nat) {A A' : Nat → Wt} : ∀ {N}, (∀ i, i < N → A i = A' i) → wl SB A N = wl SB A' N
  | 0, _ => rfl
  | N + 1, h => by rw [wl, wl, wl_congr SB (N := N) fun i hi => h i (by omega), h N (by omega)]
theorem wl_add (SB : Fin 4 → Nat) (A : Nat → Wt) (N : Nat) (k : Key) (s : Fin 4) : wl SB (addW A N (k, s)) (N + 1) = wl SB A N ++ [.string k.1, .int .u8 (k.2 : Int), kvS SB s] := by
  rw [wl, wl_congr SB (A := addW A N (k, s)) (A' := A) fun i hi => addW_lt hi, addW_at]
theorem wl_at (SB : Fin 4 → Nat) (A : Nat → Wt) : ∀ {N i}, i < N → (wl SB A N)[i * 3]? = some (.string (A i).1.1) ∧ (wl SB A N)[i * 3 + 1]? = some (.int .u8 ((A i).1.2 : Int)) ∧ (wl SB A N)[i * 3 + 2]? = some (kvS SB (A i).2)
  | N + 1, i, h => by
    have hl := wl_len SB A N
    rw [wl]
    by_cases e : i = N
    · subst e
      refine ⟨?_, ?_, ?_⟩
      · rw [List.getElem?_append_right (by omega), hl, Nat.sub_self]; rfl
      · rw [List.getElem?_append_right (by omega), hl, show i * 3 + 1 - i * 3 = 1 by omega]; rfl
      · rw [List.getElem?_append_right (by omega), hl, show i * 3 + 2 - i * 3 = 2 by omega]; rfl
    · have ih := wl_at SB A (N := N) (i := i) (by omega)
      refine ⟨?_, ?_, ?_⟩
      · rw [List.getElem?_append_left (by omega)]; exact ih.1
      · rw [List.getElem?_append_left (by omega)]; exact ih.2.1
      · rw [List.getElem?_append_left (by omega)]; exact ih.2.2
end Go.Proofs.YbulkcrxoDoor.F
