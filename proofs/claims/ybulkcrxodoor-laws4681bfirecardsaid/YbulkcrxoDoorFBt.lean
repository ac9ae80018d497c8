/-
  LawS4681AFires, LawS4681BFire: the table while the law builds it: plain laws of its parts.
-/
import Derived.Test.YbulkcrxoDoorFAdd
import Derived.Test.YbulkcrxoDoorFAux
import Derived.Deep.AppendLies
set_option linter.unusedVariables false
namespace Go.Proofs.YbulkcrxoDoor.F
open Go.RowKit
open Go.ChangeMaps (setBlock)

abbrev KeyIn (A : Nat → Wt) (N : Nat) (q : Key) : Prop := ∃ i, i < N ∧ (A i).1 = q
abbrev SesIn (A : Nat → Wt) (N : Nat) (t : Fin 4) : Prop := ∃ i, i < N ∧ (A i).2 = t

/-- The maps by key. -/
structure TK (w : World) (b1 BK : Nat) (SB : Fin 4 → Nat) (IK : Key → Nat) (ρ : Nat → Role) (A : Nat → Wt) (N : Nat) : Prop where
  mK : ∃ l c, RM.IsMap kvK w BK l c ∧ KSpec A N IK l
  mI : ∀ q, KeyIn A N q → ∃ l c, RM.IsMap (kvS SB) w (IK q) l c ∧ ISpec A N q l ∧ RM.Stamps l c
  rK : ρ BK = .bk
  rI : ∀ q, KeyIn A N q → ρ (IK q) = .ik q
  zI : ∀ q, KeyIn A N q → b1 ≤ IK q
/-- The same, the key k having its map. -/
structure TKm (w : World) (b1 BK : Nat) (SB : Fin 4 → Nat) (IK : Key → Nat) (ρ : Nat → Role) (A : Nat → Wt) (N : Nat) (k : Key) (s : Fin 4) : Prop where
  mK : ∃ l c, RM.IsMap kvK w BK l c ∧ KSpec (addW A N (k, s)) (N + 1) IK l
  mI : ∀ q, KeyIn A N q ∨ q = k → ∃ l c, RM.IsMap (kvS SB) w (IK q) l c ∧ ISpec A N q l ∧ RM.Stamps l c
  rK : ρ BK = .bk
  rI : ∀ q, KeyIn A N q ∨ q = k → ρ (IK q) = .ik q
  zI : ∀ q, KeyIn A N q ∨ q = k → b1 ≤ IK q
/-- The maps by session. -/
structure TS (w : World) (b1 BS : Nat) (SB : Fin 4 → Nat) (JS : Fin 4 → Nat) (ρ : Nat → Role) (A : Nat → Wt) (N : Nat) : Prop where
  mS : ∃ l c, RM.IsMap (kvS SB) w BS l c ∧ SSpec A N JS l
  mJ : ∀ t, SesIn A N t → ∃ l c, RM.IsMap kvK w (JS t) l c ∧ JSpec A N t l
  rS : ρ BS = .bs
  rJ : ∀ t, SesIn A N t → ρ (JS t) = .js t
  zJ : ∀ t, SesIn A N t → b1 ≤ JS t
structure TSm (w : World) (b1 BS : Nat) (SB : Fin 4 → Nat) (JS : Fin 4 → Nat) (ρ : Nat → Role) (A : Nat → Wt) (N : Nat) (k : Key) (s : Fin 4) : Prop where
  mS : ∃ l c, RM.IsMap (kvS SB) w BS l c ∧ SSpec (addW A N (k, s)) (N + 1) JS l
  mJ : ∀ t, SesIn A N t ∨ t = s → ∃ l c, RM.IsMap kvK w (JS t) l c ∧ JSpec A N t l
  rS : ρ BS = .bs
  rJ : ∀ t, SesIn A N t ∨ t = s → ρ (JS t) = .js t
  zJ : ∀ t, SesIn A N t ∨ t = s → b1 ≤ JS t
/-- The table's own cells and the row of its watches. -/
structure TX (w : World) (X BK BS : Nat) (al : Value) (SB : Fin 4 → Nat) (A : Nat → Wt) (N : Nat) : Prop where
  c0 : w.cell? ⟨X, 0, none⟩ = some (.map (some BK))
  c1 : w.cell? ⟨X, 1, none⟩ = some (.map (some BS))
  c2 : w.cell? ⟨X, 2, none⟩ = some al
  bX : ∃ c t, w.heap[X]? = some (.cells c t (0, 0))
  own : w.ownsRow (X + 1) 70 3 al N (wl SB A N)

def KeepK (ρ : Nat → Role) (w w' : World) : Prop := ∀ (j : Nat) es c, (ρ j = .bk ∨ ∃ q, ρ j = .ik q) → w.heap[j]? = some (.map es c) → w'.heap[j]? = some (.map es c)
def KeepS (ρ : Nat → Role) (w w' : World) : Prop := ∀ (j : Nat) es c, (ρ j = .bs ∨ ∃ t, ρ j = .js t) → w.heap[j]? = some (.map es c) → w'.heap[j]? = some (.map es c)
def KeepC (w w' : World) : Prop := ∀ (j : Nat) c t f, w.heap[j]? = some (.cells c t f) → w'.heap[j]? = some (.cells c t f)
def KeepM (w w' : World) : Prop := ∀ (j : Nat) es c, w.heap[j]? = some (.map es c) → w'.heap[j]? = some (.map es c)
theorem KeepM.k {ρ : Nat → Role} {w w' : World} (h : KeepM w w') : KeepK ρ w w' := fun j es c _ => h j es c
theorem KeepM.s {ρ : Nat → Role} {w w' : World} (h : KeepM w w') : KeepS ρ w w' := fun j es c _ => h j es c

section
variable {w w' : World} {b1 X BK BS : Nat} {al : Value} {SB : Fin 4 → Nat} {IK : Key → Nat} {JS : Fin 4 → Nat} {ρ : Nat → Role} {A : Nat → Wt} {N : Nat} {k : Key} {s : Fin 4}

theorem TK.keep (h : TK w b1 BK SB IK ρ A N) (hb : KeepK ρ w w') : TK w' b1 BK SB IK ρ A N := by
  refine ⟨?_, fun q hq => ?_, h.rK, h.rI, h.zI⟩
  · obtain ⟨l, c, h1, h2⟩ := h.mK
    exact ⟨l, c, hb _ _ _ (.inl h.rK) h1, h2⟩
  · obtain ⟨l, c, h1, h2⟩ := h.mI q hq
    exact ⟨l, c, hb _ _ _ (.inr ⟨q, h.rI q hq⟩) h1, h2⟩
theorem TKm.keep (h : TKm w b1 BK SB IK ρ A N k s) (hb : KeepK ρ w w') : TKm w' b1 BK SB IK ρ A N k s := by
  refine ⟨?_, fun q hq => ?_, h.rK, h.rI, h.zI⟩
  · obtain ⟨l, c, h1, h2⟩ := h.mK
    exact ⟨l, c, hb _ _ _ (.inl h.rK) h1, h2⟩
  · obtain ⟨l, c, h1, h2⟩ := h.mI q hq
    exact ⟨l, c, hb _ _ _ (.inr ⟨q, h.rI q hq⟩) h1, h2⟩
theorem TS.keep (h : TS w b1 BS SB JS ρ A N) (hb : KeepS ρ w w') : TS w' b1 BS SB JS ρ A N := by
  refine ⟨?_, fun q hq => ?_, h.rS, h.rJ, h.zJ⟩
  · obtain ⟨l, c, h1, h2⟩ := h.mS
    exact ⟨l, c, hb _ _ _ (.inl h.rS) h1, h2⟩
  · obtain ⟨l, c, h1, h2⟩ := h.mJ q hq
    exact ⟨l, c, hb _ _ _ (.inr ⟨q, h.rJ q hq⟩) h1, h2⟩
theorem TSm.keep (h : TSm w b1 BS SB JS ρ A N k s) (hb : KeepS ρ w w') : TSm w' b1 BS SB JS ρ A N k s := by
  refine ⟨?_, fun q hq => ?_, h.rS, h.rJ, h.zJ⟩
  · obtain ⟨l, c, h1, h2⟩ := h.mS
    exact ⟨l, c, hb _ _ _ (.inl h.rS) h1, h2⟩
  · obtain ⟨l, c, h1, h2⟩ := h.mJ q hq
    exact ⟨l, c, hb _ _ _ (.inr ⟨q, h.rJ q hq⟩) h1, h2⟩
theorem own_keep {base e size : Nat} {v : Value} {n : Nat} {xs : List Value} (h : w.ownsRow base e size v n xs) (hc : KeepC w w') : w'.ownsRow base e size v n xs := by
  refine ⟨h.1, ?_⟩
  rcases h.2 with h2 | ⟨g, cap, cur, h1, h2, h3, h4⟩
  · exact .inl h2
  · exact .inr ⟨g, cap, cur, h1, h2, hc _ _ _ _ h3, h4⟩
theorem TX.keep (h : TX w X BK BS al SB A N) (hc : KeepC w w') : TX w' X BK BS al SB A N := by
  obtain ⟨c, t, e⟩ := h.bX
  have hX : w'.heap[X]? = w.heap[X]? := (hc _ _ _ _ e).trans e.symm
  exact ⟨(cellB hX 0).trans h.c0, (cellB hX 1).trans h.c1, (cellB hX 2).trans h.c2, ⟨c, t, hX.trans e⟩, own_keep h.own hc⟩

/-- A new block has another role than the table's. -/
theorem TS.upd (h : TS w b1 BS SB JS ρ A N) {B : Nat} (hB : w.heap.size ≤ B) (r : Role) : TS w b1 BS SB JS (updR ρ B r) A N := by
  have ne : ∀ {κ : Type} [DecidableEq κ] {kv : κ → Value} {b c : Nat} {l : List (RM.Ent κ)}, RM.IsMap kv w b l c → b ≠ B := fun h e => by have := IsMap.lt h; omega
  refine ⟨h.mS, h.mJ, ?_, fun q hq => ?_, h.zJ⟩
  · obtain ⟨l, c, h1, _⟩ := h.mS
    unfold updR
    rw [if_neg (ne h1)]
    exact h.rS
  · obtain ⟨l, c, h1, _⟩ := h.mJ q hq
    unfold updR
    rw [if_neg (ne h1)]
    exact h.rJ q hq
theorem TK.upd (h : TK w b1 BK SB IK ρ A N) {B : Nat} (hB : w.heap.size ≤ B) (r : Role) : TK w b1 BK SB IK (updR ρ B r) A N := by
  have ne : ∀ {κ : Type} [DecidableEq κ] {kv : κ → Value} {b c : Nat} {l : List (RM.Ent κ)}, RM.IsMap kv w b l c → b ≠ B := fun h e => by have := IsMap.lt h; omega
  refine ⟨h.mK, h.mI, ?_, fun q hq => ?_, h.zI⟩
  · obtain ⟨l, c, h1, _⟩ := h.mK
    unfold updR
    rw [if_neg (ne h1)]
    exact h.rK
  · obtain ⟨l, c, h1, _⟩ := h.mI q hq
    unfold updR
    rw [if_neg (ne h1)]
    exact h.rI q hq

theorem TK.old (h : TK w b1 BK SB IK ρ A N) (hk : KeyIn A N k) : TKm w b1 BK SB IK ρ A N k s := by
  have e : ∀ q, KeyIn A N q ∨ q = k → KeyIn A N q := fun q hq => by
    rcases hq with hq | rfl
    · exact hq
    · exact hk
  refine ⟨?_, fun q hq => h.mI q (e q hq), h.rK, fun q hq => h.rI q (e q hq), fun q hq => h.zI q (e q hq)⟩
  obtain ⟨l, c, h1, h2⟩ := h.mK
  exact ⟨l, c, h1, h2.stay hk⟩
theorem TS.old (h : TS w b1 BS SB JS ρ A N) (hk : SesIn A N s) : TSm w b1 BS SB JS ρ A N k s := by
  have e : ∀ q, SesIn A N q ∨ q = s → SesIn A N q := fun q hq => by
    rcases hq with hq | rfl
    · exact hq
    · exact hk
  refine ⟨?_, fun q hq => h.mJ q (e q hq), h.rS, fun q hq => h.rJ q (e q hq), fun q hq => h.zJ q (e q hq)⟩
  obtain ⟨l, c, h1, h2⟩ := h.mS
  exact ⟨l, c, h1, h2.stay hk⟩

theorem TK.new (h : TK w b1 BK SB IK ρ A N) {l : List (RM.Ent Key)} {c c' B : Nat} (hm : RM.IsMap kvK w BK l c) (hl : KSpec A N IK l) (hk : ¬ KeyIn A N k) (hB : w.heap.size ≤ B) (hb1 : b1 ≤ B) (hK : RM.IsMap kvK w' BK (RM.ins l k (.map (some B)) c) c') (hN : w'.heap[B]? = some (.map #[] 0)) (ho : ∀ j, j < w.heap.size → j ≠ BK → w'.heap[j]? = w.heap[j]?) :
    TKm w' b1 BK SB (updK IK k B) (updR ρ B (.ik k)) A N k s := by
  have ne : ∀ q, KeyIn A N q → q ≠ k := fun q hq e => hk (e ▸ hq)
  refine ⟨⟨_, _, hK, hl.new hk⟩, fun q hq => ?_, ?_, fun q hq => ?_, fun q hq => ?_⟩
  · by_cases e : q = k
    · subst e
      exact ⟨[], 0, by unfold updK; rw [if_pos rfl]; exact hN, ISpec.empty hk, (by intro e he; cases he), List.nodup_nil⟩
    · have hq' : KeyIn A N q := hq.resolve_right e
      obtain ⟨l', c', h1, h2⟩ := h.mI q hq'
      refine ⟨l', c', ?_, h2⟩
      unfold updK
      rw [if_neg e]
      have hne : IK q ≠ BK := fun e => by
        have := h.rI q hq'
        rw [e, h.rK] at this
        cases this
      exact (ho _ (IsMap.lt h1) hne).trans h1
  · unfold updR
    rw [if_neg (by have := IsMap.lt hm; omega)]
    exact h.rK
  · by_cases e : q = k
    · subst e
      unfold updK updR
      rw [if_pos rfl, if_pos rfl]
    · have hq' : KeyIn A N q := hq.resolve_right e
      obtain ⟨l', c', h1, h2⟩ := h.mI q hq'
      unfold updK updR
      rw [if_neg e, if_neg (by have := IsMap.lt h1; omega)]
      exact h.rI q hq'
  · unfold updK
    split
    · exact hb1
    · rename_i e
      exact h.zI q (hq.resolve_right e)
theorem TS.new (h : TS w b1 BS SB JS ρ A N) {l : List (RM.Ent (Fin 4))} {c c' B : Nat} (hm : RM.IsMap (kvS SB) w BS l c) (hl : SSpec A N JS l) (hk : ¬ SesIn A N s) (hB : w.heap.size ≤ B) (hb1 : b1 ≤ B) (hK : RM.IsMap (kvS SB) w' BS (RM.ins l s (.map (some B)) c) c') (hN : w'.heap[B]? = some (.map #[] 0)) (ho : ∀ j, j < w.heap.size → j ≠ BS → w'.heap[j]? = w.heap[j]?) :
    TSm w' b1 BS SB (updS JS s B) (updR ρ B (.js s)) A N k s := by
  have ne : ∀ q, SesIn A N q → q ≠ s := fun q hq e => hk (e ▸ hq)
  refine ⟨⟨_, _, hK, hl.new hk⟩, fun q hq => ?_, ?_, fun q hq => ?_, fun q hq => ?_⟩
  · by_cases e : q = s
    · subst e
      exact ⟨[], 0, by unfold updS; rw [if_pos rfl]; exact hN, JSpec.empty hk⟩
    · have hq' : SesIn A N q := hq.resolve_right e
      obtain ⟨l', c', h1, h2⟩ := h.mJ q hq'
      refine ⟨l', c', ?_, h2⟩
      unfold updS
      rw [if_neg e]
      have hne : JS q ≠ BS := fun e => by
        have := h.rJ q hq'
        rw [e, h.rS] at this
        cases this
      exact (ho _ (IsMap.lt h1) hne).trans h1
  · unfold updR
    rw [if_neg (by have := IsMap.lt hm; omega)]
    exact h.rS
  · by_cases e : q = s
    · subst e
      unfold updS updR
      rw [if_pos rfl, if_pos rfl]
    · have hq' : SesIn A N q := hq.resolve_right e
      obtain ⟨l', c', h1, h2⟩ := h.mJ q hq'
      unfold updS updR
      rw [if_neg e, if_neg (by have := IsMap.lt h1; omega)]
      exact h.rJ q hq'
  · unfold updS
    split
    · exact hb1
    · rename_i e
      exact h.zJ q (hq.resolve_right e)

theorem TKm.put (h : TKm w b1 BK SB IK ρ A N k s) (hA : ¬ Has A N (k, s)) {l : List (RM.Ent (Fin 4))} {c : Nat} (hl : ISpec A N k l) (hs : RM.Stamps l c) (hw : RM.IsMap (kvS SB) w' (IK k) (RM.ins l s (.int .i64 (N : Int)) c) (RM.insC l s c)) (ho : ∀ j, j ≠ IK k → w'.heap[j]? = w.heap[j]?) :
    TK w' b1 BK SB IK ρ (addW A N (k, s)) (N + 1) := by
  have e : ∀ q, KeyIn (addW A N (k, s)) (N + 1) q → KeyIn A N q ∨ q = k := fun q hq => (addW_key q).1 hq
  refine ⟨?_, fun q hq => ?_, h.rK, fun q hq => h.rI q (e q hq), fun q hq => h.zI q (e q hq)⟩
  · obtain ⟨l', c', h1, h2⟩ := h.mK
    have hne : BK ≠ IK k := fun e => by
      have := h.rI k (.inr rfl)
      rw [← e, h.rK] at this
      cases this
    exact ⟨l', c', (ho _ hne).trans h1, h2⟩
  · by_cases eq : q = k
    · subst eq
      exact ⟨_, _, hw, hl.putIn hA, RM.stamps_ins hs _ _⟩
    · obtain ⟨l', c', h1, h2, h3⟩ := h.mI q (e q hq)
      have hne : IK q ≠ IK k := fun e' => by
        have h1 := h.rI q (e q hq)
        have h2 := h.rI k (.inr rfl)
        rw [e', h2] at h1
        injection h1 with h1
        exact eq h1.symm
      exact ⟨l', c', (ho _ hne).trans h1, h2.stay eq, h3⟩
theorem TSm.put (h : TSm w b1 BS SB JS ρ A N k s) {l : List (RM.Ent Key)} {c c' : Nat} (hl : JSpec A N s l) (hw : RM.IsMap kvK w' (JS s) (RM.ins l k (.agg #[]) c) c') (ho : ∀ j, j ≠ JS s → w'.heap[j]? = w.heap[j]?) :
    TS w' b1 BS SB JS ρ (addW A N (k, s)) (N + 1) := by
  have e : ∀ q, SesIn (addW A N (k, s)) (N + 1) q → SesIn A N q ∨ q = s := fun q hq => (addW_ses q).1 hq
  refine ⟨?_, fun q hq => ?_, h.rS, fun q hq => h.rJ q (e q hq), fun q hq => h.zJ q (e q hq)⟩
  · obtain ⟨l', c', h1, h2⟩ := h.mS
    have hne : BS ≠ JS s := fun e => by
      have := h.rJ s (.inr rfl)
      rw [← e, h.rS] at this
      cases this
    exact ⟨l', c', (ho _ hne).trans h1, h2⟩
  · by_cases eq : q = s
    · subst eq
      exact ⟨_, _, hw, hl.putIn⟩
    · obtain ⟨l', c', h1, h2⟩ := h.mJ q (e q hq)
      have hne : JS q ≠ JS s := fun e' => by
        have h1 := h.rJ q (e q hq)
        have h2 := h.rJ s (.inr rfl)
        rw [e', h2] at h1
        injection h1 with h1
        exact eq h1.symm
      exact ⟨l', c', (ho _ hne).trans h1, h2.stay eq⟩

theorem own_lt {w : World} {base e size : Nat} {v : Value} {n : Nat} {xs : List Value} (h : w.ownsRow base e size v n xs) {g : Nat} (hg : v.ownBlock = some g) : base ≤ g ∧ ∃ c, w.heap[g]? = some (.cells c e (0, 0)) := by
  rcases h.2 with ⟨rfl, _⟩ | ⟨g', cap, cur, rfl, h2, h3, _⟩
  · cases hg
  · injection hg with hg
    subst hg
    exact ⟨h2, cur, h3⟩
/-- Behind the append and the store. -/
theorem TX.app {w1 : World} (h : TX w X BK BS al SB A N) {v : Value} (ho : w1.ownsRow (X + 1) 70 3 v (N + 1) (wl SB A N ++ [.string k.1, .int .u8 (k.2 : Int), kvS SB s])) (hg : w.grownBy w1 al.ownBlock) :
    TX (w1.setCell ⟨X, 2, none⟩ v) X BK BS v SB (addW A N (k, s)) (N + 1) := by
  have lX : X < w.heap.size := World.block_lt_of_cell? _ _ h.c0
  have nX : some X ≠ al.ownBlock := fun e => by have := (own_lt h.own e.symm).1; omega
  have hX := hg.block X lX nX
  obtain ⟨c, t, e⟩ := h.bX
  refine ⟨(World.cell?_setCell_other _ _ _ _ (by intro h; injection h; omega)).trans ((cellB hX 0).trans h.c0), (World.cell?_setCell_other _ _ _ _ (by intro h; injection h; omega)).trans ((cellB hX 1).trans h.c1), World.cell?_setCell_same _ _ _ ((cellB hX 2).trans h.c2), blk_set ⟨c, t, hX.trans e⟩ X 2 v, ?_⟩
  rw [wl_add]
  refine ⟨ho.1, ?_⟩
  rcases ho.2 with h2 | ⟨g, cap, cur, h1, h2, h3, h4⟩
  · exact .inl h2
  · exact .inr ⟨g, cap, cur, h1, h2, (Below.heap_setCell _ _ _ _ (by show g ≠ X; omega)).trans h3, h4⟩
theorem TX.keepM {w1 : World} (h : TX w X BK BS al SB A N) (v : Value) (hg : w.grownBy w1 al.ownBlock) : KeepM w (w1.setCell ⟨X, 2, none⟩ v) := fun j es c hj => by
  have lj : j < w.heap.size := by
    rcases Array.getElem?_eq_some_iff.1 hj with ⟨h, _⟩
    exact h
  have nX : j ≠ X := fun e => by
    obtain ⟨c', t, e'⟩ := h.bX
    rw [e, e'] at hj
    cases hj
  have ng : some j ≠ al.ownBlock := fun e => by
    obtain ⟨_, c', e'⟩ := own_lt h.own e.symm
    rw [e'] at hj
    cases hj
  rw [Below.heap_setCell _ _ _ _ nX, hg.block j lj ng]
  exact hj

/-- The table, whole. -/
theorem Tbl.of (hK : TK w b1 BK SB IK ρ A N) (hS : TS w b1 BS SB JS ρ A N) (hX : TX w X BK BS al SB A N) (hi : Inj A N) (zX : b1 ≤ X) (zK : b1 ≤ BK) (zS : b1 ≤ BS) (hN : N ≤ 4096) (hX0 : 0 < X) :
    ∃ AB, Tbl w b1 w.heap.size X BK BS AB SB IK JS ρ A N ∧ (0 < N → X < AB ∧ al.ownBlock = some AB) ∧ (N = 0 → AB = 0) := by
  have lX : X < w.heap.size := World.block_lt_of_cell? _ _ hX.c0
  have lK : BK < w.heap.size := by obtain ⟨l, c, h, _⟩ := hK.mK; exact IsMap.lt h
  have lS : BS < w.heap.size := by obtain ⟨l, c, h, _⟩ := hS.mS; exact IsMap.lt h
  have base : ∀ AB, (∃ ao cap, w.cell? ⟨X, 2, none⟩ = some (.slice ao N cap) ∧ N ≤ cap ∧ (0 < N → ao = some ⟨AB, 0, none⟩)) → (∀ i, i < N → w.cell? ⟨AB, i * 3, none⟩ = some (.string (A i).1.1) ∧ w.cell? ⟨AB, i * 3 + 1, none⟩ = some (.int .u8 ((A i).1.2 : Int)) ∧ w.cell? ⟨AB, i * 3 + 2, none⟩ = some (kvS SB (A i).2)) → (∀ j, 0 < N → w.frozen? ⟨AB, j, none⟩ = false) → X ≠ AB → (0 < N → b1 ≤ AB ∧ AB < w.heap.size) → Tbl w b1 w.heap.size X BK BS AB SB IK JS ρ A N := fun AB h1 h2 h3 h4 h5 =>
    ⟨hX.c0, hX.c1, h1, fz hX.bX 2, hi, h2, h3, hK.mK, fun i hi => hK.mI _ ⟨i, hi, rfl⟩, hS.mS, fun i hi => hS.mJ _ ⟨i, hi, rfl⟩, hK.rK, hS.rS, fun i hi => hK.rI _ ⟨i, hi, rfl⟩, fun i hi => hS.rJ _ ⟨i, hi, rfl⟩, h4, ⟨zX, lX⟩, ⟨zK, lK⟩, ⟨zS, lS⟩, h5, fun i hi => ⟨hK.zI _ ⟨i, hi, rfl⟩, by obtain ⟨l, c, h, _⟩ := hK.mI _ ⟨i, hi, rfl⟩; exact IsMap.lt h⟩, fun i hi => ⟨hS.zJ _ ⟨i, hi, rfl⟩, by obtain ⟨l, c, h, _⟩ := hS.mJ _ ⟨i, hi, rfl⟩; exact IsMap.lt h⟩, hN⟩
  rcases hX.own.2 with ⟨rfl, h0⟩ | ⟨g, cap, cur, rfl, h2, h3, h4, h5, h6, h7⟩
  · refine ⟨0, base _ ⟨none, 0, by rw [hX.c2, h0], by omega, fun h => by omega⟩ (fun i hi => by omega) (fun j h => by omega) (by omega) (fun h => by omega), fun h => by omega, fun _ => rfl⟩
  · by_cases h0 : N = 0
    · exact ⟨0, base _ ⟨_, cap, hX.c2, h4, fun h => by omega⟩ (fun i hi => by omega) (fun j h => by omega) (by omega) (fun h => by omega), fun h => by omega, fun _ => rfl⟩
    have rd : ∀ j u, j < N * 3 → (wl SB A N)[j]? = some u → w.cell? ⟨g, j, none⟩ = some u := fun j u hj hu => by
      rw [← h7, List.getElem?_take_of_lt hj] at hu
      rw [cell_of_row w g j cur 70 (0, 0) h3]
      simpa using hu
    refine ⟨g, base _ ⟨_, cap, hX.c2, h4, fun _ => rfl⟩ (fun i hi => ?_) (fun j _ => fz ⟨cur, 70, h3⟩ j) (by omega) (fun _ => ⟨by omega, by rcases Array.getElem?_eq_some_iff.1 h3 with ⟨h, _⟩; exact h⟩), fun _ => ⟨by omega, rfl⟩, fun h => absurd h h0⟩
    obtain ⟨a1, a2, a3⟩ := wl_at SB A hi
    exact ⟨rd _ _ (by omega) a1, rd _ _ (by omega) a2, rd _ _ (by omega) a3⟩
end

/-- The cells of the law's own list. -/
def ll (A : Nat → Wt) : Nat → List Value
  | 0 => []
  | N + 1 => ll A N ++ [.string (A N).1.1, .int .u8 ((A N).1.2 : Int), .int .i64 ((A N).2.val : Int)]
theorem ll_len (A : Nat → Wt) : ∀ N, (ll A N).length = N * 3
  | 0 => rfl
  | N + 1 => by rw [ll, List.length_append, ll_len A N]; simp; omega
theorem ll_congr {A A' : Nat → Wt} : ∀ {N}, (∀ i, i < N → A i = A' i) → ll A N = ll A' N
  | 0, _ => rfl
  | N + 1, h => by rw [ll, ll, ll_congr (N := N) fun i hi => h i (by omega), h N (by omega)]
theorem ll_add (A : Nat → Wt) (N : Nat) (k : Key) (s : Fin 4) : ll (addW A N (k, s)) (N + 1) = ll A N ++ [.string k.1, .int .u8 (k.2 : Int), .int .i64 (s.val : Int)] := by
  rw [ll, ll_congr (A := addW A N (k, s)) (A' := A) fun i hi => addW_lt hi, addW_at]
theorem ll_at (A : Nat → Wt) : ∀ {N i}, i < N → (ll A N)[i * 3]? = some (.string (A i).1.1) ∧ (ll A N)[i * 3 + 1]? = some (.int .u8 ((A i).1.2 : Int)) ∧ (ll A N)[i * 3 + 2]? = some (.int .i64 ((A i).2.val : Int))
  | N + 1, i, h => by
    have hl := ll_len A N
    rw [ll]
    by_cases e : i = N
    · subst e
      refine ⟨?_, ?_, ?_⟩
      · rw [List.getElem?_append_right (by omega), hl, Nat.sub_self]; rfl
      · rw [List.getElem?_append_right (by omega), hl, show i * 3 + 1 - i * 3 = 1 by omega]; rfl
      · rw [List.getElem?_append_right (by omega), hl, show i * 3 + 2 - i * 3 = 2 by omega]; rfl
    · have ih := ll_at A (N := N) (i := i) (by omega)
      refine ⟨?_, ?_, ?_⟩
      · rw [List.getElem?_append_left (by omega)]; exact ih.1
      · rw [List.getElem?_append_left (by omega)]; exact ih.2.1
      · rw [List.getElem?_append_left (by omega)]; exact ih.2.2
end Go.Proofs.YbulkcrxoDoor.F
