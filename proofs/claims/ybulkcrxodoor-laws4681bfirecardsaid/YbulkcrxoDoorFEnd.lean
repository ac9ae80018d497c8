/-
  LawS4681AFires, LawS4681BFire: the table behind 'remove', out of what lies in memory then.
-/
import Derived.Test.YbulkcrxoDoorFMem
set_option linter.unusedVariables false
namespace Go.Proofs.YbulkcrxoDoor.F
open Go.RowKit

/-- Blocks of cells other than X and AB are as they were. -/
def Alien (X AB : Nat) (w w' : World) : Prop := ∀ j c t f, j ≠ X → j ≠ AB → w.heap[j]? = some (.cells c t f) → w'.heap[j]? = some (.cells c t f)
theorem Alien.refl (X AB : Nat) (w : World) : Alien X AB w w := fun _ _ _ _ _ _ h => h
theorem Alien.trans {X AB : Nat} {a b c : World} (h : Alien X AB a b) (k : Alien X AB b c) : Alien X AB a c := fun j x t f h1 h2 h3 => k j x t f h1 h2 (h j x t f h1 h2 h3)
theorem Alien.of_below {X AB : Nat} {a b : World} (h : Below a.heap.size a b) : Alien X AB a b := fun j c t f _ _ e => by
  have hlt : j < a.heap.size := by
    rcases Array.getElem?_eq_some_iff.1 e with ⟨h, _⟩
    exact h
  exact (h.block j hlt).trans e
theorem map_cells {κ : Type} [DecidableEq κ] {kv : κ → Value} {w : World} {b j : Nat} {l : List (RM.Ent κ)} {c : Nat} {x : Array Value} {t : TypeId} {f : Nat × Nat} (h : RM.IsMap kv w b l c) (k : w.heap[j]? = some (.cells x t f)) : j ≠ b := by
  intro e
  subst e
  unfold RM.IsMap at h
  rw [h] at k
  cases k
theorem Alien.setMap {κ : Type} [DecidableEq κ] {kv : κ → Value} {X AB b c : Nat} {a w : World} {l : List (RM.Ent κ)} (h : Alien X AB a w) (hm : RM.IsMap kv w b l c) (o : Obj) : Alien X AB a (Go.ChangeMaps.setBlock w b o) := fun j x t f h1 h2 h3 => by
  have := h j x t f h1 h2 h3
  exact (RM.heap_set_other _ (map_cells hm this)).trans this
theorem remove_alien {b1 b2 X BK BS AB : Nat} {SB : Fin 4 → Nat} {IK : Key → Nat} {JS : Fin 4 → Nat} {ρ : Nat → Role} {A : Nat → Wt} {M i0 : Nat} {k k' : Key} {s s' : Fin 4} {w2 w' : World} (T : Tbl w2 b1 b2 X BK BS AB SB IK JS ρ A (M + 1)) (hi : i0 < M + 1) (hA : A i0 = (k, s)) (hl : A M = (k', s'))
    (G : ∀ j, j ≠ AB → j ≠ X → j ≠ IK k' → j ≠ IK k → j ≠ BK → j ≠ JS s → j ≠ BS → w'.heap[j]? = w2.heap[j]?) : Alien X AB w2 w' := fun j x t f h1 h2 h3 => by
  obtain ⟨_, _, m1, _⟩ := T.mI i0 hi
  obtain ⟨_, _, m2, _⟩ := T.mI M (by omega)
  obtain ⟨_, _, m3, _⟩ := T.mK
  obtain ⟨_, _, m4, _⟩ := T.mS
  obtain ⟨_, _, m5, _⟩ := T.mJ i0 hi
  rw [hA] at m1 m5
  rw [hl] at m2
  exact (G j h2 h1 (map_cells m2 h3) (map_cells m1 h3) (map_cells m3 h3) (map_cells m5 h3) (map_cells m4 h3)).trans h3

theorem remove_end {b1 b2 X BK BS AB cap : Nat} {SB : Fin 4 → Nat} {IK : Key → Nat} {JS : Fin 4 → Nat} {ρ : Nat → Role} {A : Nat → Wt} {M i0 : Nat} {k k' : Key} {s s' : Fin 4} {w2 w' : World} {lD lL : List (RM.Ent (Fin 4))} {lJ : List (RM.Ent Key)} {cI cL cJ : Nat}
    (T : Tbl w2 b1 b2 X BK BS AB SB IK JS ρ A (M + 1)) (hi : i0 < M + 1) (hA : A i0 = (k, s)) (hl : A M = (k', s'))
    (g0 : w'.cell? ⟨X, 0, none⟩ = some (.map (some BK))) (g1 : w'.cell? ⟨X, 1, none⟩ = some (.map (some BS))) (g2 : w'.cell? ⟨X, 2, none⟩ = some (.slice (some ⟨AB, 0, none⟩) M cap)) (hcap : M ≤ cap) (fX : w'.frozen? ⟨X, 2, none⟩ = false)
    (C : Ce w' AB SB (drop A (M + 1) i0) M) (Z : ∀ j, w'.frozen? ⟨AB, j, none⟩ = false)
    (MK : ∃ l c, RM.IsMap kvK w' BK l c ∧ KSpec (drop A (M + 1) i0) M IK l) (MS : ∃ l c, RM.IsMap (kvS SB) w' BS l c ∧ SSpec (drop A (M + 1) i0) M JS l)
    (MI : RM.IsMap (kvS SB) w' (IK k) lD cI ∧ ISpec (drop A (M + 1) i0) M k lD ∧ RM.Stamps lD cI)
    (ML : k ≠ k' → RM.IsMap (kvS SB) w' (IK k') (RM.ins lL s' (.int .i64 (i0 : Int)) cL) cL ∧ ISpec A (M + 1) k' lL ∧ RM.Stamps lL cL)
    (MJ : RM.IsMap kvK w' (JS s) lJ cJ ∧ JSpec (drop A (M + 1) i0) M s lJ)
    (G : ∀ j, j ≠ AB → j ≠ X → j ≠ IK k' → j ≠ IK k → j ≠ BK → j ≠ JS s → j ≠ BS → w'.heap[j]? = w2.heap[j]?) :
    Tbl w' b1 b2 X BK BS AB SB IK JS ρ (drop A (M + 1) i0) M := by
  have old : ∀ i, i < M → ∃ j, j < M + 1 ∧ A j = drop A (M + 1) i0 i := fun i hi' => ((drop_has T.inj hi _).1 ⟨i, hi', rfl⟩).2
  have rI' : ∀ i, i < M → ρ (IK (drop A (M + 1) i0 i).1) = .ik (drop A (M + 1) i0 i).1 := fun i hi' => by
    obtain ⟨j, hj, e⟩ := old i hi'
    rw [← e]; exact T.rI j hj
  have rJ' : ∀ i, i < M → ρ (JS (drop A (M + 1) i0 i).2) = .js (drop A (M + 1) i0 i).2 := fun i hi' => by
    obtain ⟨j, hj, e⟩ := old i hi'
    rw [← e]; exact T.rJ j hj
  have rk : ρ (IK k) = .ik k := by have := T.rI i0 hi; rw [hA] at this; exact this
  have rk' : ρ (IK k') = .ik k' := by have := T.rI M (by omega); rw [hl] at this; exact this
  have rs : ρ (JS s) = .js s := by have := T.rJ i0 hi; rw [hA] at this; exact this
  refine ⟨g0, g1, ⟨_, cap, g2, hcap, fun _ => rfl⟩, fX, drop_inj T.inj hi, C, fun j _ => Z j, MK, fun i hi' => ?_, MS, fun i hi' => ?_, T.rK, T.rS, rI', rJ', T.XA, T.zX, T.zK, T.zS, fun _ => T.zA (by omega), fun i hi' => ?_, fun i hi' => ?_, by have := T.bN; omega⟩
  · obtain ⟨j, hj, e⟩ := old i hi'
    have hr := rI' i hi'
    have hq : (A j).1 = (drop A (M + 1) i0 i).1 := by rw [e]
    generalize (drop A (M + 1) i0 i).1 = q at hr hq ⊢
    by_cases e1 : q = k
    · subst e1; exact ⟨_, _, MI⟩
    · by_cases e2 : q = k'
      · subst e2
        obtain ⟨m1, m2, m3⟩ := ML (Ne.symm e1)
        have gs' : RM.get lL s' = some (.int .i64 (M : Int)) := (m2.2 s' _).2 ⟨M, by omega, hl, rfl⟩
        refine ⟨_, _, m1, ?_, ?_⟩
        · have := m2.moved (i0 := i0) (c := cL) T.inj hi (by rw [hA]; exact e1) (by show _ = (A M).1; rw [hl])
          rw [show M + 1 - 1 = M from rfl, hl] at this
          exact this
        · have := RM.stamps_ins m3 s' (.int .i64 (i0 : Int))
          rwa [insC_some gs'] at this
      · obtain ⟨l, c, m1, m2, m3⟩ := T.mI j hj
        rw [hq] at m1 m2
        refine ⟨l, c, (G _ (map_ne m1 (T.ce M (by omega)).1) (map_ne m1 T.c0) (fun x => ?_) (fun x => ?_) (fun x => ?_) (fun x => ?_) (fun x => ?_)).trans m1, m2.other T.inj hi (by rw [hA]; exact e1) (by show _ ≠ (A M).1; rw [hl]; exact e2), m3⟩
        · rw [x, rk'] at hr; injection hr with hr; exact e2 hr.symm
        · rw [x, rk] at hr; injection hr with hr; exact e1 hr.symm
        · rw [x, T.rK] at hr; cases hr
        · rw [x, rs] at hr; cases hr
        · rw [x, T.rS] at hr; cases hr
  · obtain ⟨j, hj, e⟩ := old i hi'
    have hr := rJ' i hi'
    have hq : (A j).2 = (drop A (M + 1) i0 i).2 := by rw [e]
    generalize (drop A (M + 1) i0 i).2 = t at hr hq ⊢
    by_cases e1 : t = s
    · subst e1; exact ⟨_, _, MJ⟩
    · obtain ⟨l, c, m1, m2⟩ := T.mJ j hj
      rw [hq] at m1 m2
      refine ⟨l, c, (G _ (map_ne m1 (T.ce M (by omega)).1) (map_ne m1 T.c0) (fun x => ?_) (fun x => ?_) (fun x => ?_) (fun x => ?_) (fun x => ?_)).trans m1, m2.other T.inj hi (by rw [hA]; exact e1)⟩
      · rw [x, rk'] at hr; cases hr
      · rw [x, rk] at hr; cases hr
      · rw [x, T.rK] at hr; cases hr
      · rw [x, rs] at hr; injection hr with hr; exact e1 hr.symm
      · rw [x, T.rS] at hr; cases hr
  · obtain ⟨j, hj, e⟩ := old i hi'
    rw [← e]; exact T.zI j hj
  · obtain ⟨j, hj, e⟩ := old i hi'
    rw [← e]; exact T.zJ j hj
end Go.Proofs.YbulkcrxoDoor.F
