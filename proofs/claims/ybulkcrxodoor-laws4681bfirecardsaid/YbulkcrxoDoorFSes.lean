/-
  LawS4681AFires, LawS4681BFire: the sessions while the law makes them.
-/
import Derived.Test.YbulkcrxoDoorFBt
import Derived.Deep.DeepCutAuto
import Derived.Deep.CutBlock
set_option linter.unusedVariables false
namespace Go.Proofs.YbulkcrxoDoor.F
open Go.RowKit Go.Any
open Go.ChangeMaps (setBlock)

/-- i sessions are made. -/
structure P1 (w wr : World) (hi SA CA i : Nat) (SB : Fin 4 → Nat) (CB : Fin 4 → Option (Nat × Bool)) : Prop where
  bel : Below hi w wr
  sa : ∀ j : Fin 4, j.val < i → wr.cell? ⟨SA, j.val, none⟩ = some (.pointer (some ⟨SB j, 0, none⟩))
  ca : ∀ j : Fin 4, j.val < i → wr.cell? ⟨CA, j.val, none⟩ = some (.pointer ((CB j).map fun x => ⟨x.1, 0, none⟩))
  c0 : ∀ j : Fin 4, i ≤ j.val → wr.cell? ⟨CA, j.val, none⟩ = some (.pointer none)
  ts : ∀ j : Fin 4, (wr.cell? ⟨SA, j.val, none⟩).isSome = true
  bs : ∃ c t, wr.heap[SA]? = some (.cells c t (0, 0))
  bc : ∃ c t, wr.heap[CA]? = some (.cells c t (0, 0))
  got : ∀ j : Fin 4, j.val < i → ∀ lo fr len, Got wr lo (SB j) fr len (CB j) false
  ls : ∀ j : Fin 4, j.val < i → hi ≤ SB j ∧ SB j < wr.heap.size ∧ SB j ≠ SA ∧ SB j ≠ CA
  lc : ∀ (j : Fin 4) C cl, j.val < i → CB j = some (C, cl) → hi ≤ C ∧ C < wr.heap.size ∧ C ≠ SA ∧ C ≠ CA
  ss : ∀ j k : Fin 4, j.val < i → k.val < i → SB j = SB k → j = k
  sc : ∀ (j k : Fin 4) C cl, j.val < i → k.val < i → CB k = some (C, cl) → SB j ≠ C
  cc : ∀ (j k : Fin 4) C cl cl', j.val < i → k.val < i → CB j = some (C, cl) → CB k = some (C, cl') → j = k
  lS : SA < wr.heap.size
  lC : CA < wr.heap.size
  hS : hi ≤ SA
  hC : hi ≤ CA
  ne : SA ≠ CA

theorem Got.free {w : World} {lo lo' S : Nat} {fr fr' : Value} {len len' : Int} {c : Option (Nat × Bool)} (h : Got w lo S fr len c false) : Got w lo' S fr' len' c false := by
  match c, h with
  | none, h => exact h
  | some (C, true), h => exact h
  | some (C, false), h => exact h

theorem P1.next {w wr wn : World} {hi SA CA i : Nat} {SB : Fin 4 → Nat} {CB : Fin 4 → Option (Nat × Bool)} (Q : P1 w wr hi SA CA i SB CB) (hlt : i < 4) (c : Option (Nat × Bool)) (ho : wn.os = wr.os ∧ wn.tape = wr.tape ∧ wn.output = wr.output) (hs : wr.heap.size < wn.heap.size)
    (hb : ∀ j, j < wr.heap.size → j ≠ SA → j ≠ CA → wn.heap[j]? = wr.heap[j]?) (hSi : wn.cell? ⟨SA, i, none⟩ = some (.pointer (some ⟨wr.heap.size, 0, none⟩))) (hSo : ∀ j, j ≠ i → wn.cell? ⟨SA, j, none⟩ = wr.cell? ⟨SA, j, none⟩)
    (hCi : wn.cell? ⟨CA, i, none⟩ = some (.pointer (c.map fun x => ⟨x.1, 0, none⟩))) (hCo : ∀ j, j ≠ i → wn.cell? ⟨CA, j, none⟩ = wr.cell? ⟨CA, j, none⟩) (bs : ∃ c t, wn.heap[SA]? = some (.cells c t (0, 0))) (bc : ∃ c t, wn.heap[CA]? = some (.cells c t (0, 0)))
    (hg : ∀ lo fr len, Got wn lo wr.heap.size fr len c false) (hc : ∀ C cl, c = some (C, cl) → C = wr.heap.size + 1 ∧ C < wn.heap.size) :
    P1 w wn hi SA CA (i + 1) (fun j => if j.val = i then wr.heap.size else SB j) (fun j => if j.val = i then c else CB j) := by
  have hS := Q.lS
  have hC := Q.lC
  have hhS := Q.hS
  have hhC := Q.hC
  refine ⟨Q.bel.trans ⟨ho.1, ho.2.1, ho.2.2, by omega, fun j hj => hb j (by omega) (by omega) (by omega)⟩, fun j hj => ?_, fun j hj => ?_, fun j hj => ?_, fun j => ?_, bs, bc, fun j hj lo fr len => ?_, fun j hj => ?_, fun j C cl hj h => ?_, fun j k hj hk h => ?_, fun j k C cl hj hk h => ?_, fun j k C cl cl' hj hk h h' => ?_, by omega, by omega, hhS, hhC, Q.ne⟩
  · by_cases e : j.val = i
    · simp only [if_pos e]; rw [e]; exact hSi
    · simp only [if_neg e]; rw [hSo _ e]; exact Q.sa j (by omega)
  · by_cases e : j.val = i
    · simp only [if_pos e]; rw [e]; exact hCi
    · simp only [if_neg e]; rw [hCo _ e]; exact Q.ca j (by omega)
  · rw [hCo _ (by omega)]; exact Q.c0 j (by omega)
  · by_cases e : j.val = i
    · rw [e, hSi]; rfl
    · rw [hSo _ e]; exact Q.ts j
  · by_cases e : j.val = i
    · simp only [if_pos e]; exact hg lo fr len
    · simp only [if_neg e]
      have ls := Q.ls j (by omega)
      exact ((Q.got j (by omega) wr.heap.size fr len).keep (hb _ ls.2.1 ls.2.2.1 ls.2.2.2) (fun C cl h => by
        have lc := Q.lc j C cl (by omega) h
        exact hb _ lc.2.1 lc.2.2.1 lc.2.2.2) (fun g h1 h2 => by omega)).free
  · by_cases e : j.val = i
    · simp only [if_pos e]; exact ⟨by have := Q.bel.size; omega, hs, by omega, by omega⟩
    · simp only [if_neg e]
      have ls := Q.ls j (by omega)
      exact ⟨ls.1, by omega, ls.2.2⟩
  · by_cases e : j.val = i
    · simp only [if_pos e] at h
      have := hc C cl h
      exact ⟨by omega, this.2, by omega, by omega⟩
    · simp only [if_neg e] at h
      have lc := Q.lc j C cl (by omega) h
      exact ⟨lc.1, by omega, lc.2.2⟩
  · by_cases e : j.val = i <;> by_cases e' : k.val = i
    · exact Fin.ext (by omega)
    · simp only [if_pos e, if_neg e'] at h
      have := Q.ls k (by omega)
      omega
    · simp only [if_neg e, if_pos e'] at h
      have := Q.ls j (by omega)
      omega
    · simp only [if_neg e, if_neg e'] at h
      exact Q.ss j k (by omega) (by omega) h
  · by_cases e : j.val = i <;> by_cases e' : k.val = i
    · simp only [if_pos e', if_pos e] at h ⊢
      have := hc C cl h
      omega
    · simp only [if_neg e', if_pos e] at h ⊢
      have := Q.lc k C cl (by omega) h
      omega
    · simp only [if_pos e', if_neg e] at h ⊢
      have := hc C cl h
      have := Q.ls j (by omega)
      omega
    · simp only [if_neg e', if_neg e] at h ⊢
      exact Q.sc j k C cl (by omega) (by omega) h
  · by_cases e : j.val = i <;> by_cases e' : k.val = i
    · exact Fin.ext (by omega)
    · simp only [if_pos e] at h
      simp only [if_neg e'] at h'
      have := hc C cl h
      have := Q.lc k C cl' (by omega) h'
      omega
    · simp only [if_neg e] at h
      simp only [if_pos e'] at h'
      have := hc C cl' h'
      have := Q.lc j C cl (by omega) h
      omega
    · simp only [if_neg e] at h
      simp only [if_neg e'] at h'
      exact Q.cc j k C cl cl' (by omega) (by omega) h h'

def sCells (i : Int) (c : Value) : Array Value := #[.int .i64 i, .int .u8 0, .int .u8 0, .int .u8 0, .int .u8 0, .int .u8 0, .int .u8 0, .int .u8 0, .int .u8 0, .int .u8 0, .int .u8 0, .int .u8 0, .int .u8 0, .int .u8 0, .int .u8 0, .int .u8 0, .int .u8 0, .int .i32 0, c, .slice none 0 0, .int .i64 0]
def cCells (cl : Bool) : Array Value := #[.nilIface, .string ⟨#[]⟩, .int .i64 0, .int .i32 0, .int .u32 0, .nilIface, .int .u32 0, .int .u32 0, .int .u64 0, .pointer none, .pointer none, .int .u64 0, .slice none 0 0, .int .i64 0, .bool cl]

theorem step0 {w wr : World} {hi SA CA i : Nat} {SB : Fin 4 → Nat} {CB : Fin 4 → Option (Nat × Bool)} (Q : P1 w wr hi SA CA i SB CB) (hlt : i < 4) :
    P1 w ((wr.setCell ⟨SA, i, none⟩ (.pointer (some ⟨wr.heap.size, 0, none⟩))).alloc (.cells (sCells ((i : Int) + 1) (.pointer none)) 32)) hi SA CA (i + 1) (fun j => if j.val = i then wr.heap.size else SB j) (fun j => if j.val = i then none else CB j) := by
  have hS := Q.lS
  have hC := Q.lC
  have e : (wr.setCell ⟨SA, i, none⟩ (.pointer (some ⟨wr.heap.size, 0, none⟩))).heap.size = wr.heap.size := by simp
  have ob : ∀ j, j < wr.heap.size → ((wr.setCell ⟨SA, i, none⟩ (.pointer (some ⟨wr.heap.size, 0, none⟩))).alloc (.cells (sCells ((i : Int) + 1) (.pointer none)) 32)).heap[j]? = (wr.setCell ⟨SA, i, none⟩ (.pointer (some ⟨wr.heap.size, 0, none⟩))).heap[j]? := fun j hj => Below.heap_alloc _ _ j (by rw [e]; exact hj)
  have nb : ((wr.setCell ⟨SA, i, none⟩ (.pointer (some ⟨wr.heap.size, 0, none⟩))).alloc (.cells (sCells ((i : Int) + 1) (.pointer none)) 32)).heap[wr.heap.size]? = some (.cells (sCells ((i : Int) + 1) (.pointer none)) 32 (0, 0)) := by
    have := heap_alloc_new (wr.setCell ⟨SA, i, none⟩ (.pointer (some ⟨wr.heap.size, 0, none⟩))) (.cells (sCells ((i : Int) + 1) (.pointer none)) 32)
    rw [e] at this
    exact this
  obtain ⟨us, gs⟩ := Option.isSome_iff_exists.1 (Q.ts ⟨i, hlt⟩)
  refine Q.next hlt none ⟨rfl, rfl, rfl⟩ (by simp) (fun j h1 h2 h3 => (ob j h1).trans (Below.heap_setCell _ _ _ _ h2)) ((cellB (ob SA hS) i).trans (World.cell?_setCell_same _ _ _ gs)) (fun j hj => (cellB (ob SA hS) j).trans (World.cell?_setCell_other _ _ _ _ (by intro h; injection h; omega))) ((cellB (ob CA hC) i).trans ((cellB (Below.heap_setCell _ _ _ _ (Ne.symm Q.ne)) i).trans (Q.c0 ⟨i, hlt⟩ (Nat.le_refl _)))) (fun j hj => (cellB (ob CA hC) j).trans (cellB (Below.heap_setCell _ _ _ _ (Ne.symm Q.ne)) j)) ?_ ?_ (fun lo fr len => ?_) (fun C cl h => by cases h)
  · obtain ⟨c, t, h⟩ := blk_set Q.bs SA i (.pointer (some ⟨wr.heap.size, 0, none⟩))
    exact ⟨c, t, (ob SA hS).trans h⟩
  · obtain ⟨c, t, h⟩ := blk_set Q.bc SA i (.pointer (some ⟨wr.heap.size, 0, none⟩))
    exact ⟨c, t, (ob CA hC).trans h⟩
  · exact ⟨⟨_, _, nb⟩, by simp only [World.cell?, nb]; rfl, by simp only [World.cell?, nb]; rfl⟩

theorem step1 {w wr : World} {hi SA CA i : Nat} {SB : Fin 4 → Nat} {CB : Fin 4 → Option (Nat × Bool)} (Q : P1 w wr hi SA CA i SB CB) (hlt : i < 4) (cl : Bool) :
    P1 w ((((wr.setCell ⟨SA, i, none⟩ (.pointer (some ⟨wr.heap.size, 0, none⟩))).setCell ⟨CA, i, none⟩ (.pointer (some ⟨wr.heap.size + 1, 0, none⟩))).alloc (.cells (sCells ((i : Int) + 1) (.pointer (some ⟨wr.heap.size + 1, 0, none⟩))) 32)).alloc (.cells (cCells cl) 52)) hi SA CA (i + 1) (fun j => if j.val = i then wr.heap.size else SB j) (fun j => if j.val = i then some (wr.heap.size + 1, cl) else CB j) := by
  have hS := Q.lS
  have hC := Q.lC
  have nSC := Q.ne
  obtain ⟨us, gs⟩ := Option.isSome_iff_exists.1 (Q.ts ⟨i, hlt⟩)
  have gc := Q.c0 ⟨i, hlt⟩ (Nat.le_refl _)
  have sA : (wr.setCell ⟨SA, i, none⟩ (.pointer (some ⟨wr.heap.size, 0, none⟩))).cell? ⟨SA, i, none⟩ = some (.pointer (some ⟨wr.heap.size, 0, none⟩)) := World.cell?_setCell_same _ _ _ gs
  have cA : (wr.setCell ⟨SA, i, none⟩ (.pointer (some ⟨wr.heap.size, 0, none⟩))).cell? ⟨CA, i, none⟩ = some (.pointer none) := (cellB (Below.heap_setCell _ _ _ _ (Ne.symm nSC)) i).trans gc
  have bS := blk_set (blk_set Q.bs SA i (.pointer (some ⟨wr.heap.size, 0, none⟩))) CA i (.pointer (some ⟨wr.heap.size + 1, 0, none⟩))
  have bC := blk_set (blk_set Q.bc SA i (.pointer (some ⟨wr.heap.size, 0, none⟩))) CA i (.pointer (some ⟨wr.heap.size + 1, 0, none⟩))
  have b2 : ∀ j, j ≠ SA → j ≠ CA → ((wr.setCell ⟨SA, i, none⟩ (.pointer (some ⟨wr.heap.size, 0, none⟩))).setCell ⟨CA, i, none⟩ (.pointer (some ⟨wr.heap.size + 1, 0, none⟩))).heap[j]? = wr.heap[j]? := fun j h1 h2 => (Below.heap_setCell _ _ _ _ h2).trans (Below.heap_setCell _ _ _ _ h1)
  have sA2 : ((wr.setCell ⟨SA, i, none⟩ (.pointer (some ⟨wr.heap.size, 0, none⟩))).setCell ⟨CA, i, none⟩ (.pointer (some ⟨wr.heap.size + 1, 0, none⟩))).cell? ⟨SA, i, none⟩ = some (.pointer (some ⟨wr.heap.size, 0, none⟩)) := (cellB (Below.heap_setCell _ _ _ _ nSC) i).trans sA
  have sAo : ∀ j, j ≠ i → ((wr.setCell ⟨SA, i, none⟩ (.pointer (some ⟨wr.heap.size, 0, none⟩))).setCell ⟨CA, i, none⟩ (.pointer (some ⟨wr.heap.size + 1, 0, none⟩))).cell? ⟨SA, j, none⟩ = wr.cell? ⟨SA, j, none⟩ := fun j hj => (cellB (Below.heap_setCell _ _ _ _ nSC) j).trans (World.cell?_setCell_other _ _ _ _ (by intro h; injection h; omega))
  have cA2 : ((wr.setCell ⟨SA, i, none⟩ (.pointer (some ⟨wr.heap.size, 0, none⟩))).setCell ⟨CA, i, none⟩ (.pointer (some ⟨wr.heap.size + 1, 0, none⟩))).cell? ⟨CA, i, none⟩ = some (.pointer (some ⟨wr.heap.size + 1, 0, none⟩)) := World.cell?_setCell_same _ _ _ cA
  have cAo : ∀ j, j ≠ i → ((wr.setCell ⟨SA, i, none⟩ (.pointer (some ⟨wr.heap.size, 0, none⟩))).setCell ⟨CA, i, none⟩ (.pointer (some ⟨wr.heap.size + 1, 0, none⟩))).cell? ⟨CA, j, none⟩ = wr.cell? ⟨CA, j, none⟩ := fun j hj => (World.cell?_setCell_other _ _ _ _ (by intro h; injection h; omega)).trans (cellB (Below.heap_setCell _ _ _ _ (Ne.symm nSC)) j)
  have sz : ((wr.setCell ⟨SA, i, none⟩ (.pointer (some ⟨wr.heap.size, 0, none⟩))).setCell ⟨CA, i, none⟩ (.pointer (some ⟨wr.heap.size + 1, 0, none⟩))).heap.size = wr.heap.size := by simp
  have oo : ((wr.setCell ⟨SA, i, none⟩ (.pointer (some ⟨wr.heap.size, 0, none⟩))).setCell ⟨CA, i, none⟩ (.pointer (some ⟨wr.heap.size + 1, 0, none⟩))).os = wr.os ∧ ((wr.setCell ⟨SA, i, none⟩ (.pointer (some ⟨wr.heap.size, 0, none⟩))).setCell ⟨CA, i, none⟩ (.pointer (some ⟨wr.heap.size + 1, 0, none⟩))).tape = wr.tape ∧ ((wr.setCell ⟨SA, i, none⟩ (.pointer (some ⟨wr.heap.size, 0, none⟩))).setCell ⟨CA, i, none⟩ (.pointer (some ⟨wr.heap.size + 1, 0, none⟩))).output = wr.output := ⟨rfl, rfl, rfl⟩
  generalize (wr.setCell ⟨SA, i, none⟩ (.pointer (some ⟨wr.heap.size, 0, none⟩))).setCell ⟨CA, i, none⟩ (.pointer (some ⟨wr.heap.size + 1, 0, none⟩)) = w3 at bS bC b2 sA2 sAo cA2 cAo sz oo ⊢
  have e1 : (w3.alloc (.cells (sCells ((i : Int) + 1) (.pointer (some ⟨wr.heap.size + 1, 0, none⟩))) 32)).heap.size = wr.heap.size + 1 := by simp [sz]
  have ob : ∀ j, j < wr.heap.size → ((w3.alloc (.cells (sCells ((i : Int) + 1) (.pointer (some ⟨wr.heap.size + 1, 0, none⟩))) 32)).alloc (.cells (cCells cl) 52)).heap[j]? = w3.heap[j]? := fun j hj => (Below.heap_alloc _ _ j (by rw [e1]; omega)).trans (Below.heap_alloc _ _ j (by rw [sz]; exact hj))
  have nb : ((w3.alloc (.cells (sCells ((i : Int) + 1) (.pointer (some ⟨wr.heap.size + 1, 0, none⟩))) 32)).alloc (.cells (cCells cl) 52)).heap[wr.heap.size]? = some (.cells (sCells ((i : Int) + 1) (.pointer (some ⟨wr.heap.size + 1, 0, none⟩))) 32 (0, 0)) := by
    rw [Below.heap_alloc _ _ _ (by rw [e1]; omega)]
    have := heap_alloc_new w3 (.cells (sCells ((i : Int) + 1) (.pointer (some ⟨wr.heap.size + 1, 0, none⟩))) 32)
    rw [sz] at this
    exact this
  have nc : ((w3.alloc (.cells (sCells ((i : Int) + 1) (.pointer (some ⟨wr.heap.size + 1, 0, none⟩))) 32)).alloc (.cells (cCells cl) 52)).heap[wr.heap.size + 1]? = some (.cells (cCells cl) 52 (0, 0)) := by
    have := heap_alloc_new (w3.alloc (.cells (sCells ((i : Int) + 1) (.pointer (some ⟨wr.heap.size + 1, 0, none⟩))) 32)) (.cells (cCells cl) 52)
    rw [e1] at this
    exact this
  have sz2 : ((w3.alloc (.cells (sCells ((i : Int) + 1) (.pointer (some ⟨wr.heap.size + 1, 0, none⟩))) 32)).alloc (.cells (cCells cl) 52)).heap.size = wr.heap.size + 2 := by simp [sz]
  refine Q.next hlt (some (wr.heap.size + 1, cl)) oo (by omega) (fun j h1 h2 h3 => (ob j h1).trans (b2 j h2 h3)) ((cellB (ob SA hS) i).trans sA2) (fun j hj => (cellB (ob SA hS) j).trans (sAo j hj)) ((cellB (ob CA hC) i).trans cA2) (fun j hj => (cellB (ob CA hC) j).trans (cAo j hj)) ?_ ?_ (fun lo fr len => ?_) (fun C cl' h => ?_)
  · obtain ⟨c, t, h⟩ := bS
    exact ⟨c, t, (ob SA hS).trans h⟩
  · obtain ⟨c, t, h⟩ := bC
    exact ⟨c, t, (ob CA hC).trans h⟩
  · have se : Se ((w3.alloc (.cells (sCells ((i : Int) + 1) (.pointer (some ⟨wr.heap.size + 1, 0, none⟩))) 32)).alloc (.cells (cCells cl) 52)) wr.heap.size (some (wr.heap.size + 1)) (.slice none 0 0) := ⟨⟨_, _, nb⟩, by simp only [World.cell?, nb]; rfl, by simp only [World.cell?, nb]; rfl⟩
    have cn : Cn ((w3.alloc (.cells (sCells ((i : Int) + 1) (.pointer (some ⟨wr.heap.size + 1, 0, none⟩))) 32)).alloc (.cells (cCells cl) 52)) (wr.heap.size + 1) cl (.slice none 0 0) 0 := ⟨⟨_, _, nc⟩, by simp only [World.cell?, nc]; rfl, by simp only [World.cell?, nc]; rfl, by simp only [World.cell?, nc]; rfl, .inl (by simp only [World.cell?, nc]; rfl), by simp only [World.cell?, nc]; rfl, by simp only [World.cell?, nc]; rfl, by simp only [World.cell?, nc]; rfl⟩
    cases cl
    · exact ⟨se, cn⟩
    · exact ⟨se, cn⟩
  · injection h with h
    injection h with h1 h2
    exact ⟨h1.symm, by omega⟩
end Go.Proofs.YbulkcrxoDoor.F
