/-
  LawS4681BFire: the table while the law builds it; the sessions.
-/
import Derived.Test.YbulkcrxoDoorBFrm
import Derived.Test.YbulkcrxoDoorFLs
set_option linter.unusedVariables false
namespace Go.Proofs.YbulkcrxoDoor.F
open Go.RowKit Go.Any
open Go.ChangeMaps (setBlock)

theorem p1_start {w0 : World} {H : Nat} (hz0 : w0.heap.size = H) : P1 w0 ((w0.alloc (Obj.cells #[.pointer none, .pointer none, .pointer none, .pointer none] 26)).alloc (Obj.cells #[.pointer none, .pointer none, .pointer none, .pointer none] 28)) H H (H + 1) 0 (fun _ => 0) (fun _ => none) := by
  have es : (w0.alloc (Obj.cells #[.pointer none, .pointer none, .pointer none, .pointer none] 26)).heap.size = H + 1 := by simp [hz0]
  have b1 : ((w0.alloc (Obj.cells #[.pointer none, .pointer none, .pointer none, .pointer none] 26)).alloc (Obj.cells #[.pointer none, .pointer none, .pointer none, .pointer none] 28)).heap[H]? = some (.cells #[.pointer none, .pointer none, .pointer none, .pointer none] 26) := by
    rw [Below.heap_alloc _ _ _ (by rw [es]; omega), ← hz0]
    exact heap_alloc_new w0 _
  have b2 : ((w0.alloc (Obj.cells #[.pointer none, .pointer none, .pointer none, .pointer none] 26)).alloc (Obj.cells #[.pointer none, .pointer none, .pointer none, .pointer none] 28)).heap[H + 1]? = some (.cells #[.pointer none, .pointer none, .pointer none, .pointer none] 28) := by
    rw [← es]
    exact heap_alloc_new _ _
  have sz : ((w0.alloc (Obj.cells #[.pointer none, .pointer none, .pointer none, .pointer none] 26)).alloc (Obj.cells #[.pointer none, .pointer none, .pointer none, .pointer none] 28)).heap.size = H + 2 := by simp [hz0]
  refine ⟨by rw [← hz0]; exact ((Below.refl _ _).alloc (Nat.le_refl _) _).alloc (by simp) _, fun j hj => by omega, fun j hj => by omega, fun j _ => ?_, fun j => ?_, ⟨_, _, b1⟩, ⟨_, _, b2⟩, fun j hj => by omega, fun j hj => by omega, fun j C cl hj => by omega, fun j k hj => by omega, fun j k C cl hj => by omega, fun j k C cl cl' hj => by omega, by omega, by omega, by omega, by omega, by omega⟩
  · simp only [World.cell?, b2]
    match j with
    | 0 => rfl
    | 1 => rfl
    | 2 => rfl
    | 3 => rfl
  · simp only [World.cell?, b1]
    match j with
    | 0 => rfl
    | 1 => rfl
    | 2 => rfl
    | 3 => rfl
theorem P1.drew {w wr : World} {hi SA CA i : Nat} {SB : Fin 4 → Nat} {CB : Fin 4 → Option (Nat × Bool)} (Q : P1 w wr hi SA CA i SB CB) : P1 w wr.drew hi SA CA i SB CB :=
  ⟨⟨Q.bel.os, Q.bel.tape, Q.bel.output, Q.bel.size, Q.bel.block⟩, Q.sa, Q.ca, Q.c0, Q.ts, Q.bs, Q.bc, fun j hj lo fr len => (Q.got j hj lo fr len).keep rfl (fun _ _ _ => rfl) (fun _ _ _ => rfl), Q.ls, Q.lc, Q.ss, Q.sc, Q.cc, Q.lS, Q.lC, Q.hS, Q.hC, Q.ne⟩
theorem P1.ext {w wr wv : World} {hi SA CA i : Nat} {SB : Fin 4 → Nat} {CB : Fin 4 → Option (Nat × Bool)} (Q : P1 w wr hi SA CA i SB CB) (k : Below wr.heap.size wr wv) : P1 w wv hi SA CA i SB CB := by
  have h1 := Q.lS
  have h2 := Q.lC
  have h3 := Q.hS
  have h4 := k.size
  refine ⟨Q.bel.trans (k.mono (by omega)), fun j hj => (k.cell (p := ⟨SA, j.val, none⟩) h1).trans (Q.sa j hj), fun j hj => (k.cell (p := ⟨CA, j.val, none⟩) h2).trans (Q.ca j hj), fun j hj => (k.cell (p := ⟨CA, j.val, none⟩) h2).trans (Q.c0 j hj), fun j => by rw [k.cell (p := ⟨SA, j.val, none⟩) h1]; exact Q.ts j, ?_, ?_, fun j hj lo fr len => (Q.got j hj lo fr len).below k, fun j hj => ?_, fun j C cl hj e => ?_, Q.ss, Q.sc, Q.cc, by omega, by omega, Q.hS, Q.hC, Q.ne⟩
  · rw [k.block SA h1]; exact Q.bs
  · rw [k.block CA h2]; exact Q.bc
  · have := Q.ls j hj
    exact ⟨this.1, by omega, this.2.2⟩
  · have := Q.lc j C cl hj e
    exact ⟨this.1, by omega, this.2.2⟩

/-! ### The table while the law builds it -/
noncomputable def hasB (A : Nat → Wt) (N : Nat) (x : Wt) : Bool := @decide (Has A N x) (Classical.propDecidable _)
theorem hasB_true {A : Nat → Wt} {N : Nat} {x : Wt} : hasB A N x = true ↔ Has A N x := by
  unfold hasB
  exact @decide_eq_true_iff _ (Classical.propDecidable _)
theorem hasB_false {A : Nat → Wt} {N : Nat} {x : Wt} : hasB A N x = false ↔ ¬ Has A N x := by
  unfold hasB
  exact @decide_eq_false_iff_not _ (Classical.propDecidable _)

/-- What the law's own memory 'has' says (block HB). -/
def Hs (w : World) (HB : Nat) (h : Fin 4 → Nat → Nat → Bool) : Prop := ∀ (s : Fin 4) (p k : Nat), p < 4 → k < 2 → w.cell? ⟨HB, s.val * 8 + p * 2 + k, none⟩ = some (.bool (h s p k))
theorem Hs.block {w w' : World} {HB : Nat} {h : Fin 4 → Nat → Nat → Bool} (H : Hs w HB h) (hb : w'.heap[HB]? = w.heap[HB]?) : Hs w' HB h := fun s p k hp hk => (cellB hb _).trans (H s p k hp hk)
theorem Hs.congr {w : World} {HB : Nat} {h h' : Fin 4 → Nat → Nat → Bool} (H : Hs w HB h) (e : ∀ s p k, p < 4 → k < 2 → h s p k = h' s p k) : Hs w HB h' := fun s p k hp hk => by rw [← e s p k hp hk]; exact H s p k hp hk
theorem Hs.put {w : World} {HB : Nat} {h : Fin 4 → Nat → Nat → Bool} (H : Hs w HB h) (s : Fin 4) (p k : Nat) (hp : p < 4) (hk : k < 2) : Hs (w.setCell ⟨HB, s.val * 8 + p * 2 + k, none⟩ (.bool true)) HB (fun s' p' k' => if s' = s ∧ p' = p ∧ k' = k then true else h s' p' k') := fun s' p' k' hp' hk' => by
  show _ = some (Value.bool (if s' = s ∧ p' = p ∧ k' = k then true else h s' p' k'))
  by_cases e : s' = s ∧ p' = p ∧ k' = k
  · rw [if_pos e]
    obtain ⟨rfl, rfl, rfl⟩ := e
    rw [World.cell?_setCell_same _ _ _ (H s' p' k' hp hk)]
  · rw [World.cell?_setCell_other _ _ _ _ (by
      intro q
      injection q with _ q
      refine e ⟨Fin.ext ?_, ?_, ?_⟩ <;> omega), if_neg e]
    exact H s' p' k' hp' hk'

structure Mb (wS w : World) (T HB B : Nat) (al : Value) (SB : Fin 4 → Nat) (h : Fin 4 → Nat → Nat → Bool) (A : Nat → Wt) (N : Nat) (k : Key) : Prop where
  bel : Below T wS w
  old : ∀ (j : Nat) c t f, j < wS.heap.size → j ≠ T + 2 → j ≠ HB → wS.heap[j]? = some (.cells c t f) → w.heap[j]? = some (.cells c t f)
  tx : TX w (T + 2) T (T + 1) al SB A N
  own : w.ownsRow wS.heap.size 70 3 al N (wl SB A N)
  hs : Hs w HB h
  bh : ∃ c t, w.heap[HB]? = some (.cells c t (0, 0))
  kb : w.heap[B]? = some (.cells #[.string k.1, .int .u8 (k.2 : Int)] 61 (0, 0))
  nB : B ≠ T + 2
  lt : HB < wS.heap.size ∧ T + 2 < wS.heap.size ∧ T + 2 < HB
section
variable {wS w w' : World} {T HB B : Nat} {al : Value} {SB : Fin 4 → Nat} {h : Fin 4 → Nat → Nat → Bool} {A : Nat → Wt} {N : Nat} {k : Key} {s : Fin 4}
theorem Mb.keep (H : Mb wS w T HB B al SB h A N k) (hc : KeepC w w') (hb : Below T w w') : Mb wS w' T HB B al SB h A N k := by
  obtain ⟨c, t, e⟩ := H.bh
  have e' := hc _ _ _ _ e
  exact ⟨H.bel.trans hb, fun j c t f h1 h2 h3 q => hc _ _ _ _ (H.old j c t f h1 h2 h3 q), H.tx.keep hc, own_keep H.own hc, H.hs.block (e'.trans e.symm), ⟨c, t, e'⟩, hc _ _ _ _ H.kb, H.nB, H.lt⟩
theorem Mb.k0 (H : Mb wS w T HB B al SB h A N k) : w.cell? ⟨B, 0, none⟩ = some (.string k.1) := by simp only [World.cell?, H.kb]; rfl
theorem Mb.k1 (H : Mb wS w T HB B al SB h A N k) : w.cell? ⟨B, 1, none⟩ = some (.int .u8 (k.2 : Int)) := by simp only [World.cell?, H.kb]; rfl
theorem Mb.drewN (H : Mb wS w T HB B al SB h A N k) (n : Nat) : Mb wS (w.drewN n) T HB B al SB h A N k := H.keep (fun _ _ _ _ e => e) ⟨rfl, rfl, rfl, Nat.le_refl _, fun _ _ => rfl⟩
/-- The watch is appended to the row. -/
theorem Mb.app {w1 : World} (H : Mb wS w T HB B al SB h A N k) {v : Value} (ho : w1.ownsRow wS.heap.size 70 3 v (N + 1) (wl SB A N ++ [.string k.1, .int .u8 (k.2 : Int), kvS SB s])) (hg : w.grownBy w1 al.ownBlock) :
    Mb wS (w1.setCell ⟨T + 2, 2, none⟩ v) T HB B v SB h (addW A N (k, s)) (N + 1) k ∧ KeepM w (w1.setCell ⟨T + 2, 2, none⟩ v) := by
  have hsz := H.bel.size
  have hlt := H.lt
  have ho' : w1.ownsRow (T + 2 + 1) 70 3 v (N + 1) (wl SB A N ++ [.string k.1, .int .u8 (k.2 : Int), kvS SB s]) := by
    refine ⟨ho.1, ?_⟩
    rcases ho.2 with h2 | ⟨g, cap, cur, h1, h2, h3⟩
    · exact .inl h2
    · exact .inr ⟨g, cap, cur, h1, by omega, h3⟩
  have low : ∀ j : Nat, j < wS.heap.size → j ≠ T + 2 → (w1.setCell ⟨T + 2, 2, none⟩ v).heap[j]? = w.heap[j]? := fun j h1 h2 => by
    rw [Below.heap_setCell _ _ _ _ h2, hg.block j (by omega) (fun q => by have := (own_lt H.own q.symm).1; omega)]
  have far : ∀ (j : Nat) c t f, t ≠ 70 → j ≠ T + 2 → w.heap[j]? = some (.cells c t f) → (w1.setCell ⟨T + 2, 2, none⟩ v).heap[j]? = some (.cells c t f) := fun j c t f ht hj e => by
    rw [Below.heap_setCell _ _ _ _ hj, hg.block j (by rcases Array.getElem?_eq_some_iff.1 e with ⟨h, _⟩; exact h) (fun q => ?_)]
    · exact e
    · obtain ⟨_, c', e'⟩ := own_lt H.own q.symm
      rw [e] at e'
      injection e' with e'
      injection e' with _ e'
      exact ht e'
  obtain ⟨c, t, e⟩ := H.bh
  have eH := low HB hlt.1 (by omega)
  refine ⟨⟨H.bel.trans ⟨hg.os, hg.tape, hg.output, by simpa using hg.size, fun j hj => low j (by omega) (by omega)⟩, fun j c t f h1 h2 h3 q => (low j h1 h2).trans (H.old j c t f h1 h2 h3 q), H.tx.app ho' hg, ?_, H.hs.block eH, ⟨c, t, eH.trans e⟩, far _ _ _ _ (by decide) H.nB H.kb, H.nB, H.lt⟩, H.tx.keepM v hg⟩
  rw [wl_add]
  refine own_block ho fun g h1 _ => Below.heap_setCell _ _ _ _ (by show g ≠ T + 2; omega)
end

/-- N watches are placed. -/
structure Bb (wS w : World) (T HB : Nat) (al : Value) (SB : Fin 4 → Nat) (IK : Key → Nat) (JS : Fin 4 → Nat) (ρ : Nat → Role) (A : Nat → Wt) (N : Nat) : Prop where
  bel : Below T wS w
  old : ∀ (j : Nat) c t f, j < wS.heap.size → j ≠ T + 2 → j ≠ HB → wS.heap[j]? = some (.cells c t f) → w.heap[j]? = some (.cells c t f)
  tk : TK w T T SB IK ρ A N
  ts : TS w T (T + 1) SB JS ρ A N
  tx : TX w (T + 2) T (T + 1) al SB A N
  own : w.ownsRow wS.heap.size 70 3 al N (wl SB A N)
  inj : Inj A N
  hs : Hs w HB fun s p k => hasB A N ((pb p, k), s)
  bh : ∃ c t, w.heap[HB]? = some (.cells c t (0, 0))
  lt : HB < wS.heap.size ∧ T + 2 < wS.heap.size ∧ T + 2 < HB
def hasC : Array Value := #[.bool false, .bool false, .bool false, .bool false, .bool false, .bool false, .bool false, .bool false, .bool false, .bool false, .bool false, .bool false, .bool false, .bool false, .bool false, .bool false, .bool false, .bool false, .bool false, .bool false, .bool false, .bool false, .bool false, .bool false, .bool false, .bool false, .bool false, .bool false, .bool false, .bool false, .bool false, .bool false]
theorem hasC_at (s : Fin 4) (p k : Nat) (hp : p < 4) (hk : k < 2) : hasC[s.val * 8 + p * 2 + k]? = some (.bool false) := by
  have key : ∀ n : Nat, n < 32 → hasC[n]? = some (.bool false) := fun n hn => by
    have e : hasC = Array.replicate 32 (.bool false) := by rfl
    rw [e, Array.getElem?_replicate, if_pos hn]
  exact key _ (by have := s.isLt; omega)
theorem Bb.start {w wt wr : World} {T CA : Nat} {SB : Fin 4 → Nat} {CB : Fin 4 → Option (Nat × Bool)} (h0 : Bd w wt T (.slice none 0 0) (.slice none 0 0) SB (fun _ => 0) (fun _ => 0) (ρ0 T) A0 0) (hz : wt.heap.size = T + 3) (Q : P1 wt wr (T + 3) (T + 3) CA 4 SB CB) :
    Bb (wr.alloc (.cells hasC 108)) (wr.alloc (.cells hasC 108)) T wr.heap.size (.slice none 0 0) SB (fun _ => 0) (fun _ => 0) (ρ0 T) A0 0 := by
  have kb : ∀ {j : Nat} {o : Obj}, wt.heap[j]? = some o → (wr.alloc (.cells hasC 108)).heap[j]? = some o := fun {j o} e => by
    have hj : j < wt.heap.size := by rcases Array.getElem?_eq_some_iff.1 e with ⟨h, _⟩; exact h
    exact alloc_lt _ ((Q.bel.block j (by omega)).trans e)
  have lr := Q.lS
  refine ⟨Below.refl _ _, fun j c t f _ _ _ e => e, h0.tk.keep fun j es c _ e => kb e, h0.ts.keep fun j es c _ e => kb e, h0.tx.keep fun j c t f e => kb e, World.ownsRow_nil _ _ _ _, h0.inj, fun s p k hp hk => ?_, ⟨_, _, heap_alloc_new wr _⟩, ?_, ?_, by omega⟩
  · show _ = some (Value.bool (hasB A0 0 ((pb p, k), s)))
    rw [alloc_new, hasC_at s p k hp hk, hasB_false.2]
    rintro ⟨i, hi, _⟩
    exact absurd hi (Nat.not_lt_zero _)
  · simp
  · simp; omega
theorem Bb.below {wS w w' : World} {T HB : Nat} {al : Value} {SB : Fin 4 → Nat} {IK : Key → Nat} {JS : Fin 4 → Nat} {ρ : Nat → Role} {A : Nat → Wt} {N : Nat} (h : Bb wS w T HB al SB IK JS ρ A N) (k : Below w.heap.size w w') : Bb wS w' T HB al SB IK JS ρ A N := by
  have kc : KeepC w w' := fun j c t f e => (k.block j (by rcases Array.getElem?_eq_some_iff.1 e with ⟨h, _⟩; exact h)).trans e
  have km : KeepM w w' := fun j c t e => (k.block j (by rcases Array.getElem?_eq_some_iff.1 e with ⟨h, _⟩; exact h)).trans e
  have hs := h.bel.size
  have hlt := h.lt
  obtain ⟨c, t, e⟩ := h.bh
  have e' := kc _ _ _ _ e
  exact ⟨h.bel.trans (k.mono (by omega)), fun j c t f h1 h2 h3 q => kc _ _ _ _ (h.old j c t f h1 h2 h3 q), h.tk.keep km.k, h.ts.keep km.s, h.tx.keep kc, own_keep h.own kc, h.inj, h.hs.block (e'.trans e.symm), ⟨c, t, e'⟩, h.lt⟩
/-- The watch is new: the law's own memory and the key's block. -/
theorem Bb.mb {wS w : World} {T HB : Nat} {al : Value} {SB : Fin 4 → Nat} {IK : Key → Nat} {JS : Fin 4 → Nat} {ρ : Nat → Role} {A : Nat → Wt} {N : Nat} (h : Bb wS w T HB al SB IK JS ρ A N) (c0 : Array Value) (t0 : TypeId) (s : Fin 4) (p k : Nat) (hp : p < 4) (hk : k < 2) :
    Mb wS (((w.setCell ⟨HB, s.val * 8 + p * 2 + k, none⟩ (.bool true)).alloc (.cells c0 t0)).alloc (.cells #[.string (pb p), .int .u8 (k : Int)] 61)) T HB (w.heap.size + 1) al SB (fun s' p' k' => if s' = s ∧ p' = p ∧ k' = k then true else hasB A N ((pb p', k'), s')) A N (pb p, k) ∧
      TK (((w.setCell ⟨HB, s.val * 8 + p * 2 + k, none⟩ (.bool true)).alloc (.cells c0 t0)).alloc (.cells #[.string (pb p), .int .u8 (k : Int)] 61)) T T SB IK ρ A N ∧ TS (((w.setCell ⟨HB, s.val * 8 + p * 2 + k, none⟩ (.bool true)).alloc (.cells c0 t0)).alloc (.cells #[.string (pb p), .int .u8 (k : Int)] 61)) T (T + 1) SB JS ρ A N := by
  have hsz := h.bel.size
  have hlt := h.lt
  have e1 : ((w.setCell ⟨HB, s.val * 8 + p * 2 + k, none⟩ (.bool true)).alloc (.cells c0 t0)).heap.size = w.heap.size + 1 := by simp
  have oth : ∀ {j : Nat} {o : Obj}, j ≠ HB → w.heap[j]? = some o → (((w.setCell ⟨HB, s.val * 8 + p * 2 + k, none⟩ (.bool true)).alloc (.cells c0 t0)).alloc (.cells #[.string (pb p), .int .u8 (k : Int)] 61)).heap[j]? = some o := fun {j o} hj e => by
    have hl : j < w.heap.size := by rcases Array.getElem?_eq_some_iff.1 e with ⟨h, _⟩; exact h
    rw [Below.heap_alloc _ _ _ (by omega), Below.heap_alloc _ _ _ (by simpa using hl), Below.heap_setCell _ _ _ _ hj]
    exact e
  have km : KeepM w (((w.setCell ⟨HB, s.val * 8 + p * 2 + k, none⟩ (.bool true)).alloc (.cells c0 t0)).alloc (.cells #[.string (pb p), .int .u8 (k : Int)] 61)) := fun j es c e => oth (fun q => by
    obtain ⟨c', t', e'⟩ := h.bh
    rw [q, e'] at e
    cases e) e
  obtain ⟨c, t, e⟩ := blk_set h.bh HB (s.val * 8 + p * 2 + k) (.bool true)
  have eH : (((w.setCell ⟨HB, s.val * 8 + p * 2 + k, none⟩ (.bool true)).alloc (.cells c0 t0)).alloc (.cells #[.string (pb p), .int .u8 (k : Int)] 61)).heap[HB]? = (w.setCell ⟨HB, s.val * 8 + p * 2 + k, none⟩ (.bool true)).heap[HB]? := by
    rw [Below.heap_alloc _ _ _ (by omega), Below.heap_alloc _ _ _ (by simp; omega)]
  have hX : ∀ j, j < wS.heap.size → j ≠ HB → (((w.setCell ⟨HB, s.val * 8 + p * 2 + k, none⟩ (.bool true)).alloc (.cells c0 t0)).alloc (.cells #[.string (pb p), .int .u8 (k : Int)] 61)).heap[j]? = w.heap[j]? := fun j h1 h2 => by
    rw [Below.heap_alloc _ _ _ (by omega), Below.heap_alloc _ _ _ (by simp; omega), Below.heap_setCell _ _ _ _ h2]
  have hown : ∀ {b : Nat}, w.ownsRow b 70 3 al N (wl SB A N) → (((w.setCell ⟨HB, s.val * 8 + p * 2 + k, none⟩ (.bool true)).alloc (.cells c0 t0)).alloc (.cells #[.string (pb p), .int .u8 (k : Int)] 61)).ownsRow b 70 3 al N (wl SB A N) := fun ho => own_block ho fun g _ hg => by
    obtain ⟨hg1, c', e'⟩ := own_lt h.own hg
    rw [oth (by omega) e', e']
  obtain ⟨cx, tx, ex⟩ := h.tx.bX
  have eX := hX (T + 2) hlt.2.1 (by omega)
  refine ⟨⟨h.bel.trans ⟨rfl, rfl, rfl, by simp; omega, fun j hj => hX j (by omega) (by omega)⟩, fun j c t f h1 h2 h3 q => oth h3 (h.old j c t f h1 h2 h3 q), ⟨(cellB eX 0).trans h.tx.c0, (cellB eX 1).trans h.tx.c1, (cellB eX 2).trans h.tx.c2, ⟨cx, tx, eX.trans ex⟩, hown h.tx.own⟩, hown h.own, ?_, ⟨c, t, eH.trans e⟩, ?_, by omega, h.lt⟩, h.tk.keep km.k, h.ts.keep km.s⟩
  · refine Hs.block (Hs.put h.hs s p k hp hk) eH
  · rw [← e1]
    exact heap_alloc_new _ _
theorem Mb.bb {wS w : World} {T HB B : Nat} {al : Value} {SB : Fin 4 → Nat} {IK : Key → Nat} {JS : Fin 4 → Nat} {ρ : Nat → Role} {A : Nat → Wt} {N : Nat} {s : Fin 4} {p k : Nat} (H : Mb wS w T HB B al SB (fun s' p' k' => if s' = s ∧ p' = p ∧ k' = k then true else hasB A N ((pb p', k'), s')) (addW A N ((pb p, k), s)) (N + 1) (pb p, k)) (hp : p < 4) (hK : TK w T T SB IK ρ (addW A N ((pb p, k), s)) (N + 1)) (hS : TS w T (T + 1) SB JS ρ (addW A N ((pb p, k), s)) (N + 1)) (hi : Inj A N) (hx : ¬ Has A N ((pb p, k), s)) :
    Bb wS w T HB al SB IK JS ρ (addW A N ((pb p, k), s)) (N + 1) := by
  refine ⟨H.bel, H.old, hK, hS, H.tx, H.own, addW_inj hi hx, H.hs.congr fun s' p' k' hp' hk' => ?_, H.bh, H.lt⟩
  by_cases e : s' = s ∧ p' = p ∧ k' = k
  · obtain ⟨rfl, rfl, rfl⟩ := e
    rw [if_pos ⟨rfl, rfl, rfl⟩, hasB_true.2]
    exact (addW_has _).2 (.inr rfl)
  · rw [if_neg e]
    have key : Has (addW A N ((pb p, k), s)) (N + 1) ((pb p', k'), s') ↔ Has A N ((pb p', k'), s') := by
      rw [addW_has]
      refine ⟨fun q => q.elim id fun q => absurd ?_ e, .inl⟩
      injection q with q1 q2
      injection q1 with q1 q3
      exact ⟨q2, pb_inj hp' hp q1, q3⟩
    by_cases hh : Has A N ((pb p', k'), s')
    · rw [hasB_true.2 hh, hasB_true.2 (key.2 hh)]
    · rw [hasB_false.2 hh, hasB_false.2 (fun q => hh (key.1 q))]
end Go.Proofs.YbulkcrxoDoor.F
