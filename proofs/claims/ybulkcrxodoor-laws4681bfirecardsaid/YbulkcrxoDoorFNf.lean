/-
  LawS4681AFires: what stands behind 'notify', and the counting of what is left.
-/
import Derived.Test.YbulkcrxoDoorFBd
set_option linter.unusedVariables false
namespace Go.Proofs.YbulkcrxoDoor.F
open Go.RowKit Go.Any
open Go.ChangeMaps (setBlock)

theorem Got.blk {w : World} {lo S : Nat} {fr : Value} {len : Int} {c : Option (Nat × Bool)} {d : Bool} (h : Got w lo S fr len c d) : ∃ c t, w.heap[S]? = some (.cells c t (0, 0)) := by
  match c, d, h with
  | none, false, h => exact Se.blk h
  | none, true, ⟨g, cp, h1, _⟩ => exact h1.blk
  | some (C, true), _, h => exact h.1.blk
  | some (C, false), false, h => exact h.1.blk
  | some (C, false), true, h => exact h.1.blk

/-- What stands behind 'notify'. -/
structure Nf (w w9 : World) (T K V AB SA CA : Nat) (SB : Fin 4 → Nat) (CB : Fin 4 → Option (Nat × Bool)) (IK : Key → Nat) (JS : Fin 4 → Nat) (ρ : Nat → Role) (A : Nat → Wt) (N : Nat) (A' : Nat → Wt) (N' : Nat) (D : Fin 4 → Bool) (FB lo u : Nat) (pp : ByteArray) (kd : Nat → Nat) (nk : Nat) (la : Option Addr) : Prop where
  t : Tbl w9 T K (T + 2) T (T + 1) AB SB IK JS ρ A' N'
  has : ∀ x, Has A' N' x ↔ Has A N x ∧ ¬ Hit pp kd nk x
  d : ∀ s, D s = true ↔ ∃ x, Has A N x ∧ x.2 = s ∧ Hit pp kd nk x
  af : After w9 lo V (T + 2) SB CB (.slice (some ⟨FB, 0, none⟩) (32 + pp.size) 64) (32 + pp.size : Nat) D
  bf : (∃ s, D s = true) → Buf w9 FB 64 (frm u pp)
  sa : ∀ j : Fin 4, w9.cell? ⟨SA, j.val, none⟩ = some (.pointer (some ⟨SB j, 0, none⟩))
  ca : ∀ j : Fin 4, w9.cell? ⟨CA, j.val, none⟩ = some (.pointer ((CB j).map fun x => ⟨x.1, 0, none⟩))
  ks : ∀ j, j < nk → w9.cell? ⟨K, j, none⟩ = some (.int .u8 ((kd j : Nat) : Int))
  ls : Lst w9 T la A N
  sess : Sess w9 SB
  inj : Inj A N
  bel : Below w.heap.size w w9

theorem Nf.of {w w0 wS wL wV w9 : World} {T K V AB SA CA : Nat} {SB : Fin 4 → Nat} {CB : Fin 4 → Option (Nat × Bool)} {IK : Key → Nat} {JS : Fin 4 → Nat} {ρ : Nat → Role} {A : Nat → Wt} {N : Nat} {A' : Nat → Wt} {N' : Nat} {D : Fin 4 → Bool} {FB lo u : Nat} {pp : ByteArray} {kd : Nat → Nat} {nk : Nat} {la : Option Addr} {al lv : Value}
    (Q : P1 w0 wS SA SA CA 4 SB CB) (hT : T = wS.heap.size) (hw : w.heap.size < SA) (hB : Bd wS wL T al lv SB IK JS ρ A N) (hK : K = wL.heap.size) (hBV : Below K wL wV) (hVK : V = K + 1) (hAB : (0 < N → T + 2 < AB ∧ al.ownBlock = some AB) ∧ (N = 0 → AB = 0))
    (hKD : ∀ j, j < nk → wV.cell? ⟨K, j, none⟩ = some (.int .u8 ((kd j : Nat) : Int))) (hKB : ∃ c t, wV.heap[K]? = some (.cells c t (0, 0))) (hwV : Below w.heap.size w wV) (hL : Lst wL T la A N)
    (T9 : Tbl w9 T K (T + 2) T (T + 1) AB SB IK JS ρ A' N') (H9 : ∀ x, Has A' N' x ↔ Has A N x ∧ ¬ Hit pp kd nk x) (D9 : ∀ s, D s = true ↔ ∃ x, Has A N x ∧ x.2 = s ∧ Hit pp kd nk x)
    (AF9 : After w9 lo V (T + 2) SB CB (.slice (some ⟨FB, 0, none⟩) (32 + pp.size) 64) (32 + pp.size : Nat) D) (BF9 : (∃ s, D s = true) → Buf w9 FB 64 (frm u pp)) (FR9 : Fr (fun j => T ≤ j ∨ (∃ i, j = SB i) ∨ ∃ i cl, CB i = some (j, cl)) wV w9) (AL9 : Alien2 (T + 2) AB V SB CB wV w9) :
    Nf w w9 T K V AB SA CA SB CB IK JS ρ A N A' N' D FB lo u pp kd nk la := by
  have lX : T + 2 < wL.heap.size := World.block_lt_of_cell? _ _ hB.tx.c0
  have TK : T + 2 < K := by omega
  have ABne : ∀ j, 0 < j → j ≤ T + 2 → j ≠ AB := fun j h0 h1 e => by
    rcases Nat.eq_zero_or_pos N with h | h
    · have := hAB.2 h; omega
    · have := (hAB.1 h).1; omega
  have lsb : ∀ i, SB i < T := fun i => by rw [hT]; exact (Q.ls i i.isLt).2.1
  have lcb : ∀ i C cl, CB i = some (C, cl) → C < T := fun i C cl h => by rw [hT]; exact (Q.lc i C cl i.isLt h).2.1
  have hSAT : SA < T := by rw [hT]; exact Q.lS
  have hCAT : CA < T := by rw [hT]; exact Q.lC
  have hCA0 := Q.hC
  have bST : Below T wS wV := hB.bel.trans (hBV.mono (by omega))
  -- the arrays
  have eSA : w9.heap[SA]? = wS.heap[SA]? := by
    obtain ⟨c, t, e⟩ := Q.bs
    have e' := (bST.block SA hSAT).trans e
    rw [AL9 SA c t _ (by omega) (ABne SA (by omega) (by omega)) (by omega) (fun i => Ne.symm (Q.ls i i.isLt).2.2.1) (fun i cl h => (Q.lc i SA cl i.isLt h).2.2.1 rfl) e', e]
  have eCA : w9.heap[CA]? = wS.heap[CA]? := by
    obtain ⟨c, t, e⟩ := Q.bc
    have e' := (bST.block CA hCAT).trans e
    rw [AL9 CA c t _ (by omega) (ABne CA (by omega) (by omega)) (by omega) (fun i => Ne.symm (Q.ls i i.isLt).2.2.2) (fun i cl h => (Q.lc i CA cl i.isLt h).2.2.2 rfl) e', e]
  have lAB : AB < K := by
    rcases Nat.eq_zero_or_pos N with h | h
    · have := hAB.2 h; omega
    · obtain ⟨_, c, e⟩ := own_lt hB.tx.own (hAB.1 h).2
      rcases Array.getElem?_eq_some_iff.1 e with ⟨h, _⟩
      omega
  have eK : w9.heap[K]? = wV.heap[K]? := by
    obtain ⟨c, t, e⟩ := hKB
    rw [AL9 K c t _ (by omega) (by omega) (by omega) (fun i => by have := lsb i; omega) (fun i cl h => by have := lcb i K cl h; omega) e, e]
  refine ⟨T9, H9, D9, AF9, BF9, fun j => (cellB eSA _).trans (Q.sa j j.isLt), fun j => (cellB eCA _).trans (Q.ca j j.isLt), fun j hj => (cellB eK _).trans (hKD j hj), hL.keep fun j c hN hj e => ?_, ⟨fun i => (AF9.got i).blk, fun a b e => Q.ss a b a.isLt b.isLt e⟩, hB.inj, hwV.trans ⟨FR9.os, FR9.tape, FR9.output, FR9.size, fun j hj => FR9.block j (Nat.lt_of_lt_of_le hj hwV.size) ?_⟩⟩
  · have lj : j < wL.heap.size := by
      rcases Array.getElem?_eq_some_iff.1 e with ⟨h, _⟩
      exact h
    refine AL9 j c 73 _ (by omega) (fun q => ?_) (by omega) (fun i => by have := lsb i; omega) (fun i cl h => by have := lcb i j cl h; omega) ((hBV.block j (by omega)).trans e)
    obtain ⟨_, c', e'⟩ := own_lt hB.tx.own (hAB.1 hN).2
    rw [← q, e] at e'
    injection e' with e'
    injection e' with _ e'
    cases e'
  · rintro (h | ⟨i, h⟩ | ⟨i, cl, h⟩)
    · omega
    · have := (Q.ls i i.isLt).1; omega
    · have := (Q.lc i j cl i.isLt h).1; omega

/-! ### Counting -/
/-- How many of the first n answer to q. -/
def rc (q : Wt → Bool) (A : Nat → Wt) : Nat → Nat
  | 0 => 0
  | n + 1 => rc q A n + if q (A n) then 1 else 0
theorem rc_le (q : Wt → Bool) (A : Nat → Wt) : ∀ n, rc q A n ≤ n
  | 0 => Nat.le_refl _
  | n + 1 => by unfold rc; have := rc_le q A n; split <;> omega
def lst (A : Nat → Wt) (N : Nat) : List Wt := (List.range N).map A
theorem lst_mem {A : Nat → Wt} {N : Nat} {x : Wt} : x ∈ lst A N ↔ Has A N x := by simp [lst, Has]
theorem lst_len (A : Nat → Wt) (N : Nat) : (lst A N).length = N := by simp [lst]
theorem lst_nodup {A : Nat → Wt} {N : Nat} (h : Inj A N) : (lst A N).Nodup := by
  unfold lst
  rw [List.nodup_iff_pairwise_ne, List.pairwise_map]
  refine (List.nodup_range (n := N)).imp_of_mem ?_
  intro a b ha hb hne e
  exact hne (h a b (List.mem_range.1 ha) (List.mem_range.1 hb) e)
theorem rc_eq (q : Wt → Bool) (A : Nat → Wt) : ∀ N, rc q A N = ((lst A N).filter q).length
  | 0 => rfl
  | N + 1 => by
    unfold rc lst
    rw [List.range_succ, List.map_append, List.filter_append, List.length_append, rc_eq q A N]
    simp only [List.map_cons, List.map_nil, List.filter_cons, List.filter_nil]
    split <;> rfl
/-- Two rows without repeats that hold the same have the same length. -/
theorem len_eq {α : Type} {a b : List α} (ha : a.Nodup) (hb : b.Nodup) (h : ∀ x, x ∈ a ↔ x ∈ b) : a.length = b.length :=
  ((List.perm_ext_iff_of_nodup ha hb).2 h).length_eq
theorem left_all {A A' : Nat → Wt} {N N' : Nat} {q : Wt → Bool} (hA : Inj A N) (hA' : Inj A' N') (h : ∀ x, Has A' N' x ↔ Has A N x ∧ q x = true) : N' = rc q A N := by
  rw [rc_eq, ← lst_len A' N']
  refine len_eq (lst_nodup hA') ((lst_nodup hA).filter _) fun x => ?_
  rw [lst_mem, List.mem_filter, lst_mem]
  exact h x
theorem left_ses {A A' : Nat → Wt} {N N' : Nat} {q : Wt → Bool} {s : Fin 4} {l : List (RM.Ent Key)} (hA : Inj A N) (hl : JSpec A' N' s l) (h : ∀ x, Has A' N' x ↔ Has A N x ∧ q x = true) : l.length = rc (fun x => q x && decide (x.2 = s)) A N := by
  rw [rc_eq]
  have e1 : l.length = (l.map (·.k)).length := by simp
  have e2 : ((lst A N).filter fun x => q x && decide (x.2 = s)).length = (((lst A N).filter fun x => q x && decide (x.2 = s)).map (·.1)).length := by simp
  rw [e1, e2]
  refine len_eq hl.1 ?_ fun k => ?_
  · rw [List.nodup_iff_pairwise_ne, List.pairwise_map]
    refine ((lst_nodup hA).filter _).imp_of_mem ?_
    intro a b ha hb hne e
    simp only [List.mem_filter, Bool.and_eq_true, decide_eq_true_eq] at ha hb
    exact hne (Prod.ext e (ha.2.2.trans hb.2.2.symm))
  · constructor
    · intro hk
      obtain ⟨e, he, rfl⟩ := List.mem_map.1 hk
      have hg := RM.get_of_mem hl.1 he
      obtain ⟨hh, _⟩ := (hl.2 _ _).1 hg
      have := (h (e.k, s)).1 hh
      exact List.mem_map.2 ⟨(e.k, s), by simp [lst_mem, this.1, this.2], rfl⟩
    · intro hk
      obtain ⟨x, hx, rfl⟩ := List.mem_map.1 hk
      simp only [List.mem_filter, lst_mem, Bool.and_eq_true, decide_eq_true_eq] at hx
      obtain ⟨h1, h2, h3⟩ := hx
      have hx' : Has A' N' x := (h x).2 ⟨h1, h2⟩
      have hx2 : Has A' N' (x.1, s) := by rw [← h3]; exact hx'
      have := (hl.2 x.1 (.agg #[])).2 ⟨hx2, rfl⟩
      obtain ⟨e, he, hek, _⟩ := RM.get_mem this
      exact List.mem_map.2 ⟨e, he, hek⟩
theorem left_ses0 {A A' : Nat → Wt} {N N' : Nat} {q : Wt → Bool} {s : Fin 4} (hs : ¬ SesIn A' N' s) (h : ∀ x, Has A' N' x ↔ Has A N x ∧ q x = true) : rc (fun x => q x && decide (x.2 = s)) A N = 0 := by
  rw [rc_eq]
  refine List.length_eq_zero_iff.2 (List.eq_nil_iff_forall_not_mem.2 fun x hx => ?_)
  simp only [List.mem_filter, lst_mem, Bool.and_eq_true, decide_eq_true_eq] at hx
  obtain ⟨h1, h2, h3⟩ := hx
  obtain ⟨i, hi, e⟩ := (h x).2 ⟨h1, h2⟩
  exact hs ⟨i, hi, by rw [e]; exact h3⟩
/-! ### The law's own count -/
noncomputable def hitB (pp : ByteArray) (kd : Nat → Nat) (nk : Nat) (x : Wt) : Bool := @decide (Hit pp kd nk x) (Classical.propDecidable _)
theorem hitB_true {pp : ByteArray} {kd : Nat → Nat} {nk : Nat} {x : Wt} : hitB pp kd nk x = true ↔ Hit pp kd nk x := by
  unfold hitB
  exact @decide_eq_true_iff _ (Classical.propDecidable _)
theorem hitB_false {pp : ByteArray} {kd : Nat → Nat} {nk : Nat} {x : Wt} : hitB pp kd nk x = false ↔ ¬ Hit pp kd nk x := by
  unfold hitB
  exact @decide_eq_false_iff_not _ (Classical.propDecidable _)

/-- The arrays 'fired' (block z) and 'left' (block z + 1) when i watches of the list are looked at. -/
structure L4 (w9 w : World) (z : Nat) (q : Wt → Bool) (A : Nat → Wt) (i : Nat) : Prop where
  bel : Below z w9 w
  bf : ∃ c t, w.heap[z]? = some (.cells c t (0, 0))
  bl : ∃ c t, w.heap[z + 1]? = some (.cells c t (0, 0))
  f : ∀ s : Fin 4, w.cell? ⟨z, s.val, none⟩ = some (.bool (decide (0 < rc (fun x => q x && decide (x.2 = s)) A i)))
  l : ∀ s : Fin 4, w.cell? ⟨z + 1, s.val, none⟩ = some (.int .i64 ((rc (fun x => !q x && decide (x.2 = s)) A i : Nat) : Int))
section
variable {w9 w w' : World} {z : Nat} {q : Wt → Bool} {A : Nat → Wt} {i : Nat}
theorem L4.lt (h : L4 w9 w z q A i) : z + 1 < w.heap.size := World.block_lt_of_cell? _ _ (h.l 0)
theorem L4.ext (h : L4 w9 w z q A i) (k : Below w.heap.size w w') : L4 w9 w' z q A i := by
  have lt := h.lt
  refine ⟨h.bel.trans (k.mono (by omega)), ?_, ?_, fun s => (k.cell (p := ⟨z, s.val, none⟩) (by show z < _; omega)).trans (h.f s), fun s => (k.cell (p := ⟨z + 1, s.val, none⟩) lt).trans (h.l s)⟩
  · rw [k.block z (by omega)]; exact h.bf
  · rw [k.block (z + 1) lt]; exact h.bl
theorem L4.start (hz : z = w9.heap.size) : L4 w9 ((w9.alloc (.cells #[.bool false, .bool false, .bool false, .bool false] 96)).alloc (.cells #[.int .i64 0, .int .i64 0, .int .i64 0, .int .i64 0] 97)) z q A 0 := by
  subst hz
  have es : (w9.alloc (.cells #[.bool false, .bool false, .bool false, .bool false] 96)).heap.size = w9.heap.size + 1 := by simp
  have b1 : ((w9.alloc (.cells #[.bool false, .bool false, .bool false, .bool false] 96)).alloc (.cells #[.int .i64 0, .int .i64 0, .int .i64 0, .int .i64 0] 97)).heap[w9.heap.size]? = some (.cells #[.bool false, .bool false, .bool false, .bool false] 96) := by
    rw [Below.heap_alloc _ _ _ (by rw [es]; omega)]
    exact heap_alloc_new w9 _
  have b2 : ((w9.alloc (.cells #[.bool false, .bool false, .bool false, .bool false] 96)).alloc (.cells #[.int .i64 0, .int .i64 0, .int .i64 0, .int .i64 0] 97)).heap[w9.heap.size + 1]? = some (.cells #[.int .i64 0, .int .i64 0, .int .i64 0, .int .i64 0] 97) := by
    rw [← es]
    exact heap_alloc_new _ _
  refine ⟨((Below.refl _ _).alloc (Nat.le_refl _) _).alloc (by simp) _, ⟨_, _, b1⟩, ⟨_, _, b2⟩, fun s => ?_, fun s => ?_⟩
  · simp only [World.cell?, b1]
    match s with
    | 0 => rfl
    | 1 => rfl
    | 2 => rfl
    | 3 => rfl
  · simp only [World.cell?, b2]
    match s with
    | 0 => rfl
    | 1 => rfl
    | 2 => rfl
    | 3 => rfl
theorem L4.hit (h : L4 w9 w z q A i) (hq : q (A i) = true) : L4 w9 (w.setCell ⟨z, (A i).2.val, none⟩ (.bool true)) z q A (i + 1) := by
  refine ⟨h.bel.setCell (Nat.le_refl _) _, blk_set h.bf _ _ _, blk_set h.bl _ _ _, fun s => ?_, fun s => ?_⟩
  · by_cases e : s = (A i).2
    · subst e
      rw [World.cell?_setCell_same _ _ _ (h.f _)]
      conv => rhs; unfold rc
      simp [hq]
    · rw [World.cell?_setCell_other _ _ _ _ (by intro q; injection q with _ q; exact e (Fin.ext q.symm)), h.f s]
      conv => rhs; unfold rc
      simp [hq, Ne.symm e]
  · rw [World.cell?_setCell_other _ _ _ _ (by intro q; injection q with q; omega), h.l s]
    conv => rhs; unfold rc
    simp [hq]
theorem L4.miss (h : L4 w9 w z q A i) (hq : q (A i) = false) : L4 w9 (w.setCell ⟨z + 1, (A i).2.val, none⟩ (.int .i64 (((rc (fun x => !q x && decide (x.2 = (A i).2)) A i : Nat) : Int) + 1))) z q A (i + 1) := by
  refine ⟨h.bel.setCell (by show z ≤ z + 1; omega) _, blk_set h.bf _ _ _, blk_set h.bl _ _ _, fun s => ?_, fun s => ?_⟩
  · rw [World.cell?_setCell_other _ _ _ _ (by intro q; injection q with q; omega), h.f s]
    conv => rhs; unfold rc
    simp [hq]
  · by_cases e : s = (A i).2
    · subst e
      rw [World.cell?_setCell_same _ _ _ (h.l _)]
      conv => rhs; unfold rc
      simp [hq]
    · rw [World.cell?_setCell_other _ _ _ _ (by intro q; injection q with _ q; exact e (Fin.ext q.symm)), h.l s]
      conv => rhs; unfold rc
      simp [hq, Ne.symm e]
end
end Go.Proofs.YbulkcrxoDoor.F
