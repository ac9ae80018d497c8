/-
  A RULE FOR REGIONS THAT DRAW THEIR ORDER AND MAKE MUCH MEMORY: an invariant over the operations that are listed already: one obligation for each operation, however many orders there are.
-/
import Derived.WalkKit
import Derived.Orders
import Derived.RegionTactic
import Derived.Deep.Quiet
namespace Go.Any
variable {P : Program} {ops : Array Oper} {Q : Exit → Act → World → Prop} {md : Region.Mode}

/-- Each operation waits for earlier ones alone. -/
def backB (ops : Array Oper) : Bool := (List.range ops.size).all fun i => match ops[i]? with
  | some o => o.after.all fun e => !Region.binds .any e || decide (e.on < i)
  | none => true

theorem back_of (h : backB ops = true) {i : Nat} {o : Oper} (ho : ops[i]? = some o) : ∀ e ∈ o.after, Region.binds .any e = true → e.on < i := by
  intro e he hbe
  have hi : i < ops.size := by
    rcases Array.getElem?_eq_some_iff.1 ho with ⟨h, _⟩
    exact h
  have := List.all_eq_true.1 h i (List.mem_range.2 hi)
  simp only [ho] at this
  have := Array.all_eq_true_iff_forall_mem.1 this e he
  rw [hbe] at this
  simpa using this

theorem all_of_ready (h : backB ops = true) {l : Array Bool} (hs : l.size = ops.size) (hr : Region.ready .any ops l = []) : ∀ i, i < ops.size → l.getD i false = true := by
  intro i
  induction i using Nat.strongRecOn with
  | ind i ih =>
    intro hi
    apply Classical.byContradiction
    intro hn
    have hl : l.getD i true = false := by
      have h1 : i < l.size := by omega
      simp [Array.getD, h1] at hn ⊢
      exact hn
    have ho : ops[i]? = some ops[i] := Array.getElem?_eq_getElem hi
    have hm : i ∈ Region.ready .any ops l := by
      unfold Region.ready
      refine List.mem_filter.2 ⟨List.mem_range.2 hi, ?_⟩
      rw [hl, ho]
      simp only [Bool.not_false, Bool.true_and, Option.map_some, Option.getD_some]
      refine Array.all_eq_true_iff_forall_mem.2 fun e he => ?_
      cases hbe : Region.binds .any e with
      | false => simp
      | true =>
        have hb := back_of h ho e he hbe
        rw [ih e.on hb (by omega)]
        simp
    rw [hr] at hm
    cases hm

/-- How many are not listed yet. -/
def left (l : Array Bool) : Nat := l.toList.count false

theorem left_set {l : Array Bool} {i : Nat} (h : l.getD i true = false) : left (l.setIfInBounds i true) + 1 = left l := by
  have hi : i < l.size := by
    apply Classical.byContradiction
    intro hn
    simp [Array.getD, hn] at h
  have hv : l.toList[i]'(by simpa using hi) = false := by simpa [Array.getD, hi] using h
  have hc : 0 < l.toList.count false := List.count_pos_iff.2 (hv ▸ List.getElem_mem _)
  unfold left
  rw [Array.toList_setIfInBounds, List.count_set (by simpa using hi), hv]
  have e1 : (if (false == false) = true then 1 else 0 : Nat) = 1 := rfl
  have e2 : (if (true == false) = true then 1 else 0 : Nat) = 0 := rfl
  rw [e1, e2]
  omega

theorem wpAny_inv (I : Array Bool → Act → World → Prop) (hb : backB ops = true) (hs : ∀ l a w, I l a w → l.size = ops.size)
    (hstep : ∀ l a w i, I l a w → i ∈ Region.ready .any ops l → wpOp P ops Q i (I (l.setIfInBounds i true)) a w)
    (hend : ∀ l a w, I l a w → (∀ i, i < ops.size → l.getD i false = true) → Q .normal a w) :
    ∀ fuel l a w, left l ≤ fuel → I l a w → wpAny P .any ops Q fuel l a w := by
  intro fuel
  induction fuel with
  | zero =>
    intro l a w hl hI
    have hr : Region.ready .any ops l = [] := by
      cases hr : Region.ready .any ops l with
      | nil => rfl
      | cons x xs =>
        have hx : x ∈ Region.ready .any ops l := by rw [hr]; exact List.mem_cons_self
        have := left_set (mem_ready.1 hx).1
        omega
    exact ⟨hr, hend l a w hI (all_of_ready hb (hs _ _ _ hI) hr)⟩
  | succ fuel ih =>
    intro l a w hl hI
    refine ⟨fun hr => hend l a w hI (all_of_ready hb (hs _ _ _ hI) hr), fun i hi => ?_⟩
    have := left_set (mem_ready.1 hi).1
    exact wpOp_mono (fun a w h => ih _ _ _ (by omega) h) (hstep l a w i hI hi)

/-- THE RULE: the region meets its end if the invariant holds ahead of it, is kept by each operation that may come up, and gives the end when all are listed. -/
theorem wp_region_inv (I : Array Bool → Act → World → Prop) {id : Nat} {a : Act} {w : World} (hm : P.follows .mixedOrders = true) (hb : backB ops = true) (hs : ∀ l a w, I l a w → l.size = ops.size)
    (h0 : I (Array.replicate ops.size false) a w.drew)
    (hstep : ∀ l a w i o, I l a w → ops[i]? = some o → l.getD i true = false → (∀ e ∈ o.after, Region.binds .any e = true → l.getD e.on false = true) →
      ∀ K : Act → World → Prop, (∀ a w, I (l.setIfInBounds i true) a w → K a w) → if Region.wanted o (yielded ops a.tmps) = true then Oper.wp P o a w K Q else K (a.put o.dst undef) w)
    (hend : ∀ l a w, I l a w → (∀ i, i < ops.size → l.getD i false = true) → Q .normal a w) : (Code.region id ops true).wp P Q a w := by
  refine wp_region_any hm (wpAny_inv I hb hs ?_ hend _ _ _ _ ?_ h0)
  · intro l a w i hI hi
    obtain ⟨h2, o, ho, hd⟩ := mem_ready.1 hi
    exact wpOp_step (o := o) ho (hstep l a w i o hI ho h2 hd)
  · unfold left
    refine Nat.le_trans (List.count_le_length) (by simp)

/-! ### A region whose operations only read, but for the last, which waits for them all -/

structure Sub (n : Nat) (l' l : Array Bool) : Prop where
  s' : l'.size = n
  s : l.size = n + 1
  eq : ∀ i, i < n → ∀ d, l.getD i d = l'.getD i d
  last : l.getD n true = false
theorem getD_set_same {l : Array Bool} {i : Nat} (d : Bool) (h : i < l.size) : (l.setIfInBounds i true).getD i d = true := by
  simp [h]
theorem Sub.set {n : Nat} {l' l : Array Bool} (h : Sub n l' l) {i : Nat} (hi : i < n) : Sub n (l'.setIfInBounds i true) (l.setIfInBounds i true) := by
  refine ⟨by simpa using h.s', by simpa using h.s, fun j hj d => ?_, ?_⟩
  · by_cases e : i = j
    · subst e
      rw [getD_set_same d (by rw [h.s]; omega), getD_set_same d (by rw [h.s']; omega)]
    · rw [getD_set_ne d e, getD_set_ne d e]
      exact h.eq j hj d
  · rw [getD_set_ne true (by omega)]
    exact h.last

/-- Each operation but the last is waited for. -/
def upB (ops : Array Oper) : Bool := (List.range (ops.size - 1)).all fun j => (List.range ops.size).any fun i => decide (j < i) && ((ops[i]?).map fun o => o.after.any fun e => Region.binds .any e && e.on == j).getD false
theorem up_of (h : upB ops = true) {j : Nat} (hj : j < ops.size - 1) : ∃ i o, j < i ∧ ops[i]? = some o ∧ ∃ e ∈ o.after, Region.binds .any e = true ∧ e.on = j := by
  have := List.all_eq_true.1 h j (List.mem_range.2 hj)
  obtain ⟨i, hi, h2⟩ := List.any_eq_true.1 this
  rw [List.mem_range] at hi
  rw [Bool.and_eq_true] at h2
  have ho : ops[i]? = some ops[i] := Array.getElem?_eq_getElem hi
  rw [ho] at h2
  obtain ⟨h3, h4⟩ := h2
  simp only [Option.map_some, Option.getD_some] at h4
  rw [Array.any_eq_true] at h4
  obtain ⟨x, hx, h5⟩ := h4
  obtain ⟨e, he, h5⟩ : ∃ e ∈ (ops[i]).after, (Region.binds .any e && e.on == j) = true := ⟨_, Array.getElem_mem hx, h5⟩
  rw [Bool.and_eq_true] at h5
  exact ⟨i, _, of_decide_eq_true h3, ho, e, he, h5.1, by simpa using h5.2⟩
def noGuardB (ops : Array Oper) : Bool := ops.all fun o => o.guard.isNone
theorem noGuard_of (h : noGuardB ops = true) {i : Nat} {o : Oper} (ho : ops[i]? = some o) (y : Nat → Option Bool) : Region.wanted o y = true := by
  have := Array.all_eq_true_iff_forall_mem.1 h o (Array.mem_of_getElem? ho)
  unfold Region.wanted
  cases hg : o.guard with
  | none => rfl
  | some g => rw [hg] at this; cases this

def Closed (qs : Array Oper) (l : Array Bool) : Prop := ∀ i o, qs[i]? = some o → l.getD i false = true → ∀ e ∈ o.after, Region.binds .any e = true → l.getD e.on false = true

section
variable {qs : Array Oper} {last : Oper} {C : World → Prop}

theorem push_lt {i : Nat} (h : i < qs.size) : (qs.push last)[i]? = qs[i]? := by simp [Array.getElem?_push, Nat.ne_of_lt h]
theorem push_eq : (qs.push last)[qs.size]? = some last := by simp

theorem all_before (hup : upB (qs.push last) = true) {l' l : Array Bool} (hs : Sub qs.size l' l) (hc : Closed qs l') (hr : ∀ e ∈ last.after, Region.binds .any e = true → l.getD e.on false = true) :
    ∀ d j, j < qs.size → qs.size - j ≤ d → l'.getD j false = true := by
  intro d
  induction d with
  | zero => intro j hj hd; omega
  | succ d ih =>
    intro j hj hd
    obtain ⟨i, o, hji, ho, e, he, hbe, heq⟩ := up_of hup (j := j) (by simpa using hj)
    by_cases hin : i < qs.size
    · rw [push_lt hin] at ho
      have := hc i o ho (ih i hin (by omega)) e he hbe
      rwa [heq] at this
    · have hi : i = qs.size := by
        rcases Array.getElem?_eq_some_iff.1 ho with ⟨h, _⟩
        simp at h
        omega
      subst hi
      rw [push_eq] at ho
      cases ho
      have := hr e he hbe
      rw [heq, hs.eq j hj] at this
      exact this

theorem wpAny_last {Q : Exit → Act → World → Prop} (hup : upB (qs.push last) = true) (hb : backB (qs.push last) = true) (hg : noGuardB (qs.push last) = true) :
    ∀ fuel (l' l : Array Bool) (a : Act) (w : World), Sub qs.size l' l → Closed qs l' → C w →
      wpAnyQ P .any qs C (fun a' => ∀ w', C w' → last.wp P a' w' (fun a w => Q .normal a w) Q) fuel l' a → wpAny P .any (qs.push last) Q (fuel + 1) l a w := by
  -- when all the others are in, the last is the only one that may come up
  have done : ∀ (l' l : Array Bool), Sub qs.size l' l → (∀ j, j < qs.size → l'.getD j false = true) → ∀ i, i ∈ Region.ready .any (qs.push last) (l.setIfInBounds qs.size true) → False := by
    intro l' l hs hall i hi
    obtain ⟨h0, o, ho, _⟩ := mem_ready.1 hi
    have hlt : i < qs.size + 1 := by
      rcases Array.getElem?_eq_some_iff.1 ho with ⟨h, _⟩
      simpa using h
    by_cases e : qs.size = i
    · subst e
      rw [getD_set_same true (by rw [hs.s]; omega)] at h0
      cases h0
    · have hi' : i < qs.size := by omega
      rw [getD_set_ne true e, hs.eq i hi' true] at h0
      have := hall i hi'
      have hsz : i < l'.size := by rw [hs.s']; exact hi'
      simp [hsz] at this h0
      rw [this] at h0
      cases h0
  have fin : ∀ fuel (l' l : Array Bool) (a : Act) (w : World), Sub qs.size l' l → (∀ j, j < qs.size → l'.getD j false = true) → last.wp P a w (fun a w => Q .normal a w) Q →
      wpOp P (qs.push last) Q qs.size (wpAny P .any (qs.push last) Q fuel (l.setIfInBounds qs.size true)) a w := by
    intro fuel l' l a w hs hall h
    refine wpOp_step (o := last) push_eq (fun K' hK => ?_)
    rw [if_pos (noGuard_of hg push_eq _)]
    refine Oper.wp_mono (fun a w hn => hK a w ?_) h
    have hno := done l' l hs hall
    have hr : Region.ready .any (qs.push last) (l.setIfInBounds qs.size true) = [] := by
      cases hr : Region.ready .any (qs.push last) (l.setIfInBounds qs.size true) with
      | nil => rfl
      | cons x xs => exact (hno x (by rw [hr]; exact List.mem_cons_self)).elim
    cases fuel with
    | zero => exact ⟨hr, hn⟩
    | succ f => exact ⟨fun _ => hn, fun i hi => (hno i hi).elim⟩
  have up : ∀ (l' l : Array Bool) i, Sub qs.size l' l → i < qs.size → i ∈ Region.ready .any (qs.push last) l → i ∈ Region.ready .any qs l' := by
    intro l' l i hs hi h
    obtain ⟨h0, o, ho, hd⟩ := mem_ready.1 h
    have hbk := back_of hb ho
    rw [push_lt hi] at ho
    refine mem_ready.2 ⟨by rw [← hs.eq i hi]; exact h0, o, ho, fun e he hbe => ?_⟩
    have hlt := hbk e he hbe
    rw [← hs.eq e.on (by omega)]
    exact hd e he hbe
  intro fuel
  induction fuel with
  | zero =>
    intro l' l a w hs hc hC h
    obtain ⟨hr, hQ⟩ := h
    have hqb : backB qs = true := by
      unfold backB
      refine List.all_eq_true.2 fun i hi => ?_
      rw [List.mem_range] at hi
      have := List.all_eq_true.1 hb i (List.mem_range.2 (by simp; omega))
      rw [push_lt hi] at this
      exact this
    have hall := all_of_ready hqb hs.s' hr
    refine ⟨fun h0 => ?_, fun i hi => ?_⟩
    · have : qs.size ∈ Region.ready .any (qs.push last) l := mem_ready.2 ⟨hs.last, last, push_eq, fun e he hbe => by
        have hlt := back_of hb (push_eq (qs := qs) (last := last)) e he hbe
        rw [hs.eq e.on hlt]
        exact hall e.on hlt⟩
      rw [h0] at this
      cases this
    · by_cases hin : i < qs.size
      · have := up l' l i hs hin hi
        rw [hr] at this
        cases this
      · have hi' : i = qs.size := by
          obtain ⟨_, o, ho, _⟩ := mem_ready.1 hi
          rcases Array.getElem?_eq_some_iff.1 ho with ⟨h, _⟩
          simp at h
          omega
        subst hi'
        exact fin 0 l' l a w hs hall (hQ w hC)
  | succ f ih =>
    intro l' l a w hs hc hC h
    obtain ⟨hQ, hstep⟩ := h
    refine ⟨fun h0 => ?_, fun i hi => ?_⟩
    · exfalso
      have hqr : Region.ready .any qs l' = [] ∨ ∃ i, i ∈ Region.ready .any qs l' := by
        cases Region.ready .any qs l' with
        | nil => exact .inl rfl
        | cons x xs => exact .inr ⟨x, List.mem_cons_self⟩
      rcases hqr with hqr | ⟨i, hi⟩
      · have hqb : backB qs = true := by
          unfold backB
          refine List.all_eq_true.2 fun i hi => ?_
          rw [List.mem_range] at hi
          have := List.all_eq_true.1 hb i (List.mem_range.2 (by simp; omega))
          rw [push_lt hi] at this
          exact this
        have hall := all_of_ready hqb hs.s' hqr
        have : qs.size ∈ Region.ready .any (qs.push last) l := mem_ready.2 ⟨hs.last, last, push_eq, fun e he hbe => by
          have hlt := back_of hb (push_eq (qs := qs) (last := last)) e he hbe
          rw [hs.eq e.on hlt]
          exact hall e.on hlt⟩
        rw [h0] at this
        cases this
      · obtain ⟨g0, o, ho, hd⟩ := mem_ready.1 hi
        have hin : i < qs.size := by
          rcases Array.getElem?_eq_some_iff.1 ho with ⟨h, _⟩
          exact h
        have : i ∈ Region.ready .any (qs.push last) l := mem_ready.2 ⟨by rw [hs.eq i hin]; exact g0, o, by rw [push_lt hin]; exact ho, fun e he hbe => by
          have hlt := back_of hb (show (qs.push last)[i]? = some o by rw [push_lt hin]; exact ho) e he hbe
          rw [hs.eq e.on (by omega)]
          exact hd e he hbe⟩
        rw [h0] at this
        cases this
    · by_cases hin : i < qs.size
      · have hiq := up l' l i hs hin hi
        have hq := hstep i hiq
        obtain ⟨_, o, ho, hd⟩ := mem_ready.1 hiq
        have hset : Closed qs (l'.setIfInBounds i true) := by
          intro j oj hoj hj e he hbe
          by_cases eij : i = j
          · subst eij
            rw [ho] at hoj
            cases hoj
            exact getD_set_true (hd e he hbe)
          · rw [getD_set_ne false eij] at hj
            exact getD_set_true (hc j oj hoj hj e he hbe)
        have h1 : wpOp P qs Q i (wpAny P .any (qs.push last) Q (f + 1) (l.setIfInBounds i true)) a w :=
          wpOp_of_qOp hC (fun a' w' hC' hK => ih _ _ a' w' (hs.set hin) hset hC' hK) hq
        unfold wpOp at h1 ⊢
        rw [push_lt hin]
        rw [ho] at h1 ⊢
        have hop : (qs.push last)[i]? = some o := by rw [push_lt hin]; exact ho
        simp only [noGuard_of hg hop, if_true] at h1 ⊢
        exact h1
      · have hi' : i = qs.size := by
          obtain ⟨_, o, ho, _⟩ := mem_ready.1 hi
          rcases Array.getElem?_eq_some_iff.1 ho with ⟨h, _⟩
          simp at h
          omega
        subst hi'
        obtain ⟨_, o, ho, hd⟩ := mem_ready.1 hi
        rw [push_eq] at ho
        cases ho
        have hall := all_before hup hs hc hd qs.size
        have hall' : ∀ j, j < qs.size → l'.getD j false = true := fun j hj => hall j hj (by omega)
        have hqr : Region.ready .any qs l' = [] := by
          cases hr : Region.ready .any qs l' with
          | nil => rfl
          | cons x xs =>
            have hx : x ∈ Region.ready .any qs l' := by rw [hr]; exact List.mem_cons_self
            obtain ⟨g0, ox, hox, _⟩ := mem_ready.1 hx
            have hxlt : x < qs.size := by
              rcases Array.getElem?_eq_some_iff.1 hox with ⟨h, _⟩
              exact h
            have := hall' x hxlt
            have hsz : x < l'.size := by rw [hs.s']; exact hxlt
            simp [hsz] at this g0
            rw [this] at g0
            cases g0
        exact fin (f + 1) l' l a w hs hall' (hQ hqr w hC)

/-- THE RULE: all but the last operation only read; the last waits for them all. -/
theorem wp_region_last {Q : Exit → Act → World → Prop} {id : Nat} {a : Act} {w : World} {l : List Oper} {o : Oper} {L : List Oper} (hL : L = l ++ [o]) (hm : P.follows .mixedOrders = true) (hx : Region.lexB .any l.toArray = true) (hup : upB (l.toArray.push o) = true) (hb : backB (l.toArray.push o) = true) (hg : noGuardB (l.toArray.push o) = true)
    (h : wpQuiet P l.toArray (fun w' => ∃ n, w' = w.drewN n) (fun a' => ∀ w', (∃ n, w' = w.drewN n) → o.wp P a' w' (fun a w => Q .normal a w) Q) l a) : (Code.region id L.toArray true).wp P Q a w := by
  subst hL
  simp only [Region.lexB, Bool.and_eq_true] at hx
  have e : (l ++ [o]).toArray = l.toArray.push o := by simp
  rw [e]
  refine wp_region_any hm ?_
  have h1 := wpAnyQ_lex (P := P) (md := .any) hx.1 l 0 (Array.replicate l.toArray.size false) a (by simp) (by simpa using hx.2) h
  have h2 := wpAny_last (P := P) (Q := Q) (qs := l.toArray) (last := o) (C := fun w' => ∃ n, w' = w.drewN n) hup hb hg l.length (Array.replicate l.toArray.size false) (Array.replicate (l.toArray.push o).size false) a { w with drawn := w.drawn + 1 }
    ⟨by simp, by simp, fun i hi d => ?_, by simp⟩ (fun i o' ho' hi => by
      exfalso
      have hlt : i < l.toArray.size := by
        rcases Array.getElem?_eq_some_iff.1 ho' with ⟨h, _⟩
        exact h
      have hlt' : i < l.length := by simpa using hlt
      simp [hlt'] at hi) ⟨1, rfl⟩ h1
  · simpa using h2
  · have hi' : i < l.length := by simpa using hi
    have hi2 : i < l.length + 1 := by omega
    simp [hi', hi2]
end
end Go.Any
