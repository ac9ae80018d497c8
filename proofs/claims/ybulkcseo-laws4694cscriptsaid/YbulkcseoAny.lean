/-
  A RULE FOR REGIONS THAT DRAW THEIR ORDER AND MAKE MUCH MEMORY: an invariant over the operations that are listed already: one obligation for each operation, however many orders there are.
-/
import Derived.WalkKit
import Derived.Orders
import Derived.RegionTactic
namespace Go.Any
variable {P : Program} {ops : Array Oper} {Q : Exit → Act → World → Prop} {md : Region.Mode}

/-- Each operation waits for earlier ones alone. -/
def backB (ops : Array Oper) : Bool := (List.range ops.size).all fun i => match ops[i]? with
  | some o => o.after.all fun e => decide (e.on < i)
  | none => true

theorem back_of (h : backB ops = true) {i : Nat} {o : Oper} (ho : ops[i]? = some o) : ∀ e ∈ o.after, e.on < i := by
  intro e he
  have hi : i < ops.size := by
    rcases Array.getElem?_eq_some_iff.1 ho with ⟨h, _⟩
    exact h
  have := List.all_eq_true.1 h i (List.mem_range.2 hi)
  simp only [ho] at this
  exact of_decide_eq_true (Array.all_eq_true_iff_forall_mem.1 this e he)

theorem all_of_ready (h : backB ops = true) {l : Array Bool} (hs : l.size = ops.size) (hr : Region.ready md ops l = []) : ∀ i, i < ops.size → l.getD i false = true := by
  intro i
  induction i using Nat.strongRecOn with
  | ind i ih =>
    intro hi
    apply Classical.byContradiction
    intro hn
    have hl : l.getD i true = false := by
      have h1 : i < l.size := by omega
      simp [Array.getD, h1] at hn ⊢
      exact hn
    have ho : ops[i]? = some ops[i] := Array.getElem?_eq_getElem hi
    have hm : i ∈ Region.ready md ops l := by
      unfold Region.ready
      refine List.mem_filter.2 ⟨List.mem_range.2 hi, ?_⟩
      rw [hl, ho]
      simp only [Bool.not_false, Bool.true_and, Option.map_some, Option.getD_some]
      refine Array.all_eq_true_iff_forall_mem.2 fun e he => ?_
      have hb := back_of h ho e he
      rw [ih e.on hb (by omega)]
      simp
    rw [hr] at hm
    cases hm

/-- How many are not listed yet. -/
def left (l : Array Bool) : Nat := l.toList.count false

theorem left_set {l : Array Bool} {i : Nat} (h : l.getD i true = false) : left (l.setIfInBounds i true) + 1 = left l := by
  have hi : i < l.size := by
    apply Classical.byContradiction
    intro hn
    simp [Array.getD, hn] at h
  have hv : l.toList[i]'(by simpa using hi) = false := by simpa [Array.getD, hi] using h
  have hc : 0 < l.toList.count false := List.count_pos_iff.2 (hv ▸ List.getElem_mem _)
  unfold left
  rw [Array.toList_setIfInBounds, List.count_set (by simpa using hi), hv]
  have e1 : (if (false == false) = true then 1 else 0 : Nat) = 1 := rfl
  have e2 : (if (true == false) = true then 1 else 0 : Nat) = 0 := rfl
  rw [e1, e2]
  omega

theorem wpAny_inv (I : Array Bool → Act → World → Prop) (hb : backB ops = true) (hs : ∀ l a w, I l a w → l.size = ops.size)
    (hstep : ∀ l a w i, I l a w → i ∈ Region.ready md ops l → wpOp P ops Q i (I (l.setIfInBounds i true)) a w)
    (hend : ∀ l a w, I l a w → (∀ i, i < ops.size → l.getD i false = true) → Q .normal a w) :
    ∀ fuel l a w, left l ≤ fuel → I l a w → wpAny P md ops Q fuel l a w := by
  intro fuel
  induction fuel with
  | zero =>
    intro l a w hl hI
    have hr : Region.ready md ops l = [] := by
      cases hr : Region.ready md ops l with
      | nil => rfl
      | cons x xs =>
        have hx : x ∈ Region.ready md ops l := by rw [hr]; exact List.mem_cons_self
        have := left_set (mem_ready.1 hx).1
        omega
    exact ⟨hr, hend l a w hI (all_of_ready hb (hs _ _ _ hI) hr)⟩
  | succ fuel ih =>
    intro l a w hl hI
    refine ⟨fun hr => hend l a w hI (all_of_ready hb (hs _ _ _ hI) hr), fun i hi => ?_⟩
    have := left_set (mem_ready.1 hi).1
    exact wpOp_mono (fun a w h => ih _ _ _ (by omega) h) (hstep l a w i hI hi)

/-- THE RULE: the region meets its end if the invariant holds ahead of it, is kept by each operation that may come up, and gives the end when all are listed. -/
theorem wp_region_inv (I : Array Bool → Act → World → Prop) {id : Nat} {a : Act} {w : World} (hm : P.follows .mixedOrders = true) (hb : backB ops = true) (hs : ∀ l a w, I l a w → l.size = ops.size)
    (h0 : I (Array.replicate ops.size false) a w.drew)
    (hstep : ∀ l a w i o, I l a w → ops[i]? = some o → l.getD i true = false → (∀ e ∈ o.after, Region.binds .any e = true → l.getD e.on false = true) →
      ∀ K : Act → World → Prop, (∀ a w, I (l.setIfInBounds i true) a w → K a w) → if Region.wanted o (yielded ops a.tmps) = true then Oper.wp P o a w K Q else K (a.put o.dst undef) w)
    (hend : ∀ l a w, I l a w → (∀ i, i < ops.size → l.getD i false = true) → Q .normal a w) : (Code.region id ops true).wp P Q a w := by
  refine wp_region_any hm (wpAny_inv I hb hs ?_ hend _ _ _ _ ?_ h0)
  · intro l a w i hI hi
    obtain ⟨h2, o, ho, hd⟩ := mem_ready.1 hi
    exact wpOp_step (o := o) ho (hstep l a w i o hI ho h2 hd)
  · unfold left
    refine Nat.le_trans (List.count_le_length) (by simp)
end Go.Any
