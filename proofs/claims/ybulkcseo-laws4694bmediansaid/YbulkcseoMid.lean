/-
  LawS4694BMedian: the plain law: the middle of a sorted row is the one value with at most n/2 below it and more than n/2 at or below it.
-/
import Derived.WalkKit
namespace Go.Proofs.Ybulkcseo

def cnt (P : Int → Bool) (f : Nat → Int) : Nat → Nat
  | 0 => 0
  | m + 1 => cnt P f m + (if P (f m) = true then 1 else 0)

theorem cnt_congr {P : Int → Bool} {f g : Nat → Int} : ∀ {m : Nat}, (∀ p, p < m → f p = g p) → cnt P f m = cnt P g m
  | 0, _ => rfl
  | m + 1, h => by
    show cnt P f m + _ = cnt P g m + _
    rw [cnt_congr (m := m) (fun p hp => h p (by omega)), h m (by omega)]

theorem cnt_le (P : Int → Bool) (f : Nat → Int) : ∀ m, cnt P f m ≤ m
  | 0 => Nat.le_refl _
  | m + 1 => by
    have := cnt_le P f m
    show cnt P f m + _ ≤ m + 1
    split <;> omega

def swapf (f : Nat → Int) (j : Nat) : Nat → Int := fun p => if p = j then f (j - 1) else if p = j - 1 then f j else f p

theorem cnt_swap (P : Int → Bool) (f : Nat → Int) (j : Nat) (hj : 0 < j) : ∀ m, j < m → cnt P (swapf f j) m = cnt P f m
  | 0, h => by omega
  | m + 1, h => by
    by_cases hm : j < m
    · show cnt P (swapf f j) m + _ = cnt P f m + _
      rw [cnt_swap P f j hj m hm]
      have : swapf f j m = f m := by unfold swapf; rw [if_neg (by omega), if_neg (by omega)]
      rw [this]
    · obtain rfl : j = m := by omega
      obtain ⟨i, rfl⟩ : ∃ i, j = i + 1 := ⟨j - 1, by omega⟩
      show cnt P (swapf f (i + 1)) i + _ + _ = cnt P f i + _ + _
      have e1 : cnt P (swapf f (i + 1)) i = cnt P f i := cnt_congr fun p hp => by unfold swapf; rw [if_neg (by omega), if_neg (by omega)]
      have e2 : swapf f (i + 1) i = f (i + 1) := by unfold swapf; rw [if_neg (by omega), if_pos (by omega)]
      have e3 : swapf f (i + 1) (i + 1) = f i := by unfold swapf; rw [if_pos rfl]; rfl
      rw [e1, e2, e3]
      omega

theorem cnt_mono {P R : Int → Bool} (h : ∀ x, P x = true → R x = true) (f : Nat → Int) : ∀ m, cnt P f m ≤ cnt R f m
  | 0 => Nat.le_refl _
  | m + 1 => by
    have := cnt_mono h f m
    show cnt P f m + _ ≤ cnt R f m + _
    by_cases hp : P (f m) = true
    · rw [if_pos hp, if_pos (h _ hp)]; omega
    · rw [if_neg hp]; omega

theorem cnt_few {P : Int → Bool} {f : Nat → Int} {a : Nat} : ∀ {m : Nat}, (∀ p, a ≤ p → p < m → P (f p) = false) → cnt P f m ≤ a
  | 0, _ => Nat.zero_le _
  | m + 1, h => by
    by_cases ha : a ≤ m
    · show cnt P f m + _ ≤ a
      rw [if_neg (by rw [h m ha (by omega)]; simp)]
      exact cnt_few (m := m) fun p h1 h2 => h p h1 (by omega)
    · have := cnt_le P f (m + 1)
      omega

theorem cnt_many {P : Int → Bool} {f : Nat → Int} {k : Nat} (h : ∀ p, p ≤ k → P (f p) = true) : ∀ {m : Nat}, k < m → k < cnt P f m
  | 0, h => by omega
  | m + 1, hm => by
    by_cases hk : k < m
    · have := cnt_many h (m := m) hk
      show k < cnt P f m + _
      omega
    · obtain rfl : k = m := by omega
      have all : ∀ q, q ≤ k → cnt P f q = q := by
        intro q
        induction q with
        | zero => intro _; rfl
        | succ q ih =>
          intro hq
          show cnt P f q + _ = q + 1
          rw [ih (by omega), if_pos (h q (by omega))]
      show k < cnt P f k + _
      rw [all k (Nat.le_refl _), if_pos (h k (Nat.le_refl _))]
      omega

/-- At most half below, more than half at or below. -/
def Mid (z : Nat → Int) (n : Nat) (v : Int) : Prop := cnt (fun x => decide (x < v)) z n ≤ n / 2 ∧ n / 2 < cnt (fun x => decide (x ≤ v)) z n

theorem mid_of {z s : Nat → Int} {n : Nat} (hn : 0 < n) (hc : ∀ P, cnt P s n = cnt P z n) (hs : ∀ p q, p < q → q < n → s p ≤ s q) : Mid z n (s (n / 2)) := by
  have le : ∀ p q, p ≤ q → q < n → s p ≤ s q := fun p q h1 h2 => by
    rcases Nat.lt_or_eq_of_le h1 with h | rfl
    · exact hs p q h h2
    · exact Int.le_refl _
  refine ⟨?_, ?_⟩
  · rw [← hc]
    exact cnt_few fun p h1 h2 => by have := le (n / 2) p h1 h2; simp; omega
  · rw [← hc]
    exact cnt_many (fun p hp => by have := le p (n / 2) hp (by omega); simp; omega) (by omega)

theorem mid_one {z : Nat → Int} {n : Nat} {u v : Int} (hu : Mid z n u) (hv : Mid z n v) : u = v := by
  have key : ∀ {u v : Int}, Mid z n u → Mid z n v → ¬ u < v := fun {u v} hu hv h => by
    have := cnt_mono (P := fun x => decide (x ≤ u)) (R := fun x => decide (x < v)) (fun x hx => by simp at hx ⊢; omega) z n
    have h1 := hu.2
    have h2 := hv.1
    omega
  have h1 := key hu hv
  have h2 := key hv hu
  omega
end Go.Proofs.Ybulkcseo
