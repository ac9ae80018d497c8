/-
  LawS4681AFires: what each session shows behind 'notify'.
-/
import Derived.Test.YbulkcrxoDoorFLk
set_option linter.unusedVariables false
namespace Go.Proofs.YbulkcrxoDoor.F
open Go.RowKit Go.Any

theorem blk_lt {w : World} {C : Nat} (h : ∃ c t, w.heap[C]? = some (.cells c t (0, 0))) : C < w.heap.size := by
  obtain ⟨c, t, e⟩ := h
  rcases Array.getElem?_eq_some_iff.1 e with ⟨h, _⟩
  exact h
theorem Got.below {w w' : World} {lo S : Nat} {fr : Value} {len : Int} {c : Option (Nat × Bool)} {d : Bool} (h : Got w lo S fr len c d) (k : Below w.heap.size w w') : Got w' lo S fr len c d := by
  refine h.keep (k.block _ (blk_lt h.blk)) (fun C cl e => ?_) (fun g _ hg => k.block g hg)
  subst e
  match cl, d, h with
  | true, _, h => exact k.block _ (blk_lt h.2.blk)
  | false, false, h => exact k.block _ (blk_lt h.2.blk)
  | false, true, ⟨_, g, cp, h, _⟩ => exact k.block _ (blk_lt h.blk)

def qn (f : Fin 4 → Bool) : Nat → Int
  | 0 => 0
  | i + 1 => qn f i + if h : i < 4 then b2z (f ⟨i, h⟩) else 0
theorem qn_four (f : Fin 4 → Bool) : qn f 4 = cnt f := by
  simp [qn, cnt]
theorem qn_bd (f : Fin 4 → Bool) : ∀ i, 0 ≤ qn f i ∧ qn f i ≤ i
  | 0 => by simp [qn]
  | i + 1 => by
    have := qn_bd f i
    unfold qn
    split
    · have := b2z_bd (f ⟨i, ‹_›⟩)
      omega
    · omega
theorem qn_one {f : Fin 4 → Bool} {i : Nat} (h : i < 4) (e : f ⟨i, h⟩ = true) : qn f (i + 1) = qn f i + 1 := by
  conv => lhs; unfold qn
  rw [dif_pos h, e]; rfl
theorem qn_no {f : Fin 4 → Bool} {i : Nat} (h : i < 4) (e : f ⟨i, h⟩ = false) : qn f (i + 1) = qn f i := by
  conv => lhs; unfold qn
  rw [dif_pos h, e]; simp [b2z]

theorem len71 {w : World} {b1 b2 X BK BS AB : Nat} {SB : Fin 4 → Nat} {IK : Key → Nat} {JS : Fin 4 → Nat} {ρ : Nat → Role} {A A' : Nat → Wt} {N N' : Nat} {k : Key} {s : Fin 4} {m m' : Option Nat} {q : Wt → Bool} (h : Tbl w b1 b2 X BK BS AB SB IK JS ρ A' N') (hm : Mk A' N' IK JS k s m m') (hA : Inj A N) (hh : ∀ x, Has A' N' x ↔ Has A N x ∧ q x = true) (ty : TypeId) :
    (Builtin.len_ #[71] ty #[.map m']).run Ybad.prog w = .ok (.int .i64 ((rc (fun x => q x && decide (x.2 = s)) A N : Nat) : Int)) w := by
  by_cases hs : SesIn A' N' s
  · obtain ⟨i, hi, e⟩ := id hs
    obtain ⟨l, c, h1, h2⟩ := h.mJ i hi
    rw [e] at h1 h2
    rw [hm.s1 hs, ← left_ses hA h2 hh]
    exact RM.run_len Ybad.underlying71 h1 ty
  · rw [hm.s0 hs, left_ses0 hs hh]
    simp [Builtin.len_, run_underlying Ybad.underlying71, goInt]

theorem fired_eq {A : Nat → Wt} {N nk : Nat} {pp : ByteArray} {kd : Nat → Nat} {D : Fin 4 → Bool} {s : Fin 4} (hD : D s = true ↔ ∃ x, Has A N x ∧ x.2 = s ∧ Hit pp kd nk x) : decide (0 < rc (fun x => hitB pp kd nk x && decide (x.2 = s)) A N) = D s := by
  have h : 0 < rc (fun x => hitB pp kd nk x && decide (x.2 = s)) A N ↔ D s = true := by
    rw [hD, rc_eq, List.length_pos_iff_exists_mem]
    constructor
    · rintro ⟨x, hx⟩
      simp only [List.mem_filter, lst_mem, Bool.and_eq_true, decide_eq_true_eq] at hx
      exact ⟨x, hx.1, hx.2.2, hitB_true.1 hx.2.1⟩
    · rintro ⟨x, h1, h2, h3⟩
      exact ⟨x, by simp only [List.mem_filter, lst_mem, Bool.and_eq_true, decide_eq_true_eq]; exact ⟨h1, hitB_true.2 h3, h2⟩⟩
  cases hd : D s with
  | true => exact decide_eq_true (h.2 hd)
  | false => exact decide_eq_false (fun q => by rw [h.1 q] at hd; cases hd)

theorem Buf.rd {w : World} {B cap : Nat} {bs : List UInt8} (h : Buf w B cap bs) : Rd w B bs := h.cs
theorem hdr_cells (w : World) : ∀ j x, (bv hdr)[j]? = some x → (w.alloc (.cells #[.int .u8 255, .int .u8 255, .int .u8 255, .int .u8 255, .int .u8 255, .int .u8 255, .int .u8 255, .int .u8 255, .int .u8 255, .int .u8 255, .int .u8 255, .int .u8 255, .int .u8 0, .int .u8 0, .int .u8 0, .int .u8 0] 5)).cell? ((⟨w.heap.size, 0, none⟩ : Addr).add j) = some x := fun j x hx => by
  have e : (#[.int .u8 255, .int .u8 255, .int .u8 255, .int .u8 255, .int .u8 255, .int .u8 255, .int .u8 255, .int .u8 255, .int .u8 255, .int .u8 255, .int .u8 255, .int .u8 255, .int .u8 0, .int .u8 0, .int .u8 0, .int .u8 0] : Array Value) = (bv hdr).toArray := by rfl
  rw [add0, alloc_new, e, List.getElem?_toArray]
  exact hx
theorem neq27n (w : World) : (binOp .neq 27 (.pointer none) (.pointer none)).run Ybad.prog w = .ok (.bool false) w := by kernel_rfl
end Go.Proofs.YbulkcrxoDoor.F
