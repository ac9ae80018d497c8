/-
  LawS4689CSpend: bytes compared: 'zzs4689ceq', and 'suite.Equal' with all that it comes to.
-/
import Derived.Test.YbulkcsbwDoorProg
import Derived.Handy
import Derived.WalkSpells
import Derived.WalkLawsBesides
import Derived.Deep.QuietTactic
import Derived.BigQuiet
import Derived.Laws.BitsAllLaws
namespace Go.Proofs.YbulkcsbwDoor
open Go.RowKit

/-- A slice of n bytes z that lies in w. -/
structure Bs (w : World) (a : Option Addr) (n : Nat) (z : Nat → Int) : Prop where
  len : n ≤ 9223372036854775807
  byte : ∀ j, 0 ≤ z j ∧ z j ≤ 255
  cells : ∀ j, j < n → ∃ b o, a = some ⟨b, o, none⟩ ∧ w.cell? ⟨b, o + j, none⟩ = some (.int .u8 (z j))

theorem Bs.drewN {w : World} {a : Option Addr} {n : Nat} {z : Nat → Int} (h : Bs w a n z) (m : Nat) : Bs (w.drewN m) a n z := ⟨h.len, h.byte, h.cells⟩

/-- The same bytes. -/
def eqB (n m : Nat) (x y : Nat → Int) : Bool := decide (n = m) && decide (∀ j, j < n → x j = y j)

def b2i (b : Bool) : Int := match b with | true => 1 | false => 0

theorem eqB_ne {n m : Nat} {x y : Nat → Int} (h : n ≠ m) : eqB n m x y = false := by simp [eqB, h]
theorem eqB_yes {n : Nat} {x y : Nat → Int} (h : ∀ j, j < n → x j = y j) : eqB n n x y = true := by simp [eqB]; exact h
theorem eqB_no {n j : Nat} {x y : Nat → Int} (hj : j < n) (h : x j ≠ y j) : eqB n n x y = false := by
  simp only [eqB, decide_true, Bool.true_and, decide_eq_false_iff_not]
  exact fun e => h (e j hj)
theorem eqB_self (n : Nat) (x : Nat → Int) : eqB n n x x = true := eqB_yes fun _ _ => rfl

set_option maxHeartbeats 1000000 in
theorem ceq_any (a b : Option Addr) (n c m d : Nat) (x y : Nat → Int) (w : World) (hx : Bs w a n x) (hy : Bs w b m y) :
    Calls Ybad.prog 12 #[.slice a n c, .slice b m d] w fun e w' => e = .returned (.bool (eqB n m x y)) ∧ ∃ k, w' = w.drewN k := by
  have hl := hx.len
  have hl2 := hy.len
  by_cases hnm : n = m
  · subst hnm
    have HX : Hid (Bs w a n x) := hx
    have HY : Hid (Bs w b n y) := hy
    clear hx hy
    go_enter Ybad.func12, Ybad.ntmps12
    go_wp2
    go_loopw [13] (fun i wr => ∃ k : Nat, k ≤ n ∧ i = .int .i64 k ∧ (∀ j, j < k → x j = y j) ∧ ∃ q, wr = w.drewN q) (fun i _ => n - (intOf i).toNat)
    case atStart => exact ⟨0, Nat.zero_le _, rfl, fun j hj => by omega, 0, rfl⟩
    case round =>
      obtain ⟨k, hk, rfl, hsame, q, rfl⟩ := hrel
      have HS : Hid (∀ j, j < k → x j = y j) := hsame
      clear hsame
      by_cases hlt : k < n
      · obtain ⟨b1, o1, e1, g1⟩ := HX.out.cells k hlt
        obtain ⟨b2, o2, e2, g2⟩ := HY.out.cells k hlt
        subst e1
        subst e2
        have p0 : (k : Int) < (n : Int) := by omega
        by_cases heq : x k = y k
        · have HE : Hid (x k = y k) := heq
          rw [← heq] at g2
          clear heq
          go_wp2
          go_quiet (fail)
          go_wp2
          go_roundw
          case rel => exact ⟨k + 1, by omega, by go_num, fun j hj => by
            rcases Nat.lt_or_ge j k with h | h
            · exact HS.out j h
            · obtain rfl : j = k := by omega
              exact HE.out, _, rfl⟩
          case measure => simp [intOf]; omega
        · have hne : (x k != y k) = true := by simpa using heq
          go_wp2
          go_quiet (fail)
          go_wp2
          go_ret
          exact ⟨by rw [eqB_no hlt heq]; rfl, _, World.drewN_drewN _ _ _⟩
      · obtain rfl : k = n := by omega
        go_wp2
        go_ret
        exact ⟨by rw [eqB_yes HS.out]; rfl, _, rfl⟩
  · rw [eqB_ne hnm]
    have hne : ((n : Int) != (m : Int)) = true := by rw [bne_iff_ne]; omega
    go_enter Ybad.func12, Ybad.ntmps12
    go_wp2
    go_ret
    exact ⟨rfl, 0, rfl⟩

theorem xor_zero {a b : Nat} (h : a ^^^ b = 0) : a = b := by
  apply Nat.eq_of_testBit_eq
  intro i
  have := congrArg (fun n => n.testBit i) h
  simpa using this

/-- One step of the constant-time compare. -/
theorem acc_step (v a b : Int) (hv : 0 ≤ v ∧ v ≤ 255) (ha : 0 ≤ a ∧ a ≤ 255) (hb : 0 ≤ b ∧ b ≤ 255) :
    (0 ≤ bits .or .u8 v (bits .xor .u8 a b) ∧ bits .or .u8 v (bits .xor .u8 a b) ≤ 255) ∧ (bits .or .u8 v (bits .xor .u8 a b) = 0 ↔ v = 0 ∧ a = b) := by
  have hx : a.toNat ^^^ b.toNat < 2 ^ 8 := Nat.xor_lt_two_pow (by omega) (by omega)
  have ho : v.toNat ||| (a.toNat ^^^ b.toNat) < 2 ^ 8 := Nat.or_lt_two_pow (by omega) hx
  rw [u8_xor a b ha.1 (by omega) hb.1 (by omega), u8_or v _ hv.1 (by omega) (by omega) (by omega), Int.toNat_natCast]
  refine ⟨⟨by omega, by omega⟩, ?_⟩
  constructor
  · intro h
    have h0 : v.toNat ||| (a.toNat ^^^ b.toNat) = 0 := by omega
    rw [Nat.or_eq_zero_iff] at h0
    have h1 : a.toNat = b.toNat := xor_zero h0.2
    omega
  · rintro ⟨rfl, rfl⟩
    simp

theorem b2u_run (b : Bool) (w : World) : (callFunc 52 #[.bool b]).run Ybad.prog w = .ok (.value (.int .u8 (if b then 1 else 0))) w :=
  (run_callFunc_extern (e := fun | #[.bool b] => pure (.int .u8 (if b then 1 else 0)) | _ => stuck "boolToUint8: a bool expected") Ybad.func52 (by kernel_rfl) (by kernel_rfl) (by kernel_rfl) (by kernel_rfl) #[.bool b] w).trans (by kernel_rfl)

set_option maxHeartbeats 1000000 in
theorem cmp_any (a b : Option Addr) (n c m d : Nat) (x y : Nat → Int) (w : World) (hx : Bs w a n x) (hy : Bs w b m y) :
    Calls Ybad.prog 39 #[.slice a n c, .slice b m d] w fun e w' => e = .returned (.int .i64 (b2i (eqB n m x y))) ∧ ∃ k, w' = w.drewN k := by
  have hl := hx.len
  have hl2 := hy.len
  have hbu := b2u_run
  by_cases hnm : n = m
  · subst hnm
    have HX : Hid (Bs w a n x) := hx
    have HY : Hid (Bs w b n y) := hy
    clear hx hy
    go_enter Ybad.func39, Ybad.ntmps39
    go_wp2
    go_loopw [5, 6] (fun v i wr => ∃ (k : Nat) (u : Int), k ≤ n ∧ i = .int .i64 k ∧ v = .int .u8 u ∧ (0 ≤ u ∧ u ≤ 255) ∧ (u = 0 ↔ ∀ j, j < k → x j = y j) ∧ ∃ q, wr = w.drewN q) (fun _ i _ => n - (intOf i).toNat)
    case atStart => exact ⟨0, 0, Nat.zero_le _, rfl, rfl, by omega, by simp, 0, rfl⟩
    case round =>
      obtain ⟨k, u, hk, rfl, rfl, hu, hsame, q, rfl⟩ := hrel
      have HS : Hid (u = 0 ↔ ∀ j, j < k → x j = y j) := hsame
      clear hsame
      by_cases hlt : k < n
      · obtain ⟨b1, o1, e1, g1⟩ := HX.out.cells k hlt
        obtain ⟨b2, o2, e2, g2⟩ := HY.out.cells k hlt
        subst e1
        subst e2
        have p0 : (k : Int) < (n : Int) := by omega
        have st := acc_step u (x k) (y k) hu (HX.out.byte k) (HY.out.byte k)
        have HT : Hid ((0 ≤ bits .or .u8 u (bits .xor .u8 (x k) (y k)) ∧ bits .or .u8 u (bits .xor .u8 (x k) (y k)) ≤ 255) ∧ (bits .or .u8 u (bits .xor .u8 (x k) (y k)) = 0 ↔ u = 0 ∧ x k = y k)) := st
        clear st
        go_wp2
        go_quiet (fail)
        go_wp2
        go_roundw
        case rel =>
          refine ⟨k + 1, _, by omega, by go_num, rfl, HT.out.1, ?_, _, rfl⟩
          rw [HT.out.2, HS.out]
          constructor
          · rintro ⟨h1, h2⟩ j hj
            rcases Nat.lt_or_ge j k with h | h
            · exact h1 j h
            · obtain rfl : j = k := by omega
              exact h2
          · exact fun h => ⟨fun j hj => h j (by omega), h k (by omega)⟩
        case measure => simp [intOf]; omega
      · obtain rfl : k = n := by omega
        by_cases h0 : u = 0
        · have e : eqB k k x y = true := eqB_yes (HS.out.1 h0)
          subst h0
          have HE : Hid (eqB k k x y = true) := e
          clear e
          go_wp2
          go_ret
          exact ⟨by rw [HE.out]; rfl, _, rfl⟩
        · have e : eqB k k x y = false := by
            cases hE : eqB k k x y with
            | false => rfl
            | true => exact absurd (HS.out.2 (by simpa [eqB] using hE)) h0
          have hb : (u == 0) = false := by simpa using h0
          have HE : Hid (eqB k k x y = false) := e
          clear e
          go_wp2
          go_ret
          exact ⟨by rw [HE.out]; rfl, _, rfl⟩
  · rw [eqB_ne hnm]
    have hne : ((n : Int) != (m : Int)) = true := by rw [bne_iff_ne]; omega
    go_enter Ybad.func39, Ybad.ntmps39
    go_wp2
    go_ret
    exact ⟨rfl, 0, rfl⟩

set_option maxHeartbeats 400000 in
theorem equal_any (a b : Option Addr) (n c m d : Nat) (x y : Nat → Int) (w : World) (hx : Bs w a n x) (hy : Bs w b m y) :
    Calls Ybad.prog 16 #[.slice a n c, .slice b m d] w fun e w' => e = .returned (.bool (eqB n m x y)) ∧ ∃ k, w' = w.drewN k := by
  have hc := cmp_any a b n c m d x y w hx hy
  have e1 : b2i true = 1 := rfl
  have e0 : b2i false = 0 := rfl
  cases h : eqB n m x y <;> rw [h] at hc
  all_goals
    go_enter Ybad.func16, Ybad.ntmps16
    go_wp2_with (first | (go_at_call 39; refine hc.mono ?_; rintro e w1 ⟨rfl, k, rfl⟩) | (go_at_call 21; go_in) | (go_at_call 29; go_in))
    go_ret
    exact ⟨rfl, k, rfl⟩
end Go.Proofs.YbulkcsbwDoor
