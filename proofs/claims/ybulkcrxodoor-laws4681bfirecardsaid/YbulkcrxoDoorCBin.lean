/-
  The two readers of encoding/binary and the law's own 'zzs4681cbe', by contracts: each spells the number of k bytes, the greatest first.
-/
import Derived.Test.YbulkcrxoDoorProg
import Derived.Handy
import Derived.WalkSpells
import Derived.WalkLawsBesides
import Derived.Deep.QuietTactic
import Derived.BigQuiet
import Derived.Lib.EndianBits
import Derived.Stop.LaidErr
namespace Go.Proofs.YbulkcrxoDoor
open Go.RowKit

/-- The number that the k bytes from place p on spell, the greatest first. -/
def beK (z : Nat → Int) (p : Nat) : Nat → Int
  | 0 => 0
  | k + 1 => beK z p k * 256 + z (p + k)

theorem ret_int {k : IntKind} {a b : Int} (h : a = b) : Ending.returned (.int k a) = .returned (.int k b) := by rw [h]

theorem beK_bd (z : Nat → Int) (p : Nat) (hz : ∀ j, 0 ≤ z j ∧ z j ≤ 255) : ∀ k, 0 ≤ beK z p k ∧ beK z p k < 256 ^ k
  | 0 => by simp [beK]
  | k + 1 => by
    have h := beK_bd z p hz k
    have h1 := hz (p + k)
    simp only [beK, Int.pow_succ]
    omega

set_option maxHeartbeats 1000000 in
set_option maxRecDepth 100000 in
theorem uint32_any (g o n c : Nat) (z : Nat → Int) (p : Nat) (w : World) (hn : 4 ≤ n) (hz : ∀ j, 0 ≤ z j ∧ z j ≤ 255)
    (hc : ∀ j, j < 4 → w.cell? ⟨g, o + j, none⟩ = some (.int .u8 (z (p + j)))) :
    Calls Ybad.prog 26 #[.agg #[], .slice (some ⟨g, o, none⟩) n c] w fun e w' => e = .returned (.int .u32 (beK z p 4)) ∧ ∃ m, w' = (w.alloc (.cells #[] 140)).drewN m := by
  have c0 := hc 0 (by omega)
  have c1 := hc 1 (by omega)
  have c2 := hc 2 (by omega)
  have c3 := hc 3 (by omega)
  have h0 := hz (p + 0)
  have h1 := hz (p + 1)
  have h2 := hz (p + 2)
  have h3 := hz (p + 3)
  have e : beK z p 4 = ((z (p + 0) * 256 + z (p + 1)) * 256 + z (p + 2)) * 256 + z (p + 3) := by simp [beK]
  rw [e]
  clear e
  generalize z (p + 0) = b0 at *
  generalize z (p + 1) = b1 at *
  generalize z (p + 2) = b2 at *
  generalize z (p + 3) = b3 at *
  clear hc hz
  simp only [Nat.add_zero] at c0
  have d0 := cell?_alloc_old (.cells #[] 140) c0
  have d1 := cell?_alloc_old (.cells #[] 140) c1
  have d2 := cell?_alloc_old (.cells #[] 140) c2
  have d3 := cell?_alloc_old (.cells #[] 140) c3
  have q0 : 0 < n := by omega
  have q1 : (1 : Int) < (n : Int) := by omega
  have q2 : (2 : Int) < (n : Int) := by omega
  have q3 : (3 : Int) < (n : Int) := by omega
  go_enter Ybad.func26, Ybad.ntmps26
  go_wp2
  go_quiet (fail)
  go_wp2
  go_ret
  refine ⟨?_, _, rfl⟩
  simp (disch := omega) only [u32_or8, u32_or16, u32_or24]
  exact ret_int (by omega)

set_option maxHeartbeats 1000000 in
set_option maxRecDepth 100000 in
theorem uint64_any (g o n c : Nat) (z : Nat → Int) (p : Nat) (w : World) (hn : 8 ≤ n) (hz : ∀ j, 0 ≤ z j ∧ z j ≤ 255)
    (hc : ∀ j, j < 8 → w.cell? ⟨g, o + j, none⟩ = some (.int .u8 (z (p + j)))) :
    Calls Ybad.prog 36 #[.agg #[], .slice (some ⟨g, o, none⟩) n c] w fun e w' => e = .returned (.int .u64 (beK z p 8)) ∧ ∃ m, w' = (w.alloc (.cells #[] 140)).drewN m := by
  have c0 := hc 0 (by omega)
  have h0 := hz (p + 0)
  have c1 := hc 1 (by omega)
  have h1 := hz (p + 1)
  have c2 := hc 2 (by omega)
  have h2 := hz (p + 2)
  have c3 := hc 3 (by omega)
  have h3 := hz (p + 3)
  have c4 := hc 4 (by omega)
  have h4 := hz (p + 4)
  have c5 := hc 5 (by omega)
  have h5 := hz (p + 5)
  have c6 := hc 6 (by omega)
  have h6 := hz (p + 6)
  have c7 := hc 7 (by omega)
  have h7 := hz (p + 7)
  have e : beK z p 8 = ((((((z (p + 0) * 256 + z (p + 1)) * 256 + z (p + 2)) * 256 + z (p + 3)) * 256 + z (p + 4)) * 256 + z (p + 5)) * 256 + z (p + 6)) * 256 + z (p + 7) := by simp [beK]
  rw [e]
  clear e
  generalize z (p + 0) = b0 at *
  generalize z (p + 1) = b1 at *
  generalize z (p + 2) = b2 at *
  generalize z (p + 3) = b3 at *
  generalize z (p + 4) = b4 at *
  generalize z (p + 5) = b5 at *
  generalize z (p + 6) = b6 at *
  generalize z (p + 7) = b7 at *
  clear hc hz
  simp only [Nat.add_zero] at c0
  have d0 := cell?_alloc_old (.cells #[] 140) c0
  have d1 := cell?_alloc_old (.cells #[] 140) c1
  have d2 := cell?_alloc_old (.cells #[] 140) c2
  have d3 := cell?_alloc_old (.cells #[] 140) c3
  have d4 := cell?_alloc_old (.cells #[] 140) c4
  have d5 := cell?_alloc_old (.cells #[] 140) c5
  have d6 := cell?_alloc_old (.cells #[] 140) c6
  have d7 := cell?_alloc_old (.cells #[] 140) c7
  have q0 : 0 < n := by omega
  have q1 : (1 : Int) < (n : Int) := by omega
  have q2 : (2 : Int) < (n : Int) := by omega
  have q3 : (3 : Int) < (n : Int) := by omega
  have q4 : (4 : Int) < (n : Int) := by omega
  have q5 : (5 : Int) < (n : Int) := by omega
  have q6 : (6 : Int) < (n : Int) := by omega
  have q7 : (7 : Int) < (n : Int) := by omega
  go_enter Ybad.func36, Ybad.ntmps36
  go_wp2
  go_quiet (fail)
  go_wp2
  go_ret
  refine ⟨?_, _, rfl⟩
  simp (disch := omega) only [u64_or8, u64_or16, u64_or24, u64_or32, u64_or40, u64_or48, u64_or56]
  exact ret_int (by omega)

/-- 'v<<8 | b' on a uint64 whose top byte is nought. -/
theorem shl8_or (v b : Int) (hv : 0 ≤ v ∧ v < 72057594037927936) (hb : 0 ≤ b ∧ b ≤ 255) : bits .or .u64 (IntKind.u64.wrap (v * 256)) b = v * 256 + b := by
  rw [u64_wrap_id _ (by omega) (by omega)]
  exact bits_join .u64 64 (by decide) wraps_u64 8 (v * 256) b (by omega) (by omega) (by omega) (by omega) (by omega) (by omega)

/-- What the next k bytes from place p on read as; nought where they run past the end. -/
def fld (z : Nat → Int) (n p k : Nat) : Int := if p + k ≤ n then beK z p k else 0

set_option maxHeartbeats 400000 in
/-- 'zzs4681cbe': the number of the k bytes from place p on, or nought where they run past the end. -/
theorem cbe_any (a : Option Addr) (b off n c : Nat) (z : Nat → Int) (p k : Nat) (w : World) (hn : n ≤ 4096) (hp : p ≤ 4096) (hk : k ≤ 8) (hz : ∀ j, 0 ≤ z j ∧ z j ≤ 255)
    (ha : 0 < n → a = some ⟨b, off, none⟩) (hc : ∀ j, j < n → w.cell? ⟨b, off + j, none⟩ = some (.int .u8 (z j))) :
    Calls Ybad.prog 29 #[.slice a n c, .int .i64 p, .int .i64 k] w fun e w' => e = .returned (.int .u64 (fld z n p k)) ∧ w' = w := by
  by_cases hle : p + k ≤ n
  · rw [fld, if_pos hle]
    have hd : decide ((n : Int) < (p : Int) + (k : Int)) = false := decide_eq_false (by omega)
    go_enter Ybad.func29, Ybad.ntmps29
    go_wp2
    go_loop [7, 8] (fun v i => ∃ j : Nat, j ≤ k ∧ i = .int .i64 j ∧ v = .int .u64 (beK z p j)) (fun _ i => k - (intOf i).toNat)
    case atStart => exact ⟨0, Nat.zero_le _, rfl, rfl⟩
    case round =>
      obtain ⟨j, hj, rfl, rfl⟩ := hrel
      have hb := beK_bd z p hz j
      by_cases hlt : j < k
      · have hb2 : beK z p j < 72057594037927936 := by
          have h7 : (256 : Nat) ^ j ≤ 256 ^ 7 := Nat.pow_le_pow_right (by decide) (by omega)
          have h8 : ((256 ^ j : Nat) : Int) = (256 : Int) ^ j := by simp
          omega
        have hz1 := hz (p + j)
        have ea := ha (by omega)
        have hcj := hc (p + j) (by omega)
        have HS : Hid (bits .or .u64 (IntKind.u64.wrap (beK z p j * 256)) (z (p + j)) = beK z p (j + 1)) := shl8_or _ _ ⟨hb.1, hb2⟩ hz1
        subst ea
        clear hz hb ha hc
        go_wp2
        go_round
        case rel => exact ⟨j + 1, by omega, by go_num, by rw [← HS.out]⟩
        case measure => simp [intOf]; omega
      · have : j = k := by omega
        subst this
        go_wp2
        go_ret
        exact ⟨rfl, rfl⟩
  · rw [fld, if_neg hle]
    have : (n : Int) < (p : Int) + (k : Int) := by omega
    go_enter Ybad.func29, Ybad.ntmps29
    go_wp2
    go_ret
    exact ⟨rfl, rfl⟩

end Go.Proofs.YbulkcrxoDoor
