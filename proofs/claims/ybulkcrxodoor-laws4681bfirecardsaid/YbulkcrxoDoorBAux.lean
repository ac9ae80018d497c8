/-
  LawS4681BFire: the law's small helpers by contracts: paths, events, 'split'.
-/
import Derived.Test.YbulkcrxoDoorBNot
import Derived.WalkKit
import Derived.BigQuiet
import Derived.Deep.QuietTactic
import Derived.Test.YbulkcrxoDoorFBd
set_option linter.unusedVariables false
namespace Go.Proofs.YbulkcrxoDoor.F
open Go.RowKit Go.Any

/-- The law's paths. -/
def pb (i : Nat) : ByteArray := if i = 0 then ⟨#[47]⟩ else if i = 1 then ⟨#[47, 97]⟩ else if i = 2 then ⟨#[47, 97, 47, 98]⟩ else ⟨#[47, 98]⟩
/-- The parent's number. -/
def pr (i : Nat) : Nat := if i = 2 then 1 else 0
/-- The law's events. -/
def evn (i : Nat) : Nat := if i = 0 then 1 else if i = 1 then 2 else if i = 2 then 3 else if i = 3 then 4 else 0
theorem pb_size (i : Nat) : (pb i).size ≤ 8 := by
  unfold pb
  split
  · decide
  · split
    · decide
    · split <;> decide
theorem pb_inj {i j : Nat} (hi : i < 4) (hj : j < 4) (h : pb i = pb j) : i = j := by
  have key : ∀ i : Fin 4, ∀ j : Fin 4, (pb i.val).data.toList = (pb j.val).data.toList → i = j := by decide
  have := key ⟨i, hi⟩ ⟨j, hj⟩ (by show (pb i).data.toList = (pb j).data.toList; rw [h])
  injection this

theorem bpath (i : Nat) (hi : i < 4) (w : World) : Calls Ybad.prog 13 #[.int .i64 (i : Int)] w fun e w' => e = .returned (.string (pb i)) ∧ w' = w := by
  rcases (show i = 0 ∨ i = 1 ∨ i = 2 ∨ i = 3 by omega) with rfl | rfl | rfl | rfl
  all_goals
    go_enter Ybad.func13, Ybad.ntmps13
    go_wp2
    go_ret
    exact ⟨rfl, rfl⟩
theorem bev (i : Nat) (hi : i < 5) (w : World) : Calls Ybad.prog 12 #[.int .i64 (i : Int)] w fun e w' => e = .returned (.int .i32 (evn i : Int)) ∧ w' = w := by
  rcases (show i = 0 ∨ i = 1 ∨ i = 2 ∨ i = 3 ∨ i = 4 by omega) with rfl | rfl | rfl | rfl | rfl
  all_goals
    go_enter Ybad.func12, Ybad.ntmps12
    go_wp2
    go_ret
    exact ⟨rfl, rfl⟩

theorem last1 (w : World) (c : UInt8) (hc : ¬ (c.toNat : Int) = 47) : Calls Ybad.prog 39 #[.string ⟨#[47, c]⟩, .int .u8 47] w fun e w' => e = .returned (.int .i64 0) ∧ w' = w := by
  have x1 : ¬ (((⟨#[47, c]⟩ : ByteArray)[1]'(by show 1 < 2; omega)).toNat : Int) = 47 := hc
  have x0 : (((⟨#[47, c]⟩ : ByteArray)[0]'(by show 0 < 2; omega)).toNat : Int) = 47 := rfl
  go_enter Ybad.func39, Ybad.ntmps39
  go_wp2_with fail
  go_loopw [5] (fun iv wz => (iv = .int .i64 1 ∨ iv = .int .i64 0) ∧ wz = w) (fun iv _ => (intOf iv).toNat)
  case atStart => exact ⟨.inl rfl, rfl⟩
  case round =>
    obtain ⟨rfl | rfl, rfl⟩ := hrel
    · go_wp2
      exact ⟨⟨.inr rfl, trivial⟩, by simp [intOf]⟩
    · go_wp2
      go_ret
      exact ⟨rfl, rfl⟩
theorem last3 (w : World) : Calls Ybad.prog 39 #[.string ⟨#[47, 97, 47, 98]⟩, .int .u8 47] w fun e w' => e = .returned (.int .i64 2) ∧ w' = w := by
  have x1 : ¬ (((⟨#[47, 97, 47, 98]⟩ : ByteArray)[3]'(by show 3 < 4; omega)).toNat : Int) = 47 := by decide
  have x0 : (((⟨#[47, 97, 47, 98]⟩ : ByteArray)[2]'(by show 2 < 4; omega)).toNat : Int) = 47 := rfl
  go_enter Ybad.func39, Ybad.ntmps39
  go_wp2_with fail
  go_loopw [5] (fun iv wz => (iv = .int .i64 3 ∨ iv = .int .i64 2) ∧ wz = w) (fun iv _ => (intOf iv).toNat)
  case atStart => exact ⟨.inl rfl, rfl⟩
  case round =>
    obtain ⟨rfl | rfl, rfl⟩ := hrel
    · go_wp2
      exact ⟨⟨.inr rfl, trivial⟩, by simp [intOf]⟩
    · go_wp2
      go_ret
      exact ⟨rfl, rfl⟩
theorem split_ (i : Nat) (hi : 1 ≤ i ∧ i ≤ 3) (w : World) : Calls Ybad.prog 25 #[.string (pb i)] w fun e w' => (∃ n, e = .returned (.tuple #[.string (pb (pr i)), n])) ∧ Below w.heap.size w w' := by
  rcases (show i = 1 ∨ i = 2 ∨ i = 3 by omega) with rfl | rfl | rfl
  · show Calls Ybad.prog 25 #[.string ⟨#[47, 97]⟩] w _
    go_enter Ybad.func25, Ybad.ntmps25
    go_wp2_with first | (go_at_call 39; refine (last1 _ 97 (by decide)).mono ?_; rintro e w1 ⟨rfl, rfl⟩) | (go_at_call 34; go_in)
    go_quiet (fail)
    go_wp2
    go_ret2
    exact ⟨⟨_, rfl⟩, Below.same (Below.refl _ _) rfl ⟨rfl, rfl, rfl⟩⟩
  · show Calls Ybad.prog 25 #[.string ⟨#[47, 97, 47, 98]⟩] w _
    go_enter Ybad.func25, Ybad.ntmps25
    go_wp2_with first | (go_at_call 39; refine (last3 _).mono ?_; rintro e w1 ⟨rfl, rfl⟩) | (go_at_call 34; go_in)
    go_quiet (fail)
    go_wp2
    go_ret2
    exact ⟨⟨_, rfl⟩, Below.same (Below.refl _ _) rfl ⟨rfl, rfl, rfl⟩⟩
  · show Calls Ybad.prog 25 #[.string ⟨#[47, 98]⟩] w _
    go_enter Ybad.func25, Ybad.ntmps25
    go_wp2_with first | (go_at_call 39; refine (last1 _ 98 (by decide)).mono ?_; rintro e w1 ⟨rfl, rfl⟩) | (go_at_call 34; go_in)
    go_quiet (fail)
    go_wp2
    go_ret2
    exact ⟨⟨_, rfl⟩, Below.same (Below.refl _ _) rfl ⟨rfl, rfl, rfl⟩⟩
end Go.Proofs.YbulkcrxoDoor.F
