/-
  LawS4694CScript: 'bit', 'everyone', 'tally' by contracts.
-/
import Derived.Test.YbulkcseoProg
import Derived.Test.YbulkcseoRaw
import Derived.Test.YbulkcseoAny
import Derived.Handy
import Derived.WalkSpells
import Derived.WalkLawsBesides
import Derived.LaidEql
import Derived.Deep.QuietTactic
import Derived.BigQuiet
import Derived.Below
import Derived.Laws.BitsAllLaws
import Derived.Deep.RegionHeld
import Derived.Maps.RangeRun
set_option linter.unusedVariables false
namespace Go.Proofs.Ybulkcseo.C
open Go.RowKit


theorem pow_lt {p : Nat} (h : p ≤ 64) : 2 ^ (p - 1) < 18446744073709551616 := by
  have : 2 ^ (p - 1) ≤ 2 ^ 63 := Nat.pow_le_pow_right (by omega) (by omega)
  omega

set_option maxHeartbeats 1000000 in
theorem bit (p : Nat) (h1 : 1 ≤ p) (h2 : p ≤ 64) (w : World) : Calls Yba.prog 8 #[.int .i64 p] w fun e w' => e = .returned (.int .u64 ((2 ^ (p - 1) : Nat) : Int)) ∧ w' = w := by
  have e1 : IntKind.u64.wrap (2 ^ (p - 1)) = ((2 ^ (p - 1) : Nat) : Int) := by
    have := pow_lt h2
    rw [IntKind.wrap_u64]
    have e : ((2 : Int) ^ (p - 1)) = ((2 ^ (p - 1) : Nat) : Int) := by simp
    rw [e]
    generalize 2 ^ (p - 1) = q at this ⊢
    omega
  go_enter Yba.func8, Yba.ntmps8
  go_wp2
  go_ret
  refine ⟨?_, rfl⟩
  first | rfl | (congr 2; simpa using e1) | simp [e1]

set_option maxHeartbeats 1000000 in
theorem everyone (p : Nat) (h1 : 1 ≤ p) (h2 : p ≤ 64) (w : World) : Calls Yba.prog 11 #[.int .i64 p] w fun e w' => e = .returned (.int .u64 ((18446744073709551615 / 2 ^ (64 - p) : Nat) : Int)) ∧ w' = w := by
  go_enter Yba.func11, Yba.ntmps11
  go_wp2
  go_ret
  exact ⟨by simp, rfl⟩

def AL : Nat := 18446744073709551615
/-- Counts among the open ones; among the kept ones. -/
def oT (W S t : Nat) : Bool := decide ((t &&& W) &&& (AL - S) ≠ 0)
def kT (S t : Nat) : Bool := decide (t &&& S ≠ 0)
def b2z (b : Bool) (s : Int) : Int := if b then s else 0

/-- The window's cells. -/
structure Win (w : World) (X S W M : Nat) (o k : Int) : Prop where
  c1 : w.cell? ⟨X, 1, none⟩ = some (.int .u64 S)
  c2 : w.cell? ⟨X, 2, none⟩ = some (.int .u64 W)
  c3 : w.cell? ⟨X, 3, none⟩ = some (.map (some M))
  c4 : w.cell? ⟨X, 4, none⟩ = some (.int .i64 o)
  c5 : w.cell? ⟨X, 5, none⟩ = some (.int .i64 k)
  f2 : w.frozen? ⟨X, 2, none⟩ = false
  f4 : w.frozen? ⟨X, 4, none⟩ = false
  f5 : w.frozen? ⟨X, 5, none⟩ = false

/-- Nothing but block X has turned. -/
structure Off (X : Nat) (w w' : World) : Prop where
  os : w'.os = w.os
  tape : w'.tape = w.tape
  output : w'.output = w.output
  size : w'.heap.size = w.heap.size
  block : ∀ j, j ≠ X → w'.heap[j]? = w.heap[j]?

theorem Off.refl (X : Nat) (w : World) : Off X w w := ⟨rfl, rfl, rfl, rfl, fun _ _ => rfl⟩
theorem Off.trans {X : Nat} {a b c : World} (h : Off X a b) (k : Off X b c) : Off X a c := ⟨k.os.trans h.os, k.tape.trans h.tape, k.output.trans h.output, k.size.trans h.size, fun j hj => (k.block j hj).trans (h.block j hj)⟩
theorem Off.set {X : Nat} {a w : World} (h : Off X a w) (i : Nat) (v : Value) : Off X a (w.setCell ⟨X, i, none⟩ v) := ⟨h.os, h.tape, h.output, by simpa using h.size, fun j hj => (Below.heap_setCell _ _ _ _ hj).trans (h.block j hj)⟩
theorem Off.drew {X : Nat} {a w : World} (h : Off X a w) : Off X a w.drew := ⟨h.os, h.tape, h.output, h.size, h.block⟩
theorem Off.drewN {X : Nat} {a w : World} (h : Off X a w) (n : Nat) : Off X a (w.drewN n) := ⟨h.os, h.tape, h.output, h.size, h.block⟩

theorem Win.set4 {w : World} {X S W M : Nat} {o k : Int} (h : Win w X S W M o k) (v : Int) : Win (w.setCell ⟨X, 4, none⟩ (.int .i64 v)) X S W M v k := by
  refine ⟨?_, ?_, ?_, World.cell?_setCell_same _ _ _ h.c4, ?_, by simpa using h.f2, by simpa using h.f4, by simpa using h.f5⟩ <;> rw [World.cell?_setCell_other _ _ _ _ (by intro h; injection h; omega)]
  · exact h.c1
  · exact h.c2
  · exact h.c3
  · exact h.c5
theorem Win.set5 {w : World} {X S W M : Nat} {o k : Int} (h : Win w X S W M o k) (v : Int) : Win (w.setCell ⟨X, 5, none⟩ (.int .i64 v)) X S W M o v := by
  refine ⟨?_, ?_, ?_, ?_, World.cell?_setCell_same _ _ _ h.c5, by simpa using h.f2, by simpa using h.f4, by simpa using h.f5⟩ <;> rw [World.cell?_setCell_other _ _ _ _ (by intro h; injection h; omega)]
  · exact h.c1
  · exact h.c2
  · exact h.c3
  · exact h.c4
theorem Win.set2 {w : World} {X S W M : Nat} {o k : Int} (h : Win w X S W M o k) (v : Nat) : Win (w.setCell ⟨X, 2, none⟩ (.int .u64 v)) X S v M o k := by
  refine ⟨?_, World.cell?_setCell_same _ _ _ h.c2, ?_, ?_, ?_, by simpa using h.f2, by simpa using h.f4, by simpa using h.f5⟩ <;> rw [World.cell?_setCell_other _ _ _ _ (by intro h; injection h; omega)]
  · exact h.c1
  · exact h.c3
  · exact h.c4
  · exact h.c5
theorem Win.drew {w : World} {X S W M : Nat} {o k : Int} (h : Win w X S W M o k) : Win w.drew X S W M o k := ⟨h.c1, h.c2, h.c3, h.c4, h.c5, h.f2, h.f4, h.f5⟩
theorem Win.drewN {w : World} {X S W M : Nat} {o k : Int} (h : Win w X S W M o k) (n : Nat) : Win (w.drewN n) X S W M o k := ⟨h.c1, h.c2, h.c3, h.c4, h.c5, h.f2, h.f4, h.f5⟩
theorem Win.block {w w' : World} {X S W M : Nat} {o k : Int} (h : Win w X S W M o k) (hb : w'.heap[X]? = w.heap[X]?) : Win w' X S W M o k :=
  ⟨(World.cell?_of_block (w := w) hb).trans h.c1, (World.cell?_of_block (w := w) hb).trans h.c2, (World.cell?_of_block (w := w) hb).trans h.c3, (World.cell?_of_block (w := w) hb).trans h.c4, (World.cell?_of_block (w := w) hb).trans h.c5,
    (World.frozen?_of_block (w := w) hb).trans h.f2, (World.frozen?_of_block (w := w) hb).trans h.f4, (World.frozen?_of_block (w := w) hb).trans h.f5⟩

set_option maxHeartbeats 2000000 in
theorem tally (X S W M t : Nat) (o k s : Int) (w : World) (h : Win w X S W M o k) (hS : S < 18446744073709551616) (hW : W < 18446744073709551616) (ht : t < 18446744073709551616)
    (ho : -100 ≤ o ∧ o ≤ 100) (hk : -100 ≤ k ∧ k ≤ 100) (hs : -1 ≤ s ∧ s ≤ 1) :
    Calls Yba.prog 16 #[.pointer (some ⟨X, 0, none⟩), .int .u64 t, .int .i64 s] w fun e w' => e = .returned (.tuple #[]) ∧ Win w' X S W M (o + b2z (oT W S t) s) (k + b2z (kT S t) s) ∧ Off X w w' := by
  have H : Hid (Win w X S W M o k) := h
  have hlt : t &&& W < 18446744073709551616 := Nat.lt_of_le_of_lt Nat.and_le_left ht
  have e1 := u64_and_nat t W ht hW
  have e2 := u64_andNot_nat (t &&& W) S hlt hS
  have e3 := u64_and_nat t S ht hS
  have g1 := h.c1
  have g2 := h.c2
  have g4 := h.c4
  have g5 := h.c5
  have f4 := h.f4
  have f5 := h.f5
  clear h
  by_cases k1 : (t &&& W) &&& (18446744073709551615 - S) = 0
  · have O1 : Hid (oT W S t = false) := by show oT W S t = false; unfold oT AL; simp [k1]
    rw [k1] at e2
    by_cases k2 : t &&& S = 0
    · have K1 : Hid (kT S t = false) := by show kT S t = false; unfold kT; simp [k2]
      rw [k2] at e3
      go_enter Yba.func16, Yba.ntmps16
      go_wp2_with fail
      go_quiet (fail)
      go_wp2
      refine bodyPost_end (results_none rfl _ _ _) rfl ?_
      refine ⟨rfl, ?_, ?_⟩
      · rw [O1.out, K1.out]
        simpa [b2z] using H.out.drewN _
      · exact (Off.refl _ _).drewN _
    · have K1 : Hid (kT S t = true) := by show kT S t = true; unfold kT; simpa using k2
      obtain ⟨y, hy⟩ : ∃ y, Hid (y = t &&& S) := ⟨_, rfl⟩
      rw [← hy.out] at e3 k2
      have k2' : ¬ (y : Int) = 0 := by omega
      go_enter Yba.func16, Yba.ntmps16
      go_wp2_with fail
      go_quiet (fail)
      go_wp2
      refine bodyPost_end (results_none rfl _ _ _) rfl ?_
      refine ⟨rfl, ?_, ?_⟩
      · rw [O1.out, K1.out]
        simpa [b2z] using (H.out.drewN _).set5 _
      · exact ((Off.refl _ _).drewN _).set _ _
  · have O1 : Hid (oT W S t = true) := by show oT W S t = true; unfold oT AL; simpa using k1
    obtain ⟨x, hx⟩ : ∃ x, Hid (x = (t &&& W) &&& (18446744073709551615 - S)) := ⟨_, rfl⟩
    rw [← hx.out] at e2 k1
    have k1' : ¬ (x : Int) = 0 := by omega
    by_cases k2 : t &&& S = 0
    · have K1 : Hid (kT S t = false) := by show kT S t = false; unfold kT; simp [k2]
      rw [k2] at e3
      go_enter Yba.func16, Yba.ntmps16
      go_wp2_with fail
      go_quiet (fail)
      go_wp2
      refine bodyPost_end (results_none rfl _ _ _) rfl ?_
      refine ⟨rfl, ?_, ?_⟩
      · rw [O1.out, K1.out]
        simpa [b2z] using (H.out.drewN _).set4 _
      · exact ((Off.refl _ _).drewN _).set _ _
    · have K1 : Hid (kT S t = true) := by show kT S t = true; unfold kT; simpa using k2
      obtain ⟨y, hy⟩ : ∃ y, Hid (y = t &&& S) := ⟨_, rfl⟩
      rw [← hy.out] at e3 k2
      have k2' : ¬ (y : Int) = 0 := by omega
      go_enter Yba.func16, Yba.ntmps16
      go_wp2_with fail
      go_quiet (fail)
      go_wp2
      refine bodyPost_end (results_none rfl _ _ _) rfl ?_
      refine ⟨rfl, ?_, ?_⟩
      · rw [O1.out, K1.out]
        simpa [b2z] using ((H.out.drewN _).set4 _).set5 _
      · exact (((Off.refl _ _).drewN _).set _ _).set _ _
end Go.Proofs.Ybulkcseo.C
