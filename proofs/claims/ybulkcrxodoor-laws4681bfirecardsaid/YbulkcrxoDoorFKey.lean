/-
  LawS4681AFires, LawS4681BFire: the two kinds of keys: a watch's key (a struct), a session (a pointer).
-/
import Derived.Test.YbulkcrxoDoorProg
import Derived.Test.YbulkcrxoDoorRaw
import Derived.Test.YbulkcrxoDoorAny
import Derived.Handy
import Derived.WalkSpells
import Derived.WalkLawsBesides
import Derived.LaidEql
import Derived.LaidEqlPtr
import Derived.Laws.StructEq
import Derived.Deep.QuietTactic
import Derived.BigQuiet
import Derived.Below
import Derived.Deep.RegionHeld
import Derived.Maps.RangeRun
set_option linter.unusedVariables false
namespace Go.Proofs.YbulkcrxoDoor.F
open Go.RowKit
open Go.ChangeMaps (setBlock)

/-- The four sessions' blocks: cells, none of them frozen, no two the same. -/
structure Sess (w : World) (SB : Fin 4 → Nat) : Prop where
  blk : ∀ i, ∃ c t, w.heap[SB i]? = some (.cells c t (0, 0))
  inj : ∀ i j, SB i = SB j → i = j
def kvS (SB : Fin 4 → Nat) (i : Fin 4) : Value := .pointer (some ⟨SB i, 0, none⟩)
abbrev Key := ByteArray × Nat
def kvK (k : Key) : Value := .agg #[.string k.1, .int .u8 (k.2 : Int)]

theorem info32 : ∃ j, Ybad.prog.info? 32 = some j ∧ j.size = 21 := by
  have h : (Ybad.prog.info? 32).map (·.size) = some 21 := by kernel_rfl
  cases hi : Ybad.prog.info? 32 with
  | none => simp [hi] at h
  | some j => simp [hi] at h; exact ⟨j, rfl, h⟩

theorem eq_sess {w : World} {SB : Fin 4 → Nat} (h : Sess w SB) (a b : Fin 4) : (Op.equal 25 (kvS SB a) (kvS SB b)).run Ybad.prog w = .ok (decide (a = b)) w := by
  obtain ⟨j, hj, hsz⟩ := info32
  by_cases e : a = b
  · subst e
    have : ∀ d : Nat, (Op.equalIn (d + 1) 25 (kvS SB a) (kvS SB a)).run Ybad.prog w = .ok true w := fun d => by
      simp [Op.equalIn, kvS, run_underlying Ybad.underlying25, sizeOf, typeInfo, hj, run_sameAddr_same]
    simpa [Op.equal, Op.maxDepth] using this 9999
  · obtain ⟨ca, ta, ha⟩ := h.blk a
    obtain ⟨cb, tb, hb⟩ := h.blk b
    have hne : (⟨SB a, 0, none⟩ : Addr) ≠ ⟨SB b, 0, none⟩ := fun q => e (h.inj a b (by injection q))
    have : ∀ d : Nat, (Op.equalIn (d + 1) 25 (kvS SB a) (kvS SB b)).run Ybad.prog w = .ok false w := fun d => by
      simp [Op.equalIn, kvS, run_underlying Ybad.underlying25, sizeOf, typeInfo, hj, hsz, run_sameAddr_other w hne ha hb]
    simpa [Op.equal, Op.maxDepth, e] using this 9999

theorem sessKeys {w : World} {SB : Fin 4 → Nat} (h : Sess w SB) : RM.KeyT (kvS SB) Ybad.prog 25 w :=
  RM.keyT_ask (kvS SB) Ybad.underlying25 (fun _ _ => rfl) (fun a b q => h.inj a b (by unfold kvS at q; injection q with q; injection q with q; injection q))
    (fun k em => by
      have : ∀ d : Nat, (Instr.checkKey em (d + 1) 25 (kvS SB k)).run Ybad.prog w = .ok () w := fun d => by
        simp [Instr.checkKey, kvS, run_underlying Ybad.underlying25]
      exact this 9999)
    (eq_sess h) (fun k => by simp [kvS, Instr.sameBits])

theorem held61 : Ybad.prog.stoodInHeld 61 = false := by kernel_rfl
theorem fields61 : Ybad.prog.underlying 61 = some (.struct (Ybad.prog.fieldsOf 61)) := by
  simp [Program.fieldsOf, Ybad.underlying61]

theorem bytes_eq (a b : ByteArray) : (a.toList == b.toList) = decide (a = b) := by
  rw [ByteArray.toList_eq, ByteArray.toList_eq]
  by_cases h : a = b
  · subst h; simp
  · have : a.data ≠ b.data := fun q => h (by
      cases a; cases b
      simp at q
      rw [q])
    simp [h, this]

theorem key_dec (a b : Key) : decide (a = b) = (decide (a.1 = b.1) && decide ((a.2 : Int) = (b.2 : Int))) := by
  obtain ⟨a1, a2⟩ := a
  obtain ⟨b1, b2⟩ := b
  by_cases h1 : a1 = b1 <;> by_cases h2 : a2 = b2 <;> simp [h1, h2]
  omega
theorem eq_key (w : World) (a b : Key) : (Op.equal 61 (kvK a) (kvK b)).run Ybad.prog w = .ok (decide (a = b)) w := by
  have : ∀ d : Nat, (Op.equalIn (d + 1 + 1) 61 (kvK a) (kvK b)).run Ybad.prog w = .ok (decide (a = b)) w := fun d => by
    unfold kvK
    rw [run_equalIn_struct w (d + 1) 61 _ _ fields61 held61]
    have e1 := run_equalIn_string (P := Ybad.prog) w d 9 a.1 b.1 Ybad.underlying9
    have e2 := run_equalIn_int (P := Ybad.prog) w d 59 .u8 .u8 (a.2 : Int) (b.2 : Int) Ybad.underlying59
    rw [bytes_eq] at e1
    simp [Program.fieldsOf, Ybad.underlying61, Op.eqFields, part, Ybad.isAgg9, Ybad.isAgg59, e1, e2]
    rw [key_dec]
    by_cases h : a.1 = b.1
    · by_cases h2 : (a.2 : Int) = (b.2 : Int) <;> simp [h, h2]
    · simp [h]
  exact this 9998

theorem watchKeys (w : World) : RM.KeyT kvK Ybad.prog 61 w :=
  RM.keyT_ask kvK Ybad.underlying61 (fun _ _ => rfl) (fun a b q => by
      unfold kvK at q
      simp at q
      exact Prod.ext q.1 (by omega))
    (fun k em => by
      have : ∀ d : Nat, (Instr.checkKey em (d + 1 + 1) 61 (kvK k)).run Ybad.prog w = .ok () w := fun d => by
        simp [Instr.checkKey, kvK, run_underlying Ybad.underlying61, run_underlying Ybad.underlying9, run_underlying Ybad.underlying59, part, Ybad.isAgg9, Ybad.isAgg59]
      exact this 9998)
    (eq_key w) (fun k => by simp [kvK, Instr.sameBits, beq_toListBytes])
end Go.Proofs.YbulkcrxoDoor.F
