/-
  LawS4687CFirst: the closure and 'firstRefusal' by contracts.
-/
import Derived.Test.YbulkcsauProg
import Derived.Handy
import Derived.WalkSpells
import Derived.WalkLawsBesides
import Derived.LaidEql
import Derived.Deep.QuietTactic
import Derived.BigQuiet
namespace Go.Proofs.Ybulkcsau
open Go.RowKit

theorem Yba.info3 : (Yba.prog.info? 3).map (fun i => (i.zero, i.size, i.bytes)) = some (some (.int .i64 0), 1, 8) := by kernel_rfl

/-- Does 'refuse' refuse index i? -/
def hit (fl : Nat) (f : Nat → Bool) (i : Nat) : Bool := decide (i < fl) && f i

/-- What has been logged: 0, 1, .., m - 1. -/
def upto (m : Nat) : List Value := (List.range m).map fun j : Nat => .int .i64 (j : Int)

theorem upto_succ (m : Nat) : upto (m + 1) = upto m ++ [.int .i64 (m : Int)] := by simp [upto, List.range_succ]

/-- The law's own variables when 'refuse' has been called m times: the flags (B), the sentinel (B + 2), the log (B + 3). -/
structure Inv (w0 w : World) (B : Nat) (fa : Option Addr) (fl fc : Nat) (m : Nat) : Prop where
  flags : w.heap[B]? = some (.cells #[.slice fa fl fc] 22 (0, 0))
  sent : w.heap[B + 2]? = some (.cells #[.iface 35 (.pointer (some ⟨B + 1, 0, none⟩))] 24 (0, 0))
  log : ∃ v, w.heap[B + 3]? = some (.cells #[v] 26 (0, 0)) ∧ w.ownsRow (B + 4) 3 1 v m (upto m)
  old : Below B w0 w

theorem Inv.size {w0 w : World} {B : Nat} {fa : Option Addr} {fl fc m : Nat} (h : Inv w0 w B fa fl fc m) : B + 4 ≤ w.heap.size := by
  obtain ⟨v, hv, _⟩ := h.log
  have := lt_of_block hv
  omega

theorem Inv.alloc {w0 w : World} {B : Nat} {fa : Option Addr} {fl fc m : Nat} (h : Inv w0 w B fa fl fc m) (o : Obj) : Inv w0 (w.alloc o) B fa fl fc m := by
  have hs := h.size
  obtain ⟨v, hv, ho⟩ := h.log
  exact ⟨(Below.heap_alloc _ _ _ (by omega)).trans h.flags, (Below.heap_alloc _ _ _ (by omega)).trans h.sent, ⟨v, (Below.heap_alloc _ _ _ (by omega)).trans hv, ho.alloc o⟩, h.old.alloc (by omega) o⟩

/-- Behind 'log = append(log, m)'. -/
theorem Inv.next {w0 w w1 : World} {B : Nat} {fa : Option Addr} {fl fc m : Nat} {v v' : Value} {o : Obj} (h : Inv w0 w B fa fl fc m) (hv : w.heap[B + 3]? = some (.cells #[v] 26 (0, 0))) (hown : w.ownsRow (B + 4) 3 1 v m (upto m))
    (hown1 : w1.ownsRow (B + 4) 3 1 v' (m + 1) (upto m ++ [.int .i64 (m : Int)])) (hg : (w.alloc o).grownBy w1 v.ownBlock) : Inv w0 (w1.setCell ⟨B + 3, 0, none⟩ v') B fa fl fc (m + 1) := by
  have hs := h.size
  have hk : ∀ k, k < B + 4 → w1.heap[k]? = w.heap[k]? := fun k hk => by
    refine (hg.block k (by simp; omega) (fun e => ?_)).trans (Below.heap_alloc _ _ _ (by omega))
    have := hown.lt k e.symm
    omega
  refine ⟨?_, ?_, ⟨v', one_setCell ((hk (B + 3) (by omega)).trans hv), ?_⟩, ?_⟩
  · exact (Below.heap_setCell _ _ _ _ (by show B ≠ B + 3; omega)).trans ((hk B (by omega)).trans h.flags)
  · exact (Below.heap_setCell _ _ _ _ (by show B + 2 ≠ B + 3; omega)).trans ((hk (B + 2) (by omega)).trans h.sent)
  · rw [upto_succ]; exact ownsRow_setCell_below hown1 (by show B + 3 < B + 4; omega) _
  · refine ((h.old.alloc (by omega) o).grown hg (by simp; omega) (fun k e => ?_)).setCell (by show B ≤ B + 3; omega) _
    have := hown.lt k e
    omega

/-- The two answers of 'refuse'. -/
def answer (B : Nat) (b : Bool) : Value := if b then .iface 35 (.pointer (some ⟨B + 1, 0, none⟩)) else .nilIface

/-- The blocks below the log's rows behind the append. -/
theorem Inv.mid {w0 w w1 : World} {B : Nat} {fa : Option Addr} {fl fc m : Nat} {v : Value} {o : Obj} (h : Inv w0 w B fa fl fc m) (hown : w.ownsRow (B + 4) 3 1 v m (upto m))
    (hg : (w.alloc o).grownBy w1 v.ownBlock) : ∀ k, k < B + 4 → w1.heap[k]? = w.heap[k]? := fun k hk => by
  have hs := h.size
  refine (hg.block k (by simp; omega) (fun e => ?_)).trans (Below.heap_alloc _ _ _ (by omega))
  have := hown.lt k e.symm
  omega

theorem ownsRow_shape {w : World} {base : Nat} {e : TypeId} {size : Nat} {v : Value} {n : Nat} {xs : List Value} (h : w.ownsRow base e size v n xs) : ∃ a c, v = .slice a n c := by
  rcases h.2 with ⟨rfl, rfl⟩ | ⟨g, cap, _, rfl, _⟩
  · exact ⟨none, 0, rfl⟩
  · exact ⟨_, cap, rfl⟩

set_option maxHeartbeats 1000000 in
theorem refuse_yes (w0 w : World) (B b off fl fc m : Nat) (f : Nat → Bool) (fa : Option Addr) (hm : m ≤ 4096) (h : Inv w0 w B fa fl fc m) (_hfl : fl ≤ 9223372036854775807)
    (hfa : 0 < fl → fa = some ⟨b, off, none⟩) (hc : ∀ j, j < fl → w.cell? ⟨b, off + j, none⟩ = some (.bool (f j)) ∧ b < B) (hh : hit fl f m = true) :
    Calls Yba.prog 5 #[.int .i64 m, .pointer (some ⟨B + 3, 0, none⟩), .pointer (some ⟨B, 0, none⟩), .pointer (some ⟨B + 2, 0, none⟩)] w fun e w' => e = .returned (.iface 35 (.pointer (some ⟨B + 1, 0, none⟩))) ∧ Inv w0 w' B fa fl fc (m + 1) := by
  obtain ⟨v, hv, hown⟩ := h.log
  have hs := h.size
  simp only [hit, Bool.and_eq_true, decide_eq_true_eq] at hh
  obtain ⟨h1, h2⟩ := hh
  obtain rfl := hfa (by omega)
  obtain ⟨i0, hi, hz0, hz1, hz2⟩ := info_parts Yba.info3
  have cL := cell_of_one hv
  have HI : Hid (Inv w0 w B (some ⟨b, off, none⟩) fl fc m) := h
  have Hv : Hid (w.heap[B + 3]? = some (.cells #[v] 26 (0, 0))) := hv
  have HC : Hid (w.cell? ⟨b, off + m, none⟩ = some (.bool true) ∧ b < B) := by rw [← h2]; exact hc m h1
  clear hv h hc hfa h2
  go_enter Yba.func5, Yba.ntmps5
  go_wp2_with (at_builtin; refine wpList_append_own _ rfl _ _ 26 rfl (B + 4) 3 i0 (.int .i64 0) 1 8 Yba.underlying26 hi hz0 hz1 hz2 rfl (by decide) _ _ _ rfl (hown.alloc _) ⟨w.heap.size, 0, none⟩ 1 1 [.int .i64 (m : Int)] rfl rfl (cell_one_new _ _ _) (ints_oneCell .i64 [(m : Int)]) (by unfold maxLen; omega) (by omega) (by simp; omega) ?_)
  intro v' w1 hown1 hg _
  have R := HI.out.next Hv.out hown hown1 hg
  have hk := HI.out.mid hown hg
  obtain ⟨a1, c1, hv'⟩ := ownsRow_shape hown1
  rw [hv'] at R ⊢
  have g3 := cell_of_one ((hk (B + 3) (by omega)).trans Hv.out)
  have f3 := free_of_one ((hk (B + 3) (by omega)).trans Hv.out)
  have g0 := cell_of_one ((hk B (by omega)).trans HI.out.flags)
  have g2 := cell_of_one ((hk (B + 2) (by omega)).trans HI.out.sent)
  have gb : w1.cell? ⟨b, off + m, none⟩ = some (.bool true) := (World.cell?_of_block (w := w) (hk b (by have := HC.out.2; omega))).trans HC.out.1
  have hbB : b < B := HC.out.2
  clear hk hown hown1 hg cL hi hz0 hz1 hz2 hv'
  go_wp2
  go_ret
  exact ⟨rfl, R⟩

set_option maxHeartbeats 1000000 in
theorem refuse_no (w0 w : World) (B b off fl fc m : Nat) (f : Nat → Bool) (fa : Option Addr) (hm : m ≤ 4096) (h : Inv w0 w B fa fl fc m) (_hfl : fl ≤ 9223372036854775807)
    (hfa : 0 < fl → fa = some ⟨b, off, none⟩) (hc : ∀ j, j < fl → w.cell? ⟨b, off + j, none⟩ = some (.bool (f j)) ∧ b < B) (hh : hit fl f m = false) :
    Calls Yba.prog 5 #[.int .i64 m, .pointer (some ⟨B + 3, 0, none⟩), .pointer (some ⟨B, 0, none⟩), .pointer (some ⟨B + 2, 0, none⟩)] w fun e w' => e = .returned .nilIface ∧ Inv w0 w' B fa fl fc (m + 1) := by
  obtain ⟨v, hv, hown⟩ := h.log
  have hs := h.size
  obtain ⟨i0, hi, hz0, hz1, hz2⟩ := info_parts Yba.info3
  have cL := cell_of_one hv
  have HI : Hid (Inv w0 w B fa fl fc m) := h
  have Hv : Hid (w.heap[B + 3]? = some (.cells #[v] 26 (0, 0))) := hv
  have HC : Hid (∀ j, j < fl → w.cell? ⟨b, off + j, none⟩ = some (.bool (f j)) ∧ b < B) := hc
  have HH : Hid (hit fl f m = false) := hh
  have HA : Hid (0 < fl → fa = some ⟨b, off, none⟩) := hfa
  clear hv h hc hfa hh
  go_enter Yba.func5, Yba.ntmps5
  go_wp2_with (at_builtin; refine wpList_append_own _ rfl _ _ 26 rfl (B + 4) 3 i0 (.int .i64 0) 1 8 Yba.underlying26 hi hz0 hz1 hz2 rfl (by decide) _ _ _ rfl (hown.alloc _) ⟨w.heap.size, 0, none⟩ 1 1 [.int .i64 (m : Int)] rfl rfl (cell_one_new _ _ _) (ints_oneCell .i64 [(m : Int)]) (by unfold maxLen; omega) (by omega) (by simp; omega) ?_)
  intro v' w1 hown1 hg _
  have R := HI.out.next Hv.out hown hown1 hg
  have hk := HI.out.mid hown hg
  obtain ⟨a1, c1, hv'⟩ := ownsRow_shape hown1
  rw [hv'] at R ⊢
  have g3 := cell_of_one ((hk (B + 3) (by omega)).trans Hv.out)
  have f3 := free_of_one ((hk (B + 3) (by omega)).trans Hv.out)
  have g0 := cell_of_one ((hk B (by omega)).trans HI.out.flags)
  have hkb := fun (h : b < B) => World.cell?_of_block (w := w) (w' := w1) (a := ⟨b, off + m, none⟩) (hk b (by omega))
  clear hk hown hown1 hg cL hi hz0 hz1 hz2 hv'
  by_cases h1 : m < fl
  · have h2 : f m = false := by have := HH.out; simpa [hit, h1] using this
    have gb : w1.cell? ⟨b, off + m, none⟩ = some (.bool false) := by rw [← h2, ← (HC.out m h1).1]; exact hkb (HC.out m h1).2
    have hbB : b < B := (HC.out m h1).2
    have e := HA.out (by omega)
    subst e
    clear h2 hkb
    go_wp2
    go_ret
    exact ⟨rfl, R⟩
  · clear hkb
    go_wp2
    go_ret
    exact ⟨rfl, R⟩

/-- What 'firstRefusal' has done when it returns: n calls and no refusal, or a refusal at k. -/
def Done (w0 w' : World) (B : Nat) (fa : Option Addr) (fl fc N : Nat) (f : Nat → Bool) (kind : ByteArray) (r : Value) : Prop :=
  (r = .nilIface ∧ Inv w0 w' B fa fl fc N ∧ ∀ j, j < N → hit fl f j = false) ∨
  ∃ k g, k < N ∧ hit fl f k = true ∧ (∀ j, j < k → hit fl f j = false) ∧ Inv w0 w' B fa fl fc (k + 1) ∧ B + 4 ≤ g ∧ r = .iface 30 (.pointer (some ⟨g, 0, none⟩)) ∧
    w'.heap[g]? = some (.cells #[.string kind, .int .i64 ((k : Int) + 1), .iface 35 (.pointer (some ⟨B + 1, 0, none⟩))] 33 (0, 0))

set_option maxHeartbeats 1000000 in
theorem first_any (w0 w : World) (B b off fl fc : Nat) (n : Int) (f : Nat → Bool) (fa : Option Addr) (kind : ByteArray) (hn : n ≤ 1024) (hn0 : -9223372036854775808 ≤ n) (h : Inv w0 w B fa fl fc 0) (hfl : fl ≤ 9223372036854775807)
    (hfa : 0 < fl → fa = some ⟨b, off, none⟩) (hc : ∀ j, j < fl → w0.cell? ⟨b, off + j, none⟩ = some (.bool (f j)) ∧ b < B) :
    Calls Yba.prog 6 #[.string kind, .int .i64 n, .func (.func 5) #[] #[.pointer (some ⟨B + 3, 0, none⟩), .pointer (some ⟨B, 0, none⟩), .pointer (some ⟨B + 2, 0, none⟩)]] w fun e w' => ∃ r, e = .returned r ∧ Done w0 w' B fa fl fc n.toNat f kind r := by
  go_enter Yba.func6, Yba.ntmps6
  go_wp2_with fail
  go_loopw [10] (fun i wr => ∃ k : Nat, k ≤ n.toNat ∧ i = .int .i64 k ∧ Inv w0 wr B fa fl fc k ∧ ∀ j, j < k → hit fl f j = false) (fun i _ => n.toNat - (intOf i).toNat)
  case atStart => exact ⟨0, Nat.zero_le _, rfl, h, fun j hj => by omega⟩
  case round =>
    obtain ⟨k, hk, rfl, hI, hno⟩ := hrel
    have HN : Hid (∀ j, j < k → hit fl f j = false) := hno
    have hcw : ∀ j, j < fl → wr.cell? ⟨b, off + j, none⟩ = some (.bool (f j)) ∧ b < B := fun j hj => ⟨(hI.old.cell (p := ⟨b, off + j, none⟩) (hc j hj).2).trans (hc j hj).1, (hc j hj).2⟩
    have HC : Hid (∀ j, j < fl → wr.cell? ⟨b, off + j, none⟩ = some (.bool (f j)) ∧ b < B) := hcw
    clear hno hcw
    by_cases hlt : (k : Int) < n
    · by_cases hh : hit fl f k = true
      · have hr := refuse_yes w0 wr B b off fl fc k f fa (by omega) hI hfl hfa HC.out hh
        have HH : Hid (hit fl f k = true) := hh
        clear hh
        go_wp2_with fail
        refine hr.mono ?_
        rintro e w1 ⟨rfl, hI1⟩
        have hs1 := hI1.size
        clear hr
        go_wp2_with fail
        go_ret
        refine ⟨_, rfl, .inr ⟨k, w1.heap.size, by omega, HH.out, HN.out, hI1.alloc _, hs1, rfl, heap_alloc_new _ _⟩⟩
      · have hr := refuse_no w0 wr B b off fl fc k f fa (by omega) hI hfl hfa HC.out (by simpa using hh)
        have HH : Hid (hit fl f k = false) := (show hit fl f k = false by simpa using hh)
        clear hh
        go_wp2_with fail
        refine hr.mono ?_
        rintro e w1 ⟨rfl, hI1⟩
        clear hr
        go_wp2_with fail
        go_roundw
        case rel => exact ⟨k + 1, by omega, by go_num, hI1, fun j hj => by
          rcases Nat.lt_or_ge j k with h | h
          · exact HN.out j h
          · obtain rfl : j = k := by omega
            exact HH.out⟩
        case measure => simp [intOf]; omega
    · have : k = n.toNat := by omega
      subst this
      go_wp2_with fail
      go_ret
      exact ⟨_, rfl, .inl ⟨rfl, hI, HN.out⟩⟩
end Go.Proofs.Ybulkcsau
