/-
  LawS4694BMedian: 'newWaitRank' and 'newHearing' by contracts: rows are made in any order.
-/
import Derived.Test.YbulkcseoProg
import Derived.Test.YbulkcseoAny
import Derived.Handy
import Derived.WalkSpells
import Derived.WalkLawsBesides
import Derived.LaidEql
import Derived.Deep.QuietTactic
import Derived.BigQuiet
import Derived.Deep.MidRow
import Derived.Deep.RegionHeld
import Derived.Below
namespace Go.Proofs.Ybulkcseo
open Go.RowKit Go.Any

theorem info_of {t : TypeId} {z : Value} {s b : Nat} (h : (Yba.prog.info? t).map (fun i => (i.zero, i.size, i.bytes)) = some (some z, s, b)) : ∃ i, Yba.prog.info? t = some i ∧ i.zero = some z ∧ i.size = s ∧ i.bytes = b := by
  cases hi : Yba.prog.info? t with
  | none => simp [hi] at h
  | some i => simp [hi] at h; exact ⟨i, rfl, h.1, h.2.1, h.2.2⟩

/-- Listed. -/
def On (l : Array Bool) (j : Nat) : Prop := l.getD j false = true
theorem On.of_set {l : Array Bool} {i j : Nat} (h : On (l.setIfInBounds i true) j) (hne : i ≠ j) : On l j := by
  unfold On at *
  rwa [getD_set_ne _ hne] at h
theorem On.set {l : Array Bool} {j : Nat} (i : Nat) (h : On l j) : On (l.setIfInBounds i true) j := getD_set_true h
theorem not_on {j k : Nat} (h : On (Array.replicate j false) k) : False := by
  unfold On at h
  by_cases hk : k < j <;> simp [Array.getD, hk] at h

theorem alloc_new (w : World) (c : Array Value) (e : TypeId) (j : Nat) : (w.alloc (.cells c e)).cell? ⟨w.heap.size, j, none⟩ = c[j]? := by
  have h : (w.alloc (.cells c e)).heap[w.heap.size]? = some (.cells c e) := heap_alloc_new w _
  simp only [World.cell?, h]
  rfl
theorem alloc_fro (w : World) (c : Array Value) (e : TypeId) (j : Nat) : (w.alloc (.cells c e)).frozen? ⟨w.heap.size, j, none⟩ = false := by
  have h : (w.alloc (.cells c e)).heap[w.heap.size]? = some (.cells c e) := heap_alloc_new w _
  simp only [World.frozen?, h]
  simp

theorem off {l : Array Bool} {i : Nat} (h : l.getD i true = false) (k : On l i) : False := by
  unfold On at k
  by_cases hi : i < l.size <;> simp [Array.getD, hi] at h k
  rw [h] at k; cases k

/-- A row of n integers that is there and may be written. -/
theorem there_made (w : World) (n : Nat) (e : TypeId) : (w.alloc (.cells (madeCells #[.int .i64 0] n) e)).there w.heap.size 0 n := by
  intro j hj
  have hs : (madeCells #[.int .i64 0] n).size = n := size_madeCells _ _
  rw [alloc_new, alloc_fro]
  simp [hs, hj]

theorem there_below {w w' : World} {b n : Nat} (h : w.there b 0 n) (hb : b < w.heap.size) (k : Below w.heap.size w w') : w'.there b 0 n := fun j hj => by
  rw [k.cell (p := ⟨b, 0 + j, none⟩) hb, k.frozen (p := ⟨b, 0 + j, none⟩) hb]
  exact h j hj

theorem there_set {w : World} {b n : Nat} (h : w.there b 0 n) (p : Addr) (v : Value) : (w.setCell p v).there b 0 n := fun j hj => by
  obtain ⟨h1, h2⟩ := h j hj
  refine ⟨?_, by simpa using h2⟩
  by_cases he : p = ⟨b, 0 + j, none⟩
  · subst he
    rw [World.cell?_setCell_same' _ _ _ h1]
    rfl
  · rw [World.cell?_setCell_other _ _ _ _ he]
    exact h1

/-- The value leads to a new row of n integers. -/
def RowAt (h0 : Nat) (w : World) (v : Value) (n : Nat) : Prop := ∃ b, v = .slice (some ⟨b, 0, none⟩) n n ∧ h0 ≤ b ∧ b < w.heap.size ∧ w.there b 0 n
theorem RowAt.below {h0 : Nat} {w w' : World} {v : Value} {n : Nat} (h : RowAt h0 w v n) (k : Below w.heap.size w w') : RowAt h0 w' v n := by
  obtain ⟨b, h1, h2, h3, h4⟩ := h
  exact ⟨b, h1, h2, Nat.lt_of_lt_of_le h3 k.size, there_below h4 h3 k⟩
theorem RowAt.set {h0 : Nat} {w : World} {v : Value} {n : Nat} (h : RowAt h0 w v n) (p : Addr) (u : Value) : RowAt h0 (w.setCell p u) v n := by
  obtain ⟨b, h1, h2, h3, h4⟩ := h
  exact ⟨b, h1, h2, by simpa using h3, there_set h4 p u⟩
theorem RowAt.new {h0 : Nat} {w : World} {n : Nat} (e : TypeId) (h : h0 ≤ w.heap.size) : RowAt h0 (w.alloc (.cells (madeCells #[.int .i64 0] n) e)) (.slice (some ⟨w.heap.size, 0, none⟩) n n) n :=
  ⟨_, rfl, h, by simp, there_made w n e⟩
theorem RowAt.ne {h0 : Nat} {w : World} {v : Value} {n : Nat} (h : RowAt h0 w v n) : v ≠ .slice (some ⟨w.heap.size, 0, none⟩) n n := by
  obtain ⟨b, rfl, h2, h3, h4⟩ := h
  intro e
  injection e with e
  injection e with e
  injection e with e
  omega

theorem make24 (n : Nat) (hn : n ≤ 1024) : ∀ w : World, (Instr.makeSlice 24 (.int .i64 n) (.int .i64 n)).run Yba.prog w = .ok (.slice (some ⟨w.heap.size, 0, none⟩) n n) (w.alloc (.cells (madeCells #[.int .i64 0] n) 3)) := by
  intro w
  obtain ⟨i, h1, h2, h3, h4⟩ := info_of (t := 3) (z := .int .i64 0) (s := 1) (b := 8) (by kernel_rfl)
  have := run_make (P := Yba.prog) w 24 3 i _ Yba.underlying24 h1 h2 .i64 .i64 n n (by omega) (by omega) (by rw [h4]; omega) (by omega)
  simpa [h3, Value.cells] using this

theorem make24o (n : Nat) (hn : n ≤ 1024) : ∀ w : World, (Instr.makeSlice 24 (.int .i64 0) (.int .i64 n)).run Yba.prog w = .ok (.slice (some ⟨w.heap.size, 0, none⟩) 0 n) (w.alloc (.cells (madeCells #[.int .i64 0] n) 3)) := by
  intro w
  obtain ⟨i, h1, h2, h3, h4⟩ := info_of (t := 3) (z := .int .i64 0) (s := 1) (b := 8) (by kernel_rfl)
  have := run_make (P := Yba.prog) w 24 3 i _ Yba.underlying24 h1 h2 .i64 .i64 0 n (by omega) (by omega) (by rw [h4]; omega) (by omega)
  simpa [h3, Value.cells] using this

theorem make27 (n : Nat) (hn : n ≤ 1024) : ∀ w : World, (Instr.makeSlice 27 (.int .i64 n) (.int .i64 n)).run Yba.prog w = .ok (.slice (some ⟨w.heap.size, 0, none⟩) n n) (w.alloc (.cells (madeCells #[.int .i64 0] n) 37)) := by
  intro w
  obtain ⟨i, h1, h2, h3, h4⟩ := info_of (t := 37) (z := .int .i64 0) (s := 1) (b := 8) (by kernel_rfl)
  have := run_make (P := Yba.prog) w 27 37 i _ Yba.underlying27 h1 h2 .i64 .i64 n n (by omega) (by omega) (by rw [h4]; omega) (by omega)
  simpa [h3, Value.cells] using this

set_option maxHeartbeats 1000000 in
theorem newWaitRank (n : Nat) (hn : n ≤ 1024) (w : World) : Calls Yba.prog 14 #[.int .i64 n] w fun e w' => ∃ bo bp bw bc, e = .returned (.agg #[.slice (some ⟨bo, 0, none⟩) 0 n, .slice (some ⟨bp, 0, none⟩) n n, .slice (some ⟨bw, 0, none⟩) n n, .slice (some ⟨bc, 0, none⟩) n n, .int .i64 0]) ∧
    Below w.heap.size w w' ∧ w'.there bp 0 n ∧ w'.there bw 0 n ∧ w'.there bc 0 n ∧ bp ≠ bw ∧ bc ≠ bw ∧ w.heap.size ≤ bp ∧ w.heap.size ≤ bw ∧ w.heap.size ≤ bc ∧ bp < w'.heap.size ∧ bw < w'.heap.size ∧ bc < w'.heap.size := by
  have m1 := make24 n hn
  have m2 := make24o n hn
  have m3 := make27 n hn
  go_enter Yba.func14, Yba.ntmps14
  go_wp2_with fail
  refine wp_region_inv (fun l a w' => l.size = 11 ∧ Below (w.heap.size + 1) (w.alloc (Obj.cells #[.slice none 0 0, .slice none 0 0, .slice none 0 0, .slice none 0 0, .int .i64 0] 29)) w' ∧
    ∃ b3 v3 v5 v6 v7 v8 v9 v10 v11 v12 v13, a = ⟨#[.int .i64 n, undef, .pointer (some ⟨w.heap.size, 0, none⟩), v3, undef, v5, v6, v7, v8, v9, v10, v11, v12, v13, undef, undef, undef, undef, undef, undef, undef, undef, undef, undef, undef, undef], []⟩ ∧
      (On l 0 → v5 = .int .i64 n) ∧ (On l 1 → ∃ b, v6 = .slice (some ⟨b, 0, none⟩) 0 n) ∧
      (On l 2 → v7 = .int .i64 n) ∧ (On l 3 → RowAt (w.heap.size + 1) w' v8 n) ∧
      (On l 4 → v9 = .int .i64 n) ∧ (On l 5 → RowAt (w.heap.size + 1) w' v10 n) ∧
      (On l 6 → v11 = .int .i64 n) ∧ (On l 7 → RowAt (w.heap.size + 1) w' v12 n) ∧
      (On l 8 → On l 1 ∧ On l 3 ∧ On l 5 ∧ On l 7 ∧ v13 = .agg #[v6, v8, v10, v12, .int .i64 0]) ∧
      (On l 9 → v3 = .pointer (some ⟨b3, 0, none⟩) ∧ w.heap.size + 1 ≤ b3 ∧ b3 < w'.heap.size ∧ w'.there b3 0 5) ∧
      (On l 3 → On l 5 → v8 ≠ v10) ∧ (On l 7 → On l 5 → v12 ≠ v10) ∧ (On l 9 → On l 3 → v8 ≠ .slice (some ⟨b3, 0, none⟩) n n) ∧
      (On l 10 → On l 8 ∧ On l 9 ∧ w'.cell? ⟨b3, 0, none⟩ = some v6 ∧ w'.cell? ⟨b3, 1, none⟩ = some v8 ∧ w'.cell? ⟨b3, 2, none⟩ = some v10 ∧ w'.cell? ⟨b3, 3, none⟩ = some v12 ∧ w'.cell? ⟨b3, 4, none⟩ = some (.int .i64 0)))
    (by kernel_rfl) (by kernel_rfl) (fun l a w' h => h.1) ?first ?step ?last
  case first =>
    refine ⟨by simp, ?_, 0, undef, undef, undef, undef, undef, undef, undef, undef, undef, undef, rfl, ?_⟩
    · exact (Below.refl _ _).drew
    · refine ⟨fun h => (not_on h).elim, fun h => (not_on h).elim, fun h => (not_on h).elim, fun h => (not_on h).elim, fun h => (not_on h).elim, fun h => (not_on h).elim, fun h => (not_on h).elim, fun h => (not_on h).elim, fun h => (not_on h).elim, fun h => (not_on h).elim, fun h => (not_on h).elim, fun h => (not_on h).elim, fun h => (not_on h).elim, fun h => (not_on h).elim⟩
  case step =>
    rintro l a w' i o ⟨hs, hB, b3, v3, v5, v6, v7, v8, v9, v10, v11, v12, v13, rfl, c0, c1, c2, c3, c4, c5, c6, c7, c8, c9, d1, d2, d3, c10⟩ ho hl hdep K hK
    rcases i with _ | _ | _ | _ | _ | _ | _ | _ | _ | _ | _ | i
    · obtain rfl := Option.some.inj ho
      go_simp
      refine hK _ _ ⟨by simp [hs], hB, b3, v3, _, v6, v7, v8, v9, v10, v11, v12, v13, rfl, fun _ => rfl, fun h0 => c1 (h0.of_set (by decide)), fun h0 => c2 (h0.of_set (by decide)), fun h0 => c3 (h0.of_set (by decide)), fun h0 => c4 (h0.of_set (by decide)), fun h0 => c5 (h0.of_set (by decide)), fun h0 => c6 (h0.of_set (by decide)), fun h0 => c7 (h0.of_set (by decide)), fun h0 => by obtain ⟨e1, e2, e3, e4, e5⟩ := c8 (h0.of_set (by decide)); exact ⟨e1.set _, e2.set _, e3.set _, e4.set _, e5⟩, fun h0 => c9 (h0.of_set (by decide)), fun h0 h1 => d1 (h0.of_set (by decide)) (h1.of_set (by decide)), fun h0 h1 => d2 (h0.of_set (by decide)) (h1.of_set (by decide)), fun h0 h1 => d3 (h0.of_set (by decide)) (h1.of_set (by decide)), fun h0 => by obtain ⟨e1, e2, e3⟩ := c10 (h0.of_set (by decide)); exact ⟨e1.set _, e2.set _, e3⟩⟩
    · obtain rfl := Option.some.inj ho
      have hd := c0 (hdep ⟨0, .data⟩ (by simp) rfl)
      subst hd
      have n10 : ¬ On l 10 := fun h => off hl ((c8 (c10 h).1).1)
      have hsz : w.heap.size + 1 ≤ w'.heap.size := by have := hB.size; simpa using this
      have k := (Below.refl w'.heap.size w').alloc (Nat.le_refl _) (Obj.cells (madeCells #[.int .i64 0] n) 3)
      go_simp
      refine hK _ _ ⟨by simp [hs], hB.alloc hsz _, b3, v3, _, _, v7, v8, v9, v10, v11, v12, v13, rfl, fun h0 => c0 (h0.of_set (by decide)), fun _ => ⟨_, rfl⟩, fun h0 => c2 (h0.of_set (by decide)), fun h0 => (c3 (h0.of_set (by decide))).below k, fun h0 => c4 (h0.of_set (by decide)), fun h0 => (c5 (h0.of_set (by decide))).below k, fun h0 => c6 (h0.of_set (by decide)), fun h0 => (c7 (h0.of_set (by decide))).below k, fun h0 => (off hl (c8 (h0.of_set (by decide))).1).elim, fun h0 => by obtain ⟨e1, e2, e3, e4⟩ := c9 (h0.of_set (by decide)); exact ⟨e1, e2, Nat.lt_of_lt_of_le e3 k.size, there_below e4 e3 k⟩, fun h0 h1 => d1 (h0.of_set (by decide)) (h1.of_set (by decide)), fun h0 h1 => d2 (h0.of_set (by decide)) (h1.of_set (by decide)), fun h0 h1 => d3 (h0.of_set (by decide)) (h1.of_set (by decide)), fun h0 => (n10 (h0.of_set (by decide))).elim⟩
    · obtain rfl := Option.some.inj ho
      go_simp
      refine hK _ _ ⟨by simp [hs], hB, b3, v3, v5, v6, _, v8, v9, v10, v11, v12, v13, rfl, fun h0 => c0 (h0.of_set (by decide)), fun h0 => c1 (h0.of_set (by decide)), fun _ => rfl, fun h0 => c3 (h0.of_set (by decide)), fun h0 => c4 (h0.of_set (by decide)), fun h0 => c5 (h0.of_set (by decide)), fun h0 => c6 (h0.of_set (by decide)), fun h0 => c7 (h0.of_set (by decide)), fun h0 => by obtain ⟨e1, e2, e3, e4, e5⟩ := c8 (h0.of_set (by decide)); exact ⟨e1.set _, e2.set _, e3.set _, e4.set _, e5⟩, fun h0 => c9 (h0.of_set (by decide)), fun h0 h1 => d1 (h0.of_set (by decide)) (h1.of_set (by decide)), fun h0 h1 => d2 (h0.of_set (by decide)) (h1.of_set (by decide)), fun h0 h1 => d3 (h0.of_set (by decide)) (h1.of_set (by decide)), fun h0 => by obtain ⟨e1, e2, e3⟩ := c10 (h0.of_set (by decide)); exact ⟨e1.set _, e2.set _, e3⟩⟩
    · obtain rfl := Option.some.inj ho
      have hd := c2 (hdep ⟨2, .data⟩ (by simp) rfl)
      subst hd
      have n10 : ¬ On l 10 := fun h => off hl ((c8 (c10 h).1).2.1)
      have hsz : w.heap.size + 1 ≤ w'.heap.size := by have := hB.size; simpa using this
      have k := (Below.refl w'.heap.size w').alloc (Nat.le_refl _) (Obj.cells (madeCells #[.int .i64 0] n) 3)
      go_simp
      refine hK _ _ ⟨by simp [hs], hB.alloc hsz _, b3, v3, v5, v6, _, _, v9, v10, v11, v12, v13, rfl, fun h0 => c0 (h0.of_set (by decide)), fun h0 => c1 (h0.of_set (by decide)), fun h0 => c2 (h0.of_set (by decide)), fun _ => RowAt.new 3 hsz, fun h0 => c4 (h0.of_set (by decide)), fun h0 => (c5 (h0.of_set (by decide))).below k, fun h0 => c6 (h0.of_set (by decide)), fun h0 => (c7 (h0.of_set (by decide))).below k, fun h0 => (off hl (c8 (h0.of_set (by decide))).2.1).elim, fun h0 => by obtain ⟨e1, e2, e3, e4⟩ := c9 (h0.of_set (by decide)); exact ⟨e1, e2, Nat.lt_of_lt_of_le e3 k.size, there_below e4 e3 k⟩, fun _ h => fun e => (c5 (h.of_set (by decide))).ne e.symm, fun h0 h1 => d2 (h0.of_set (by decide)) (h1.of_set (by decide)), fun h _ => by obtain ⟨_, _, e3, _⟩ := c9 (h.of_set (by decide)); intro e; injection e with e; injection e with e; injection e with e; omega, fun h0 => (n10 (h0.of_set (by decide))).elim⟩
    · obtain rfl := Option.some.inj ho
      go_simp
      refine hK _ _ ⟨by simp [hs], hB, b3, v3, v5, v6, v7, v8, _, v10, v11, v12, v13, rfl, fun h0 => c0 (h0.of_set (by decide)), fun h0 => c1 (h0.of_set (by decide)), fun h0 => c2 (h0.of_set (by decide)), fun h0 => c3 (h0.of_set (by decide)), fun _ => rfl, fun h0 => c5 (h0.of_set (by decide)), fun h0 => c6 (h0.of_set (by decide)), fun h0 => c7 (h0.of_set (by decide)), fun h0 => by obtain ⟨e1, e2, e3, e4, e5⟩ := c8 (h0.of_set (by decide)); exact ⟨e1.set _, e2.set _, e3.set _, e4.set _, e5⟩, fun h0 => c9 (h0.of_set (by decide)), fun h0 h1 => d1 (h0.of_set (by decide)) (h1.of_set (by decide)), fun h0 h1 => d2 (h0.of_set (by decide)) (h1.of_set (by decide)), fun h0 h1 => d3 (h0.of_set (by decide)) (h1.of_set (by decide)), fun h0 => by obtain ⟨e1, e2, e3⟩ := c10 (h0.of_set (by decide)); exact ⟨e1.set _, e2.set _, e3⟩⟩
    · obtain rfl := Option.some.inj ho
      have hd := c4 (hdep ⟨4, .data⟩ (by simp) rfl)
      subst hd
      have n10 : ¬ On l 10 := fun h => off hl ((c8 (c10 h).1).2.2.1)
      have hsz : w.heap.size + 1 ≤ w'.heap.size := by have := hB.size; simpa using this
      have k := (Below.refl w'.heap.size w').alloc (Nat.le_refl _) (Obj.cells (madeCells #[.int .i64 0] n) 37)
      go_simp
      refine hK _ _ ⟨by simp [hs], hB.alloc hsz _, b3, v3, v5, v6, v7, v8, _, _, v11, v12, v13, rfl, fun h0 => c0 (h0.of_set (by decide)), fun h0 => c1 (h0.of_set (by decide)), fun h0 => c2 (h0.of_set (by decide)), fun h0 => (c3 (h0.of_set (by decide))).below k, fun h0 => c4 (h0.of_set (by decide)), fun _ => RowAt.new 37 hsz, fun h0 => c6 (h0.of_set (by decide)), fun h0 => (c7 (h0.of_set (by decide))).below k, fun h0 => (off hl (c8 (h0.of_set (by decide))).2.2.1).elim, fun h0 => by obtain ⟨e1, e2, e3, e4⟩ := c9 (h0.of_set (by decide)); exact ⟨e1, e2, Nat.lt_of_lt_of_le e3 k.size, there_below e4 e3 k⟩, fun h _ => (c3 (h.of_set (by decide))).ne, fun h _ => (c7 (h.of_set (by decide))).ne, fun h0 h1 => d3 (h0.of_set (by decide)) (h1.of_set (by decide)), fun h0 => (n10 (h0.of_set (by decide))).elim⟩
    · obtain rfl := Option.some.inj ho
      go_simp
      refine hK _ _ ⟨by simp [hs], hB, b3, v3, v5, v6, v7, v8, v9, v10, _, v12, v13, rfl, fun h0 => c0 (h0.of_set (by decide)), fun h0 => c1 (h0.of_set (by decide)), fun h0 => c2 (h0.of_set (by decide)), fun h0 => c3 (h0.of_set (by decide)), fun h0 => c4 (h0.of_set (by decide)), fun h0 => c5 (h0.of_set (by decide)), fun _ => rfl, fun h0 => c7 (h0.of_set (by decide)), fun h0 => by obtain ⟨e1, e2, e3, e4, e5⟩ := c8 (h0.of_set (by decide)); exact ⟨e1.set _, e2.set _, e3.set _, e4.set _, e5⟩, fun h0 => c9 (h0.of_set (by decide)), fun h0 h1 => d1 (h0.of_set (by decide)) (h1.of_set (by decide)), fun h0 h1 => d2 (h0.of_set (by decide)) (h1.of_set (by decide)), fun h0 h1 => d3 (h0.of_set (by decide)) (h1.of_set (by decide)), fun h0 => by obtain ⟨e1, e2, e3⟩ := c10 (h0.of_set (by decide)); exact ⟨e1.set _, e2.set _, e3⟩⟩
    · obtain rfl := Option.some.inj ho
      have hd := c6 (hdep ⟨6, .data⟩ (by simp) rfl)
      subst hd
      have n10 : ¬ On l 10 := fun h => off hl ((c8 (c10 h).1).2.2.2.1)
      have hsz : w.heap.size + 1 ≤ w'.heap.size := by have := hB.size; simpa using this
      have k := (Below.refl w'.heap.size w').alloc (Nat.le_refl _) (Obj.cells (madeCells #[.int .i64 0] n) 3)
      go_simp
      refine hK _ _ ⟨by simp [hs], hB.alloc hsz _, b3, v3, v5, v6, v7, v8, v9, v10, _, _, v13, rfl, fun h0 => c0 (h0.of_set (by decide)), fun h0 => c1 (h0.of_set (by decide)), fun h0 => c2 (h0.of_set (by decide)), fun h0 => (c3 (h0.of_set (by decide))).below k, fun h0 => c4 (h0.of_set (by decide)), fun h0 => (c5 (h0.of_set (by decide))).below k, fun h0 => c6 (h0.of_set (by decide)), fun _ => RowAt.new 3 hsz, fun h0 => (off hl (c8 (h0.of_set (by decide))).2.2.2.1).elim, fun h0 => by obtain ⟨e1, e2, e3, e4⟩ := c9 (h0.of_set (by decide)); exact ⟨e1, e2, Nat.lt_of_lt_of_le e3 k.size, there_below e4 e3 k⟩, fun h0 h1 => d1 (h0.of_set (by decide)) (h1.of_set (by decide)), fun _ h => fun e => (c5 (h.of_set (by decide))).ne e.symm, fun h0 h1 => d3 (h0.of_set (by decide)) (h1.of_set (by decide)), fun h0 => (n10 (h0.of_set (by decide))).elim⟩
    · obtain rfl := Option.some.inj ho
      have h1 : On l 1 := hdep ⟨1, .data⟩ (by simp) rfl
      have h3 : On l 3 := hdep ⟨3, .data⟩ (by simp) rfl
      have h5 : On l 5 := hdep ⟨5, .data⟩ (by simp) rfl
      have h7 : On l 7 := hdep ⟨7, .data⟩ (by simp) rfl
      obtain ⟨q6, rfl⟩ := c1 h1
      obtain ⟨q8, rfl, r8⟩ := c3 h3
      obtain ⟨q10, rfl, r10⟩ := c5 h5
      obtain ⟨q12, rfl, r12⟩ := c7 h7
      go_simp
      refine hK _ _ ⟨by simp [hs], hB, b3, v3, v5, _, v7, _, v9, _, v11, _, _, rfl, fun h0 => c0 (h0.of_set (by decide)), fun h0 => c1 (h0.of_set (by decide)), fun h0 => c2 (h0.of_set (by decide)), fun h0 => c3 (h0.of_set (by decide)), fun h0 => c4 (h0.of_set (by decide)), fun h0 => c5 (h0.of_set (by decide)), fun h0 => c6 (h0.of_set (by decide)), fun h0 => c7 (h0.of_set (by decide)), fun _ => ⟨h1.set _, h3.set _, h5.set _, h7.set _, rfl⟩, fun h0 => c9 (h0.of_set (by decide)), fun h0 h1 => d1 (h0.of_set (by decide)) (h1.of_set (by decide)), fun h0 h1 => d2 (h0.of_set (by decide)) (h1.of_set (by decide)), fun h0 h1 => d3 (h0.of_set (by decide)) (h1.of_set (by decide)), fun h0 => by obtain ⟨e1, e2, e3⟩ := c10 (h0.of_set (by decide)); exact ⟨e1.set _, e2.set _, e3⟩⟩
    · obtain rfl := Option.some.inj ho
      have n10 : ¬ On l 10 := fun h => off hl (c10 h).2.1
      have hsz : w.heap.size + 1 ≤ w'.heap.size := by have := hB.size; simpa using this
      have k := (Below.refl w'.heap.size w').alloc (Nat.le_refl _) (Obj.cells #[.slice none 0 0, .slice none 0 0, .slice none 0 0, .slice none 0 0, .int .i64 0] 29)
      go_simp
      refine hK _ _ ⟨by simp [hs], hB.alloc hsz _, w'.heap.size, _, v5, v6, v7, v8, v9, v10, v11, v12, v13, rfl, fun h0 => c0 (h0.of_set (by decide)), fun h0 => c1 (h0.of_set (by decide)), fun h0 => c2 (h0.of_set (by decide)), fun h0 => (c3 (h0.of_set (by decide))).below k, fun h0 => c4 (h0.of_set (by decide)), fun h0 => (c5 (h0.of_set (by decide))).below k, fun h0 => c6 (h0.of_set (by decide)), fun h0 => (c7 (h0.of_set (by decide))).below k, fun h0 => by obtain ⟨e1, e2, e3, e4, e5⟩ := c8 (h0.of_set (by decide)); exact ⟨e1.set _, e2.set _, e3.set _, e4.set _, e5⟩, fun _ => ⟨rfl, hsz, by simp, fun j hj => by rw [alloc_new, alloc_fro]; simp; omega⟩, fun h0 h1 => d1 (h0.of_set (by decide)) (h1.of_set (by decide)), fun h0 h1 => d2 (h0.of_set (by decide)) (h1.of_set (by decide)), fun _ h => (c3 (h.of_set (by decide))).ne, fun h0 => (n10 (h0.of_set (by decide))).elim⟩
    · obtain rfl := Option.some.inj ho
      have h8 : On l 8 := hdep ⟨8, .data⟩ (by simp) rfl
      obtain ⟨h1, h3, h5, h7, rfl⟩ := c8 h8
      have h9 : On l 9 := hdep ⟨9, .data⟩ (by simp) rfl
      obtain ⟨rfl, e1, e2, e3⟩ := c9 h9
      obtain ⟨q6, rfl⟩ := c1 h1
      obtain ⟨q8, rfl, r8⟩ := c3 h3
      obtain ⟨q10, rfl, r10⟩ := c5 h5
      obtain ⟨q12, rfl, r12⟩ := c7 h7
      obtain ⟨t0, f0⟩ := e3 0 (by omega)
      obtain ⟨t1, f1⟩ := e3 1 (by omega)
      obtain ⟨t2, f2⟩ := e3 2 (by omega)
      obtain ⟨t3, f3⟩ := e3 3 (by omega)
      obtain ⟨t4, f4⟩ := e3 4 (by omega)
      obtain ⟨x0, t0⟩ := Option.isSome_iff_exists.1 t0
      obtain ⟨x1, t1⟩ := Option.isSome_iff_exists.1 t1
      obtain ⟨x2, t2⟩ := Option.isSome_iff_exists.1 t2
      obtain ⟨x3, t3⟩ := Option.isSome_iff_exists.1 t3
      obtain ⟨x4, t4⟩ := Option.isSome_iff_exists.1 t4
      simp only [Nat.zero_add] at t0 t1 t2 t3 t4 f0 f1 f2 f3 f4
      go_simp
      have rs : ∀ {v : Value}, RowAt (w.heap.size + 1) w' v n → RowAt (w.heap.size + 1) _ v n := fun h => ((((h.set ⟨b3, 0, none⟩ (.slice (some ⟨q6, 0, none⟩) 0 n)).set ⟨b3, 1, none⟩ (.slice (some ⟨q8, 0, none⟩) n n)).set ⟨b3, 2, none⟩ (.slice (some ⟨q10, 0, none⟩) n n)).set ⟨b3, 3, none⟩ (.slice (some ⟨q12, 0, none⟩) n n)).set ⟨b3, 4, none⟩ (.int .i64 0)
      refine hK _ _ ⟨by simp [hs], ((((hB.setCell e1 _).setCell e1 _).setCell e1 _).setCell e1 _).setCell e1 _, b3, _, v5, _, v7, _, v9, _, v11, _, _, rfl, fun h0 => c0 (h0.of_set (by decide)), fun _ => ⟨_, rfl⟩, fun h0 => c2 (h0.of_set (by decide)), fun h => rs (c3 (h.of_set (by decide))), fun h0 => c4 (h0.of_set (by decide)), fun h => rs (c5 (h.of_set (by decide))), fun h0 => c6 (h0.of_set (by decide)), fun h => rs (c7 (h.of_set (by decide))), fun _ => ⟨h1.set _, h3.set _, h5.set _, h7.set _, rfl⟩, fun _ => ⟨rfl, e1, by simpa using e2, there_set (there_set (there_set (there_set (there_set e3 _ _) _ _) _ _) _ _) _ _⟩, fun h0 h1 => d1 (h0.of_set (by decide)) (h1.of_set (by decide)), fun h0 h1 => d2 (h0.of_set (by decide)) (h1.of_set (by decide)), fun h0 h1 => d3 (h0.of_set (by decide)) (h1.of_set (by decide)), fun _ => ⟨h8.set _, h9.set _, by go_simp, by go_simp, by go_simp, by go_simp, by go_simp⟩⟩
    · simp at ho
  case last =>
    rintro l a w' ⟨hs, hB, b3, v3, v5, v6, v7, v8, v9, v10, v11, v12, v13, rfl, c0, c1, c2, c3, c4, c5, c6, c7, c8, c9, d1, d2, d3, c10⟩ hall
    obtain ⟨q6, rfl⟩ := c1 (hall 1 (by decide))
    obtain ⟨q8, rfl, r8a, r8b, r8c⟩ := c3 (hall 3 (by decide))
    obtain ⟨q10, rfl, r10a, r10b, r10c⟩ := c5 (hall 5 (by decide))
    obtain ⟨q12, rfl, r12a, r12b, r12c⟩ := c7 (hall 7 (by decide))
    obtain ⟨rfl, e1, e2, e3⟩ := c9 (hall 9 (by decide))
    obtain ⟨h88, h99, t0, t1, t2, t3, t4⟩ := c10 (hall 10 (by decide))
    have n1 : q8 ≠ q10 := fun e => d1 (hall 3 (by decide)) (hall 5 (by decide)) (by rw [e])
    have n2 : q12 ≠ q10 := fun e => d2 (hall 7 (by decide)) (hall 5 (by decide)) (by rw [e])
    have n3 : q8 ≠ b3 := fun e => d3 (hall 9 (by decide)) (hall 3 (by decide)) (by rw [e])
    clear c0 c1 c2 c3 c4 c5 c6 c7 c8 c9 d1 d2 d3 c10 hall hs
    have HR8 : Hid (w'.there q8 0 n) := r8c
    have HR10 : Hid (w'.there q10 0 n) := r10c
    have HR12 : Hid (w'.there q12 0 n) := r12c
    have HB3 : Hid (w'.there b3 0 5) := e3
    clear r8c r10c r12c e3 m1 m2 m3
    clear h88 h99
    rename_i K hK
    refine hK _ _ ?_
    clear hK K
    go_wp2
    go_loopw [17] (fun i wr => ∃ k : Nat, k ≤ n ∧ i = .int .i64 k ∧ Hid (Below (w.heap.size + 1) (w.alloc (Obj.cells #[.slice none 0 0, .slice none 0 0, .slice none 0 0, .slice none 0 0, .int .i64 0] 29)) wr) ∧
      wr.cell? ⟨b3, 0, none⟩ = some (.slice (some ⟨q6, 0, none⟩) 0 n) ∧ wr.cell? ⟨b3, 1, none⟩ = some (.slice (some ⟨q8, 0, none⟩) n n) ∧ wr.cell? ⟨b3, 2, none⟩ = some (.slice (some ⟨q10, 0, none⟩) n n) ∧ wr.cell? ⟨b3, 3, none⟩ = some (.slice (some ⟨q12, 0, none⟩) n n) ∧ wr.cell? ⟨b3, 4, none⟩ = some (.int .i64 0) ∧
      Hid (wr.there q8 0 n) ∧ Hid (wr.there q10 0 n) ∧ Hid (wr.there q12 0 n) ∧ w'.heap.size ≤ wr.heap.size) (fun i _ => n - (intOf i).toNat)
    case atStart => exact ⟨0, Nat.zero_le _, rfl, hB, t0, t1, t2, t3, t4, HR8, HR10, HR12, Nat.le_refl _⟩
    case round =>
      obtain ⟨k, hk, rfl, HB, u0, u1, u2, u3, u4, s8, s10, s12, hsz⟩ := hrel
      clear hB t0 t1 t2 t3 t4 HR8 HR10 HR12 HB3
      by_cases hlt : k < n
      · obtain ⟨y0, y1⟩ := s8.out k hlt
        obtain ⟨y, y0⟩ := Option.isSome_iff_exists.1 y0
        simp only [Nat.zero_add] at y0 y1
        go_wp2
        go_roundw
        case rel =>
          refine ⟨k + 1, hlt, by simp; try omega, HB.out.setCell r8a _, ?_, ?_, ?_, ?_, ?_, there_set s8.out _ _, there_set s10.out _ _, there_set s12.out _ _, by simpa using hsz⟩
          all_goals (rw [World.cell?_setCell_far _ _ _ _ n3]; assumption)
        case measure => simp [intOf]; omega
      · obtain rfl : k = n := by omega
        have z0 := HB.out.cell (p := ⟨w.heap.size, 0, none⟩) (by simp)
        have z1 := HB.out.cell (p := ⟨w.heap.size, 1, none⟩) (by simp)
        have z2 := HB.out.cell (p := ⟨w.heap.size, 2, none⟩) (by simp)
        have z3 := HB.out.cell (p := ⟨w.heap.size, 3, none⟩) (by simp)
        have z4 := HB.out.cell (p := ⟨w.heap.size, 4, none⟩) (by simp)
        have g0 := HB.out.frozen (p := ⟨w.heap.size, 0, none⟩) (by simp)
        have g1 := HB.out.frozen (p := ⟨w.heap.size, 1, none⟩) (by simp)
        have g2 := HB.out.frozen (p := ⟨w.heap.size, 2, none⟩) (by simp)
        have g3 := HB.out.frozen (p := ⟨w.heap.size, 3, none⟩) (by simp)
        have g4 := HB.out.frozen (p := ⟨w.heap.size, 4, none⟩) (by simp)
        rw [alloc_new] at z0 z1 z2 z3 z4
        rw [alloc_fro] at g0 g1 g2 g3 g4
        simp only [List.getElem?_toArray, List.getElem?_cons_zero, List.getElem?_cons_succ] at z0 z1 z2 z3 z4
        go_wp2
        have hb0 : Below w.heap.size w (w.alloc (Obj.cells #[.slice none 0 0, .slice none 0 0, .slice none 0 0, .slice none 0 0, .int .i64 0] 29)) := (Below.refl _ _).alloc (Nat.le_refl _) _
        have hb1 := hb0.trans (HB.out.mono (Nat.le_succ _))
        refine bodyPost_ret (v := .agg #[.slice (some ⟨q6, 0, none⟩) 0 k, .slice (some ⟨q8, 0, none⟩) k k, .slice (some ⟨q10, 0, none⟩) k k, .slice (some ⟨q12, 0, none⟩) k k, .int .i64 0]) (by simp [results, Yba.results14, go_sem, z0, z1, z2, z3, z4]) rfl ⟨q6, q8, q10, q12, rfl, ?_, there_set (there_set (there_set (there_set (there_set s8.out _ _) _ _) _ _) _ _) _ _, there_set (there_set (there_set (there_set (there_set s10.out _ _) _ _) _ _) _ _) _ _, there_set (there_set (there_set (there_set (there_set s12.out _ _) _ _) _ _) _ _) _ _, n1, n2, by omega, by omega, by omega, by simp; omega, by simp; omega, by simp; omega⟩
        exact ((((hb1.setCell (Nat.le_refl _) _).setCell (Nat.le_refl _) _).setCell (Nat.le_refl _) _).setCell (Nat.le_refl _) _).setCell (Nat.le_refl _) _
/-! ### newHearing -/

def Z35 : Array Value := #[.slice none 0 0, .slice none 0 0, .slice none 0 0, .slice none 0 0, .slice none 0 0, .slice none 0 0, .slice none 0 0, .slice none 0 0, .slice none 0 0, .int .i64 0, .int .u64 0, .int .u64 0, .slice none 0 0, .int .u64 0, .int .u64 0, .int .u64 0, .int .i64 0, .pointer none, .int .u64 0, .int .u64 0, .int .u64 0, .int .u64 0]
def hearCells (v4 v6 v8 v10 v12 v14 : Value) (bo bp bw bc n : Nat) : Array Value := #[v4, v6, v8, v12, v14, .slice (some ⟨bo, 0, none⟩) 0 n, .slice (some ⟨bp, 0, none⟩) n n, .slice (some ⟨bw, 0, none⟩) n n, .slice (some ⟨bc, 0, none⟩) n n, .int .i64 0, .int .u64 0, .int .u64 0, v10, .int .u64 0, .int .u64 0, .int .u64 0, .int .i64 0, .pointer none, .int .u64 0, .int .u64 0, .int .u64 0, .int .u64 0]
def rankV (bo bp bw bc n : Nat) : Value := .agg #[.slice (some ⟨bo, 0, none⟩) 0 n, .slice (some ⟨bp, 0, none⟩) n n, .slice (some ⟨bw, 0, none⟩) n n, .slice (some ⟨bc, 0, none⟩) n n, .int .i64 0]

/-- The rank's rows are new, there, and apart. -/
structure Rk (h0 : Nat) (w : World) (bo bp bw bc n : Nat) : Prop where
  tp : w.there bp 0 n
  tw : w.there bw 0 n
  tc : w.there bc 0 n
  pw : bp ≠ bw
  cw : bc ≠ bw
  lp : h0 ≤ bp
  lw : h0 ≤ bw
  lc : h0 ≤ bc
  sp : bp < w.heap.size
  sw : bw < w.heap.size
  sc : bc < w.heap.size
theorem Rk.below {h0 : Nat} {w w' : World} {bo bp bw bc n : Nat} (h : Rk h0 w bo bp bw bc n) (k : Below w.heap.size w w') : Rk h0 w' bo bp bw bc n :=
  ⟨there_below h.tp h.sp k, there_below h.tw h.sw k, there_below h.tc h.sc k, h.pw, h.cw, h.lp, h.lw, h.lc, Nat.lt_of_lt_of_le h.sp k.size, Nat.lt_of_lt_of_le h.sw k.size, Nat.lt_of_lt_of_le h.sc k.size⟩
theorem there_sets {w : World} {b n : Nat} (h : w.there b 0 n) (B : Nat) : ∀ (vs : List Value) (o : Nat), (w.setCells B o vs).there b 0 n
  | [], _ => h
  | v :: r, o => there_sets (w := w.setCell ⟨B, o, none⟩ v) (there_set h _ _) B r (o + 1)
theorem sets_size {w : World} (B : Nat) : ∀ (vs : List Value) (o : Nat), (w.setCells B o vs).heap.size = w.heap.size
  | [], _ => rfl
  | v :: r, o => (sets_size (w := w.setCell ⟨B, o, none⟩ v) B r (o + 1)).trans (by simp)
theorem sets_below {w a : World} {h0 : Nat} (h : Below h0 a w) {B : Nat} (hB : h0 ≤ B) : ∀ (vs : List Value) (o : Nat), Below h0 a (w.setCells B o vs)
  | [], _ => h
  | v :: r, o => sets_below (w := w.setCell ⟨B, o, none⟩ v) (h.setCell hB _) hB r (o + 1)
theorem Rk.sets {h0 : Nat} {w : World} {bo bp bw bc n : Nat} (h : Rk h0 w bo bp bw bc n) (B o : Nat) (vs : List Value) : Rk h0 (w.setCells B o vs) bo bp bw bc n :=
  ⟨there_sets h.tp B vs o, there_sets h.tw B vs o, there_sets h.tc B vs o, h.pw, h.cw, h.lp, h.lw, h.lc, by rw [sets_size]; exact h.sp, by rw [sets_size]; exact h.sw, by rw [sets_size]; exact h.sc⟩

theorem make25 (n : Nat) (hn : n ≤ 1024) : ∃ c, ∀ w : World, (Instr.makeSlice 25 (.int .i64 n) (.int .i64 n)).run Yba.prog w = .ok (.slice (some ⟨w.heap.size, 0, none⟩) n n) (w.alloc (.cells c 33)) := by
  obtain ⟨i, h1, h2, h3, h4⟩ := info_of (t := 33) (z := .agg #[.int .u64 0, .int .i64 0, .pointer none]) (s := 3) (b := 24) (by kernel_rfl)
  refine ⟨madeCells #[.int .u64 0, .int .i64 0, .pointer none] (n * 3), fun w => ?_⟩
  have := run_make (P := Yba.prog) w 25 33 i _ Yba.underlying25 h1 h2 .i64 .i64 n n (by omega) (by omega) (by rw [h4]; omega) (by omega)
  simpa [h3, Value.cells] using this

theorem make26 (n : Nat) (hn : n ≤ 1024) : ∃ c, ∀ w : World, (Instr.makeSlice 26 (.int .i64 n) (.int .i64 n)).run Yba.prog w = .ok (.slice (some ⟨w.heap.size, 0, none⟩) n n) (w.alloc (.cells c 78)) := by
  obtain ⟨i, h1, h2, h3, h4⟩ := info_of (t := 78) (z := .agg #[.int .i64 0, .int .u64 0, .int .u64 0, .int .i64 0, .int .i64 0, .int .i64 0, .int .u64 0, .int .u64 0, .int .i64 0, .pointer none, .int .i64 0, .int .u64 0, .int .i64 0, .pointer none, .bool false]) (s := 15) (b := 120) (by kernel_rfl)
  refine ⟨madeCells #[.int .i64 0, .int .u64 0, .int .u64 0, .int .i64 0, .int .i64 0, .int .i64 0, .int .u64 0, .int .u64 0, .int .i64 0, .pointer none, .int .i64 0, .int .u64 0, .int .i64 0, .pointer none, .bool false] (n * 15), fun w => ?_⟩
  have := run_make (P := Yba.prog) w 26 78 i _ Yba.underlying26 h1 h2 .i64 .i64 n n (by omega) (by omega) (by rw [h4]; omega) (by omega)
  simpa [h3, Value.cells] using this

set_option maxHeartbeats 4000000 in
theorem newHearing (n : Nat) (hn : n ≤ 1024) (w : World) : Calls Yba.prog 6 #[.int .i64 n] w fun e w' => ∃ q4 q6 q8 q10 q12 q14 bo bp bw bc, e = .returned (.agg (hearCells (.slice (some ⟨q4, 0, none⟩) n n) (.slice (some ⟨q6, 0, none⟩) n n) (.slice (some ⟨q8, 0, none⟩) n n) (.slice (some ⟨q10, 0, none⟩) n n) (.slice (some ⟨q12, 0, none⟩) n n) (.slice (some ⟨q14, 0, none⟩) n n) bo bp bw bc n)) ∧
    Below w.heap.size w w' ∧ Rk w.heap.size w' bo bp bw bc n := by
  have m1 := make24 n hn
  obtain ⟨y25, m2⟩ := make25 n hn
  obtain ⟨y26, m3⟩ := make26 n hn
  go_enter Yba.func6, Yba.ntmps6
  go_wp2_with fail
  refine wp_region_inv (fun l a w' => l.size = 16 ∧ Below w.heap.size w w' ∧ w.heap.size < w'.heap.size ∧
    ∃ bo bp bw bc v3 v4 v5 v6 v7 v8 v9 v10 v11 v12 v13 v14 v15 v16 v17, a = ⟨#[.int .i64 n, undef, .pointer (some ⟨w.heap.size, 0, none⟩), v3, v4, v5, v6, v7, v8, v9, v10, v11, v12, v13, v14, v15, v16, v17], []⟩ ∧
      (On l 0 → v3 = .int .i64 n) ∧ (On l 2 → v5 = .int .i64 n) ∧ (On l 4 → v7 = .int .i64 n) ∧ (On l 6 → v9 = .int .i64 n) ∧ (On l 8 → v11 = .int .i64 n) ∧ (On l 10 → v13 = .int .i64 n) ∧ (On l 12 → v15 = .int .i64 n) ∧ (On l 1 → ∃ b, v4 = .slice (some ⟨b, 0, none⟩) n n) ∧ (On l 3 → ∃ b, v6 = .slice (some ⟨b, 0, none⟩) n n) ∧ (On l 5 → ∃ b, v8 = .slice (some ⟨b, 0, none⟩) n n) ∧ (On l 7 → ∃ b, v10 = .slice (some ⟨b, 0, none⟩) n n) ∧ (On l 9 → ∃ b, v12 = .slice (some ⟨b, 0, none⟩) n n) ∧ (On l 11 → ∃ b, v14 = .slice (some ⟨b, 0, none⟩) n n) ∧ w'.there w.heap.size 0 22 ∧
      (On l 13 → v16 = rankV bo bp bw bc n ∧ Rk (w.heap.size + 1) w' bo bp bw bc n) ∧
      (On l 14 → On l 1 ∧ On l 3 ∧ On l 5 ∧ On l 7 ∧ On l 9 ∧ On l 11 ∧ On l 13 ∧ v17 = .agg (hearCells v4 v6 v8 v10 v12 v14 bo bp bw bc n)) ∧
      (On l 15 → On l 14 ∧ w'.rangeAt w.heap.size 0 (hearCells v4 v6 v8 v10 v12 v14 bo bp bw bc n).toList))
    (by kernel_rfl) (by kernel_rfl) (fun l a w' h => h.1) ?first ?step ?last
  case first =>
    refine ⟨by simp, ((Below.refl _ _).alloc (Nat.le_refl _) _).drew, by simp, 0, 0, 0, 0, undef, undef, undef, undef, undef, undef, undef, undef, undef, undef, undef, undef, undef, undef, undef, rfl, ?_⟩
    refine ⟨fun h => (not_on h).elim, fun h => (not_on h).elim, fun h => (not_on h).elim, fun h => (not_on h).elim, fun h => (not_on h).elim, fun h => (not_on h).elim, fun h => (not_on h).elim, fun h => (not_on h).elim, fun h => (not_on h).elim, fun h => (not_on h).elim, fun h => (not_on h).elim, fun h => (not_on h).elim, fun h => (not_on h).elim, ?_, fun h => (not_on h).elim, fun h => (not_on h).elim, fun h => (not_on h).elim⟩
    intro j hj
    show ((w.alloc (.cells Z35 35)).cell? ⟨w.heap.size, 0 + j, none⟩).isSome = true ∧ (w.alloc (.cells Z35 35)).frozen? ⟨w.heap.size, 0 + j, none⟩ = false
    rw [alloc_new, alloc_fro]
    simp [Z35]; omega
  case step =>
    rintro l a w' i o ⟨hs, hB, hlt, bo, bp, bw, bc, v3, v4, v5, v6, v7, v8, v9, v10, v11, v12, v13, v14, v15, v16, v17, rfl, c0, c2, c4, c6, c8, c10, c12, c1, c3, c5, c7, c9, c11, th, c13, c14, c15⟩ ho hl hdep K hK
    rcases i with _ | _ | _ | _ | _ | _ | _ | _ | _ | _ | _ | _ | _ | _ | _ | _ | i
    · obtain rfl := Option.some.inj ho
      go_simp
      refine hK _ _ ⟨by simp [hs], hB, hlt, bo, bp, bw, bc, _, v4, v5, v6, v7, v8, v9, v10, v11, v12, v13, v14, v15, v16, v17, rfl, fun _ => rfl, fun h => c2 (h.of_set (by decide)), fun h => c4 (h.of_set (by decide)), fun h => c6 (h.of_set (by decide)), fun h => c8 (h.of_set (by decide)), fun h => c10 (h.of_set (by decide)), fun h => c12 (h.of_set (by decide)), fun h => c1 (h.of_set (by decide)), fun h => c3 (h.of_set (by decide)), fun h => c5 (h.of_set (by decide)), fun h => c7 (h.of_set (by decide)), fun h => c9 (h.of_set (by decide)), fun h => c11 (h.of_set (by decide)), th, fun h => c13 (h.of_set (by decide)), fun h => by obtain ⟨e1, e2, e3, e4, e5, e6, e7, e8⟩ := c14 (h.of_set (by decide)); exact ⟨e1.set _, e2.set _, e3.set _, e4.set _, e5.set _, e6.set _, e7.set _, e8⟩, fun h => by obtain ⟨e1, e2⟩ := c15 (h.of_set (by decide)); exact ⟨e1.set _, e2⟩⟩
    · obtain rfl := Option.some.inj ho
      have hd := c0 (hdep ⟨0, .data⟩ (by simp) rfl)
      subst hd
      have k := (Below.refl w'.heap.size w').alloc (Nat.le_refl _) (Obj.cells (madeCells #[.int .i64 0] n) 3)
      go_simp
      refine hK _ _ ⟨by simp [hs], hB.alloc (Nat.le_of_lt hlt) _, by simp; omega, bo, bp, bw, bc, _, _, v5, v6, v7, v8, v9, v10, v11, v12, v13, v14, v15, v16, v17, rfl, fun h => c0 (h.of_set (by decide)), fun h => c2 (h.of_set (by decide)), fun h => c4 (h.of_set (by decide)), fun h => c6 (h.of_set (by decide)), fun h => c8 (h.of_set (by decide)), fun h => c10 (h.of_set (by decide)), fun h => c12 (h.of_set (by decide)), fun _ => ⟨_, rfl⟩, fun h => c3 (h.of_set (by decide)), fun h => c5 (h.of_set (by decide)), fun h => c7 (h.of_set (by decide)), fun h => c9 (h.of_set (by decide)), fun h => c11 (h.of_set (by decide)), there_below th hlt k, fun h => ⟨(c13 (h.of_set (by decide))).1, (c13 (h.of_set (by decide))).2.below k⟩, fun h => (off hl (c14 (h.of_set (by decide))).1).elim, fun h => (off hl (c14 (c15 (h.of_set (by decide))).1).1).elim⟩
    · obtain rfl := Option.some.inj ho
      go_simp
      refine hK _ _ ⟨by simp [hs], hB, hlt, bo, bp, bw, bc, v3, v4, _, v6, v7, v8, v9, v10, v11, v12, v13, v14, v15, v16, v17, rfl, fun h => c0 (h.of_set (by decide)), fun _ => rfl, fun h => c4 (h.of_set (by decide)), fun h => c6 (h.of_set (by decide)), fun h => c8 (h.of_set (by decide)), fun h => c10 (h.of_set (by decide)), fun h => c12 (h.of_set (by decide)), fun h => c1 (h.of_set (by decide)), fun h => c3 (h.of_set (by decide)), fun h => c5 (h.of_set (by decide)), fun h => c7 (h.of_set (by decide)), fun h => c9 (h.of_set (by decide)), fun h => c11 (h.of_set (by decide)), th, fun h => c13 (h.of_set (by decide)), fun h => by obtain ⟨e1, e2, e3, e4, e5, e6, e7, e8⟩ := c14 (h.of_set (by decide)); exact ⟨e1.set _, e2.set _, e3.set _, e4.set _, e5.set _, e6.set _, e7.set _, e8⟩, fun h => by obtain ⟨e1, e2⟩ := c15 (h.of_set (by decide)); exact ⟨e1.set _, e2⟩⟩
    · obtain rfl := Option.some.inj ho
      have hd := c2 (hdep ⟨2, .data⟩ (by simp) rfl)
      subst hd
      have k := (Below.refl w'.heap.size w').alloc (Nat.le_refl _) (Obj.cells y25 33)
      go_simp
      refine hK _ _ ⟨by simp [hs], hB.alloc (Nat.le_of_lt hlt) _, by simp; omega, bo, bp, bw, bc, v3, v4, _, _, v7, v8, v9, v10, v11, v12, v13, v14, v15, v16, v17, rfl, fun h => c0 (h.of_set (by decide)), fun h => c2 (h.of_set (by decide)), fun h => c4 (h.of_set (by decide)), fun h => c6 (h.of_set (by decide)), fun h => c8 (h.of_set (by decide)), fun h => c10 (h.of_set (by decide)), fun h => c12 (h.of_set (by decide)), fun h => c1 (h.of_set (by decide)), fun _ => ⟨_, rfl⟩, fun h => c5 (h.of_set (by decide)), fun h => c7 (h.of_set (by decide)), fun h => c9 (h.of_set (by decide)), fun h => c11 (h.of_set (by decide)), there_below th hlt k, fun h => ⟨(c13 (h.of_set (by decide))).1, (c13 (h.of_set (by decide))).2.below k⟩, fun h => (off hl (c14 (h.of_set (by decide))).2.1).elim, fun h => (off hl (c14 (c15 (h.of_set (by decide))).1).2.1).elim⟩
    · obtain rfl := Option.some.inj ho
      go_simp
      refine hK _ _ ⟨by simp [hs], hB, hlt, bo, bp, bw, bc, v3, v4, v5, v6, _, v8, v9, v10, v11, v12, v13, v14, v15, v16, v17, rfl, fun h => c0 (h.of_set (by decide)), fun h => c2 (h.of_set (by decide)), fun _ => rfl, fun h => c6 (h.of_set (by decide)), fun h => c8 (h.of_set (by decide)), fun h => c10 (h.of_set (by decide)), fun h => c12 (h.of_set (by decide)), fun h => c1 (h.of_set (by decide)), fun h => c3 (h.of_set (by decide)), fun h => c5 (h.of_set (by decide)), fun h => c7 (h.of_set (by decide)), fun h => c9 (h.of_set (by decide)), fun h => c11 (h.of_set (by decide)), th, fun h => c13 (h.of_set (by decide)), fun h => by obtain ⟨e1, e2, e3, e4, e5, e6, e7, e8⟩ := c14 (h.of_set (by decide)); exact ⟨e1.set _, e2.set _, e3.set _, e4.set _, e5.set _, e6.set _, e7.set _, e8⟩, fun h => by obtain ⟨e1, e2⟩ := c15 (h.of_set (by decide)); exact ⟨e1.set _, e2⟩⟩
    · obtain rfl := Option.some.inj ho
      have hd := c4 (hdep ⟨4, .data⟩ (by simp) rfl)
      subst hd
      have k := (Below.refl w'.heap.size w').alloc (Nat.le_refl _) (Obj.cells y25 33)
      go_simp
      refine hK _ _ ⟨by simp [hs], hB.alloc (Nat.le_of_lt hlt) _, by simp; omega, bo, bp, bw, bc, v3, v4, v5, v6, _, _, v9, v10, v11, v12, v13, v14, v15, v16, v17, rfl, fun h => c0 (h.of_set (by decide)), fun h => c2 (h.of_set (by decide)), fun h => c4 (h.of_set (by decide)), fun h => c6 (h.of_set (by decide)), fun h => c8 (h.of_set (by decide)), fun h => c10 (h.of_set (by decide)), fun h => c12 (h.of_set (by decide)), fun h => c1 (h.of_set (by decide)), fun h => c3 (h.of_set (by decide)), fun _ => ⟨_, rfl⟩, fun h => c7 (h.of_set (by decide)), fun h => c9 (h.of_set (by decide)), fun h => c11 (h.of_set (by decide)), there_below th hlt k, fun h => ⟨(c13 (h.of_set (by decide))).1, (c13 (h.of_set (by decide))).2.below k⟩, fun h => (off hl (c14 (h.of_set (by decide))).2.2.1).elim, fun h => (off hl (c14 (c15 (h.of_set (by decide))).1).2.2.1).elim⟩
    · obtain rfl := Option.some.inj ho
      go_simp
      refine hK _ _ ⟨by simp [hs], hB, hlt, bo, bp, bw, bc, v3, v4, v5, v6, v7, v8, _, v10, v11, v12, v13, v14, v15, v16, v17, rfl, fun h => c0 (h.of_set (by decide)), fun h => c2 (h.of_set (by decide)), fun h => c4 (h.of_set (by decide)), fun _ => rfl, fun h => c8 (h.of_set (by decide)), fun h => c10 (h.of_set (by decide)), fun h => c12 (h.of_set (by decide)), fun h => c1 (h.of_set (by decide)), fun h => c3 (h.of_set (by decide)), fun h => c5 (h.of_set (by decide)), fun h => c7 (h.of_set (by decide)), fun h => c9 (h.of_set (by decide)), fun h => c11 (h.of_set (by decide)), th, fun h => c13 (h.of_set (by decide)), fun h => by obtain ⟨e1, e2, e3, e4, e5, e6, e7, e8⟩ := c14 (h.of_set (by decide)); exact ⟨e1.set _, e2.set _, e3.set _, e4.set _, e5.set _, e6.set _, e7.set _, e8⟩, fun h => by obtain ⟨e1, e2⟩ := c15 (h.of_set (by decide)); exact ⟨e1.set _, e2⟩⟩
    · obtain rfl := Option.some.inj ho
      have hd := c6 (hdep ⟨6, .data⟩ (by simp) rfl)
      subst hd
      have k := (Below.refl w'.heap.size w').alloc (Nat.le_refl _) (Obj.cells y25 33)
      go_simp
      refine hK _ _ ⟨by simp [hs], hB.alloc (Nat.le_of_lt hlt) _, by simp; omega, bo, bp, bw, bc, v3, v4, v5, v6, v7, v8, _, _, v11, v12, v13, v14, v15, v16, v17, rfl, fun h => c0 (h.of_set (by decide)), fun h => c2 (h.of_set (by decide)), fun h => c4 (h.of_set (by decide)), fun h => c6 (h.of_set (by decide)), fun h => c8 (h.of_set (by decide)), fun h => c10 (h.of_set (by decide)), fun h => c12 (h.of_set (by decide)), fun h => c1 (h.of_set (by decide)), fun h => c3 (h.of_set (by decide)), fun h => c5 (h.of_set (by decide)), fun _ => ⟨_, rfl⟩, fun h => c9 (h.of_set (by decide)), fun h => c11 (h.of_set (by decide)), there_below th hlt k, fun h => ⟨(c13 (h.of_set (by decide))).1, (c13 (h.of_set (by decide))).2.below k⟩, fun h => (off hl (c14 (h.of_set (by decide))).2.2.2.1).elim, fun h => (off hl (c14 (c15 (h.of_set (by decide))).1).2.2.2.1).elim⟩
    · obtain rfl := Option.some.inj ho
      go_simp
      refine hK _ _ ⟨by simp [hs], hB, hlt, bo, bp, bw, bc, v3, v4, v5, v6, v7, v8, v9, v10, _, v12, v13, v14, v15, v16, v17, rfl, fun h => c0 (h.of_set (by decide)), fun h => c2 (h.of_set (by decide)), fun h => c4 (h.of_set (by decide)), fun h => c6 (h.of_set (by decide)), fun _ => rfl, fun h => c10 (h.of_set (by decide)), fun h => c12 (h.of_set (by decide)), fun h => c1 (h.of_set (by decide)), fun h => c3 (h.of_set (by decide)), fun h => c5 (h.of_set (by decide)), fun h => c7 (h.of_set (by decide)), fun h => c9 (h.of_set (by decide)), fun h => c11 (h.of_set (by decide)), th, fun h => c13 (h.of_set (by decide)), fun h => by obtain ⟨e1, e2, e3, e4, e5, e6, e7, e8⟩ := c14 (h.of_set (by decide)); exact ⟨e1.set _, e2.set _, e3.set _, e4.set _, e5.set _, e6.set _, e7.set _, e8⟩, fun h => by obtain ⟨e1, e2⟩ := c15 (h.of_set (by decide)); exact ⟨e1.set _, e2⟩⟩
    · obtain rfl := Option.some.inj ho
      have hd := c8 (hdep ⟨8, .data⟩ (by simp) rfl)
      subst hd
      have k := (Below.refl w'.heap.size w').alloc (Nat.le_refl _) (Obj.cells (madeCells #[.int .i64 0] n) 3)
      go_simp
      refine hK _ _ ⟨by simp [hs], hB.alloc (Nat.le_of_lt hlt) _, by simp; omega, bo, bp, bw, bc, v3, v4, v5, v6, v7, v8, v9, v10, _, _, v13, v14, v15, v16, v17, rfl, fun h => c0 (h.of_set (by decide)), fun h => c2 (h.of_set (by decide)), fun h => c4 (h.of_set (by decide)), fun h => c6 (h.of_set (by decide)), fun h => c8 (h.of_set (by decide)), fun h => c10 (h.of_set (by decide)), fun h => c12 (h.of_set (by decide)), fun h => c1 (h.of_set (by decide)), fun h => c3 (h.of_set (by decide)), fun h => c5 (h.of_set (by decide)), fun h => c7 (h.of_set (by decide)), fun _ => ⟨_, rfl⟩, fun h => c11 (h.of_set (by decide)), there_below th hlt k, fun h => ⟨(c13 (h.of_set (by decide))).1, (c13 (h.of_set (by decide))).2.below k⟩, fun h => (off hl (c14 (h.of_set (by decide))).2.2.2.2.1).elim, fun h => (off hl (c14 (c15 (h.of_set (by decide))).1).2.2.2.2.1).elim⟩
    · obtain rfl := Option.some.inj ho
      go_simp
      refine hK _ _ ⟨by simp [hs], hB, hlt, bo, bp, bw, bc, v3, v4, v5, v6, v7, v8, v9, v10, v11, v12, _, v14, v15, v16, v17, rfl, fun h => c0 (h.of_set (by decide)), fun h => c2 (h.of_set (by decide)), fun h => c4 (h.of_set (by decide)), fun h => c6 (h.of_set (by decide)), fun h => c8 (h.of_set (by decide)), fun _ => rfl, fun h => c12 (h.of_set (by decide)), fun h => c1 (h.of_set (by decide)), fun h => c3 (h.of_set (by decide)), fun h => c5 (h.of_set (by decide)), fun h => c7 (h.of_set (by decide)), fun h => c9 (h.of_set (by decide)), fun h => c11 (h.of_set (by decide)), th, fun h => c13 (h.of_set (by decide)), fun h => by obtain ⟨e1, e2, e3, e4, e5, e6, e7, e8⟩ := c14 (h.of_set (by decide)); exact ⟨e1.set _, e2.set _, e3.set _, e4.set _, e5.set _, e6.set _, e7.set _, e8⟩, fun h => by obtain ⟨e1, e2⟩ := c15 (h.of_set (by decide)); exact ⟨e1.set _, e2⟩⟩
    · obtain rfl := Option.some.inj ho
      have hd := c10 (hdep ⟨10, .data⟩ (by simp) rfl)
      subst hd
      have k := (Below.refl w'.heap.size w').alloc (Nat.le_refl _) (Obj.cells y26 78)
      go_simp
      refine hK _ _ ⟨by simp [hs], hB.alloc (Nat.le_of_lt hlt) _, by simp; omega, bo, bp, bw, bc, v3, v4, v5, v6, v7, v8, v9, v10, v11, v12, _, _, v15, v16, v17, rfl, fun h => c0 (h.of_set (by decide)), fun h => c2 (h.of_set (by decide)), fun h => c4 (h.of_set (by decide)), fun h => c6 (h.of_set (by decide)), fun h => c8 (h.of_set (by decide)), fun h => c10 (h.of_set (by decide)), fun h => c12 (h.of_set (by decide)), fun h => c1 (h.of_set (by decide)), fun h => c3 (h.of_set (by decide)), fun h => c5 (h.of_set (by decide)), fun h => c7 (h.of_set (by decide)), fun h => c9 (h.of_set (by decide)), fun _ => ⟨_, rfl⟩, there_below th hlt k, fun h => ⟨(c13 (h.of_set (by decide))).1, (c13 (h.of_set (by decide))).2.below k⟩, fun h => (off hl (c14 (h.of_set (by decide))).2.2.2.2.2.1).elim, fun h => (off hl (c14 (c15 (h.of_set (by decide))).1).2.2.2.2.2.1).elim⟩
    · obtain rfl := Option.some.inj ho
      go_simp
      refine hK _ _ ⟨by simp [hs], hB, hlt, bo, bp, bw, bc, v3, v4, v5, v6, v7, v8, v9, v10, v11, v12, v13, v14, _, v16, v17, rfl, fun h => c0 (h.of_set (by decide)), fun h => c2 (h.of_set (by decide)), fun h => c4 (h.of_set (by decide)), fun h => c6 (h.of_set (by decide)), fun h => c8 (h.of_set (by decide)), fun h => c10 (h.of_set (by decide)), fun _ => rfl, fun h => c1 (h.of_set (by decide)), fun h => c3 (h.of_set (by decide)), fun h => c5 (h.of_set (by decide)), fun h => c7 (h.of_set (by decide)), fun h => c9 (h.of_set (by decide)), fun h => c11 (h.of_set (by decide)), th, fun h => c13 (h.of_set (by decide)), fun h => by obtain ⟨e1, e2, e3, e4, e5, e6, e7, e8⟩ := c14 (h.of_set (by decide)); exact ⟨e1.set _, e2.set _, e3.set _, e4.set _, e5.set _, e6.set _, e7.set _, e8⟩, fun h => by obtain ⟨e1, e2⟩ := c15 (h.of_set (by decide)); exact ⟨e1.set _, e2⟩⟩
    · obtain rfl := Option.some.inj ho
      have hd := c12 (hdep ⟨12, .data⟩ (by simp) rfl)
      subst hd
      go_simp
      refine (newWaitRank n hn w').mono ?_
      rintro e w2 ⟨bo, bp, bw, bc, rfl, k, e2, e3, e4, e5, e6, e7, e8, e9, e10, e11, e12⟩
      refine hK _ _ ⟨by simp [hs], hB.trans (k.mono (Nat.le_of_lt hlt)), Nat.lt_of_lt_of_le hlt k.size, bo, bp, bw, bc, v3, v4, v5, v6, v7, v8, v9, v10, v11, v12, v13, v14, _, _, v17, rfl, fun h => c0 (h.of_set (by decide)), fun h => c2 (h.of_set (by decide)), fun h => c4 (h.of_set (by decide)), fun h => c6 (h.of_set (by decide)), fun h => c8 (h.of_set (by decide)), fun h => c10 (h.of_set (by decide)), fun h => c12 (h.of_set (by decide)), fun h => c1 (h.of_set (by decide)), fun h => c3 (h.of_set (by decide)), fun h => c5 (h.of_set (by decide)), fun h => c7 (h.of_set (by decide)), fun h => c9 (h.of_set (by decide)), fun h => c11 (h.of_set (by decide)), there_below th hlt k, fun _ => ⟨rfl, ⟨e2, e3, e4, e5, e6, by omega, by omega, by omega, e10, e11, e12⟩⟩, fun h => (off hl (c14 (h.of_set (by decide))).2.2.2.2.2.2.1).elim, fun h => (off hl (c14 (c15 (h.of_set (by decide))).1).2.2.2.2.2.2.1).elim⟩
    · obtain rfl := Option.some.inj ho
      have h1 : On l 1 := hdep ⟨1, .data⟩ (by simp) rfl
      have h3 : On l 3 := hdep ⟨3, .data⟩ (by simp) rfl
      have h5 : On l 5 := hdep ⟨5, .data⟩ (by simp) rfl
      have h7 : On l 7 := hdep ⟨7, .data⟩ (by simp) rfl
      have h9 : On l 9 := hdep ⟨9, .data⟩ (by simp) rfl
      have h11 : On l 11 := hdep ⟨11, .data⟩ (by simp) rfl
      have h13 : On l 13 := hdep ⟨13, .data⟩ (by simp) rfl
      obtain ⟨q1, rfl⟩ := c1 h1
      obtain ⟨q3, rfl⟩ := c3 h3
      obtain ⟨q5, rfl⟩ := c5 h5
      obtain ⟨q7, rfl⟩ := c7 h7
      obtain ⟨q9, rfl⟩ := c9 h9
      obtain ⟨q11, rfl⟩ := c11 h11
      obtain ⟨rfl, rk⟩ := c13 h13
      unfold rankV
      go_simp
      refine hK _ _ ⟨by simp [hs], hB, hlt, bo, bp, bw, bc, v3, _, v5, _, v7, _, v9, _, v11, _, v13, _, v15, _, _, rfl, fun h => c0 (h.of_set (by decide)), fun h => c2 (h.of_set (by decide)), fun h => c4 (h.of_set (by decide)), fun h => c6 (h.of_set (by decide)), fun h => c8 (h.of_set (by decide)), fun h => c10 (h.of_set (by decide)), fun h => c12 (h.of_set (by decide)), fun h => c1 (h.of_set (by decide)), fun h => c3 (h.of_set (by decide)), fun h => c5 (h.of_set (by decide)), fun h => c7 (h.of_set (by decide)), fun h => c9 (h.of_set (by decide)), fun h => c11 (h.of_set (by decide)), th, fun h => c13 (h.of_set (by decide)), fun _ => ⟨h1.set _, h3.set _, h5.set _, h7.set _, h9.set _, h11.set _, h13.set _, rfl⟩, fun h => by obtain ⟨e1, e2⟩ := c15 (h.of_set (by decide)); exact ⟨e1.set _, e2⟩⟩
    · obtain rfl := Option.some.inj ho
      have h14 : On l 14 := hdep ⟨14, .data⟩ (by simp) rfl
      obtain ⟨h1, h3, h5, h7, h9, h11, h13, rfl⟩ := c14 h14
      obtain ⟨q1, rfl⟩ := c1 h1
      obtain ⟨q3, rfl⟩ := c3 h3
      obtain ⟨q5, rfl⟩ := c5 h5
      obtain ⟨q7, rfl⟩ := c7 h7
      obtain ⟨q9, rfl⟩ := c9 h9
      obtain ⟨q11, rfl⟩ := c11 h11
      obtain ⟨rfl, rk⟩ := c13 h13
      rw [if_pos (by rfl)]
      refine wp_store_mid 35 (.tmp 2) (.tmp 17) rfl w.heap.size 0 (hearCells _ _ _ _ _ _ bo bp bw bc n) rfl rfl (fun j hj => th j (by simpa [hearCells] using hj)) (by kernel_rfl) (by simp [hearCells, Value.oneCell']) ?_
      refine hK _ _ ⟨by simp [hs], sets_below hB (Nat.le_refl _) _ _, by rw [sets_size]; exact hlt, bo, bp, bw, bc, v3, _, v5, _, v7, _, v9, _, v11, _, v13, _, v15, _, _, rfl, fun h => c0 (h.of_set (by decide)), fun h => c2 (h.of_set (by decide)), fun h => c4 (h.of_set (by decide)), fun h => c6 (h.of_set (by decide)), fun h => c8 (h.of_set (by decide)), fun h => c10 (h.of_set (by decide)), fun h => c12 (h.of_set (by decide)), fun h => c1 (h.of_set (by decide)), fun h => c3 (h.of_set (by decide)), fun h => c5 (h.of_set (by decide)), fun h => c7 (h.of_set (by decide)), fun h => c9 (h.of_set (by decide)), fun h => c11 (h.of_set (by decide)), there_sets th _ _ _, fun _ => ⟨rfl, rk.sets _ _ _⟩, fun _ => ⟨h1.set _, h3.set _, h5.set _, h7.set _, h9.set _, h11.set _, h13.set _, rfl⟩, fun _ => ⟨h14.set _, World.rangeAt_setCells_same _ _ _ _ (fun j hj => th j (by simpa [hearCells] using hj))⟩⟩
    · simp at ho
  case last =>
    rintro l a w' ⟨hs, hB, hlt, bo, bp, bw, bc, v3, v4, v5, v6, v7, v8, v9, v10, v11, v12, v13, v14, v15, v16, v17, rfl, c0, c2, c4, c6, c8, c10, c12, c1, c3, c5, c7, c9, c11, th, c13, c14, c15⟩ hall
    obtain ⟨q1, rfl⟩ := c1 (hall 1 (by decide))
    obtain ⟨q3, rfl⟩ := c3 (hall 3 (by decide))
    obtain ⟨q5, rfl⟩ := c5 (hall 5 (by decide))
    obtain ⟨q7, rfl⟩ := c7 (hall 7 (by decide))
    obtain ⟨q9, rfl⟩ := c9 (hall 9 (by decide))
    obtain ⟨q11, rfl⟩ := c11 (hall 11 (by decide))
    obtain ⟨rfl, rk⟩ := c13 (hall 13 (by decide))
    obtain ⟨h14, hr⟩ := c15 (hall 15 (by decide))
    clear c0 c1 c2 c3 c4 c5 c6 c7 c8 c9 c10 c11 c12 c13 c14 c15 hall hs m1 m2 m3 th h14
    rename_i K hK
    refine hK _ _ ?_
    clear hK K
    go_wp2
    refine bodyPost_ret (v := .agg (hearCells _ _ _ _ _ _ bo bp bw bc n)) ?_ rfl ⟨q1, q3, q5, q7, q9, q11, bo, bp, bw, bc, rfl, hB, ⟨rk.tp, rk.tw, rk.tc, rk.pw, rk.cw, Nat.le_of_succ_le rk.lp, Nat.le_of_succ_le rk.lw, Nat.le_of_succ_le rk.lc, rk.sp, rk.sw, rk.sc⟩⟩
    have := run_loadVar_mid (P := Yba.prog) w' w.heap.size 0 35 _ _ hr Yba.underlying35 rfl (by kernel_rfl)
    simp [results, Yba.results6, asAddr]
    simpa using this
end Go.Proofs.Ybulkcseo
