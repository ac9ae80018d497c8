/-
  LawS4694BMedian: 'medianWait' by contract, and the words for the law's memory.
-/
import Derived.Test.YbulkcseoHear
import Derived.Test.YbulkcseoMid
import Derived.Deep.RegionWith
import Derived.ArgAppend
set_option linter.unusedVariables false
namespace Go.Proofs.Ybulkcseo
open Go.RowKit Go.Any

set_option maxHeartbeats 1000000 in
theorem waitAt (A o bo bw n c k m : Nat) (r : Nat) (v : Int) (w : World) (h0 : w.cell? ⟨A, o, none⟩ = some (.slice (some ⟨bo, 0, none⟩) n c)) (h2 : w.cell? ⟨A, o + 2, none⟩ = some (.slice (some ⟨bw, 0, none⟩) m m))
    (hk : k < n) (hn : n ≤ 1024) (hm : m ≤ 1024) (ho : w.cell? ⟨bo, k, none⟩ = some (.int .i64 ((r : Int) + 1))) (hr : r < m) (hv : w.cell? ⟨bw, r, none⟩ = some (.int .i64 v)) :
    Calls Yba.prog 17 #[.pointer (some ⟨A, o, none⟩), .int .i64 k] w fun e w' => e = .returned (.int .i64 v) ∧ Below w.heap.size w w' := by
  go_enter Yba.func17, Yba.ntmps17
  go_wp2_with fail
  have e1 : IntKind.i64.wrap ((r : Int) + 1 - 1) = (r : Int) := by rw [IntKind.wrap_i64]; omega
  go_quiet (fail)
  go_wp2
  go_ret
  exact ⟨rfl, ⟨rfl, rfl, rfl, Nat.le_refl _, fun _ _ => rfl⟩⟩

set_option maxHeartbeats 1000000 in
theorem median (A o bo bw n c m : Nat) (r : Nat) (v : Int) (w : World) (h0 : w.cell? ⟨A, o, none⟩ = some (.slice (some ⟨bo, 0, none⟩) n c)) (h2 : w.cell? ⟨A, o + 2, none⟩ = some (.slice (some ⟨bw, 0, none⟩) m m))
    (hn0 : 0 < n) (hn : n ≤ 1024) (hm : m ≤ 1024) (ho : w.cell? ⟨bo, n / 2, none⟩ = some (.int .i64 ((r : Int) + 1))) (hr : r < m) (hv : w.cell? ⟨bw, r, none⟩ = some (.int .i64 v)) :
    Calls Yba.prog 15 #[.pointer (some ⟨A, o, none⟩)] w fun e w' => e = .returned (.int .i64 v) ∧ Below w.heap.size w w' := by
  have hd : Int.tdiv (n : Int) 2 = ((n / 2 : Nat) : Int) := by rw [Int.tdiv_eq_ediv_of_nonneg (by omega)]; omega
  go_enter Yba.func15, Yba.ntmps15
  go_wp2_with (refine (waitAt A o bo bw n c (n / 2) m r v _ h0 h2 (by omega) hn hm ho hr hv).mono ?_; rintro e w1 ⟨rfl, hb⟩)
  go_ret
  exact ⟨rfl, by assumption⟩

set_option maxHeartbeats 1000000 in
theorem medianWait0 (H bo c : Nat) (w : World) (h0 : w.cell? ⟨H, 5, none⟩ = some (.slice (some ⟨bo, 0, none⟩) 0 c)) :
    Calls Yba.prog 7 #[.pointer (some ⟨H, 0, none⟩)] w fun e w' => e = .returned (.int .i64 0) ∧ Below w.heap.size w w' := by
  go_enter Yba.func7, Yba.ntmps7
  go_wp2
  go_ret
  exact ⟨rfl, Below.refl _ _⟩

set_option maxHeartbeats 1000000 in
theorem medianWaitF (H bo n c : Nat) (t : Int) (w : World) (h0 : w.cell? ⟨H, 5, none⟩ = some (.slice (some ⟨bo, 0, none⟩) n c)) (h4 : w.cell? ⟨H, 9, none⟩ = some (.int .i64 t)) (hn0 : 0 < n) (hn : n ≤ 1024) (ht : t < 8) :
    Calls Yba.prog 7 #[.pointer (some ⟨H, 0, none⟩)] w fun e w' => e = .returned (.int .i64 50000000) ∧ Below w.heap.size w w' := by
  have hne : ((n : Int) == 0) = false := by simp; omega
  have hne' : ¬ n = 0 := by omega
  go_enter Yba.func7, Yba.ntmps7
  go_wp2
  go_ret
  exact ⟨rfl, Below.refl _ _⟩

set_option maxHeartbeats 1000000 in
theorem medianWaitM (H bo bw n c m : Nat) (t : Int) (r : Nat) (v : Int) (w : World) (h0 : w.cell? ⟨H, 5, none⟩ = some (.slice (some ⟨bo, 0, none⟩) n c)) (h2 : w.cell? ⟨H, 7, none⟩ = some (.slice (some ⟨bw, 0, none⟩) m m)) (h4 : w.cell? ⟨H, 9, none⟩ = some (.int .i64 t)) (hn0 : 0 < n) (hn : n ≤ 1024) (hm : m ≤ 1024) (ht : 8 ≤ t)
    (ho : w.cell? ⟨bo, n / 2, none⟩ = some (.int .i64 ((r : Int) + 1))) (hr : r < m) (hv : w.cell? ⟨bw, r, none⟩ = some (.int .i64 v)) :
    Calls Yba.prog 7 #[.pointer (some ⟨H, 0, none⟩)] w fun e w' => e = .returned (.int .i64 v) ∧ Below w.heap.size w w' := by
  have hne : ((n : Int) == 0) = false := by simp; omega
  have hne' : ¬ n = 0 := by omega
  have hnt : ¬ t < 8 := by omega
  have hm1 : Hid (∀ w', Below w.heap.size w w' → True) := fun _ _ => trivial
  go_enter Yba.func7, Yba.ntmps7
  go_wp2_with (refine (median H 5 bo bw n c m r v _ h0 h2 hn0 hn hm ho hr hv).mono ?_; rintro e w1 ⟨rfl, hb⟩)
  go_ret
  exact ⟨rfl, by assumption⟩

/-- The law's memory: the hearing's block, its rows. -/
structure Mem (w wr : World) (H bp bw bc n : Nat) (ov : Value) (t : Int) : Prop where
  bel : Below w.heap.size w wr
  c5 : wr.cell? ⟨H, 5, none⟩ = some ov
  c6 : wr.cell? ⟨H, 6, none⟩ = some (.slice (some ⟨bp, 0, none⟩) n n)
  c7 : wr.cell? ⟨H, 7, none⟩ = some (.slice (some ⟨bw, 0, none⟩) n n)
  c8 : wr.cell? ⟨H, 8, none⟩ = some (.slice (some ⟨bc, 0, none⟩) n n)
  c9 : wr.cell? ⟨H, 9, none⟩ = some (.int .i64 t)
  f5 : wr.frozen? ⟨H, 5, none⟩ = false
  f9 : wr.frozen? ⟨H, 9, none⟩ = false
  tp : wr.there bp 0 n
  tw : wr.there bw 0 n
  tc : wr.there bc 0 n
  sH : H < wr.heap.size
  sp : bp < wr.heap.size
  sw : bw < wr.heap.size
  sc : bc < wr.heap.size

/-- How the blocks lie to each other. -/
structure Lay (B H bp bw bc : Nat) : Prop where
  lH : B ≤ H
  lp : B ≤ bp
  lw : B ≤ bw
  lc : B ≤ bc
  pw : bp ≠ bw
  cw : bc ≠ bw
  pH : bp ≠ H
  wH : bw ≠ H
  cH : bc ≠ H

theorem Mem.below {w wr wr' : World} {H bp bw bc n : Nat} {ov : Value} {t : Int} (h : Mem w wr H bp bw bc n ov t) (k : Below wr.heap.size wr wr') (hB : w.heap.size ≤ wr.heap.size) : Mem w wr' H bp bw bc n ov t :=
  ⟨h.bel.trans (k.mono hB), (k.cell h.sH).trans h.c5, (k.cell h.sH).trans h.c6, (k.cell h.sH).trans h.c7, (k.cell h.sH).trans h.c8, (k.cell h.sH).trans h.c9, (k.frozen h.sH).trans h.f5, (k.frozen h.sH).trans h.f9,
    there_below h.tp h.sp k, there_below h.tw h.sw k, there_below h.tc h.sc k, Nat.lt_of_lt_of_le h.sH k.size, Nat.lt_of_lt_of_le h.sp k.size, Nat.lt_of_lt_of_le h.sw k.size, Nat.lt_of_lt_of_le h.sc k.size⟩
theorem Mem.set {w wr : World} {H bp bw bc n : Nat} {ov : Value} {t : Int} (h : Mem w wr H bp bw bc n ov t) (p : Addr) (v : Value) (h1 : w.heap.size ≤ p.block) (h2 : p.block ≠ H) : Mem w (wr.setCell p v) H bp bw bc n ov t :=
  ⟨h.bel.setCell h1 _, (World.cell?_setCell_far _ _ _ _ h2).trans h.c5, (World.cell?_setCell_far _ _ _ _ h2).trans h.c6, (World.cell?_setCell_far _ _ _ _ h2).trans h.c7, (World.cell?_setCell_far _ _ _ _ h2).trans h.c8, (World.cell?_setCell_far _ _ _ _ h2).trans h.c9, by simpa using h.f5, by simpa using h.f9,
    there_set h.tp _ _, there_set h.tw _ _, there_set h.tc _ _, by simpa using h.sH, by simpa using h.sp, by simpa using h.sw, by simpa using h.sc⟩

/-- The first k cells of a block. -/
def Fill (wr : World) (b : Nat) (f : Nat → Int) (k : Nat) : Prop := ∀ j, j < k → wr.cell? ⟨b, j, none⟩ = some (.int .i64 (f j))
theorem Fill.far {wr : World} {b : Nat} {f : Nat → Int} {k : Nat} (h : Fill wr b f k) (p : Addr) (v : Value) (hp : p.block ≠ b) : Fill (wr.setCell p v) b f k := fun j hj => (World.cell?_setCell_far _ _ _ _ hp).trans (h j hj)
theorem Fill.below {wr wr' : World} {b : Nat} {f : Nat → Int} {k : Nat} (h : Fill wr b f k) (hb : b < wr.heap.size) (q : Below wr.heap.size wr wr') : Fill wr' b f k := fun j hj => (q.cell hb).trans (h j hj)
theorem Fill.next {wr : World} {b : Nat} {f : Nat → Int} {k n : Nat} (h : Fill wr b f k) (ht : wr.there b 0 n) (hk : k < n) : Fill (wr.setCell ⟨b, k, none⟩ (.int .i64 (f k))) b f (k + 1) := fun j hj => by
  by_cases e : j = k
  · subst e
    exact World.cell?_setCell_same' _ _ _ (by have := (ht j hk).1; simpa using this)
  · rw [World.cell?_setCell_other _ _ _ _ (by intro h; injection h; omega)]
    exact h j (by omega)
theorem Fill.congr {wr : World} {b : Nat} {f g : Nat → Int} {k : Nat} (h : Fill wr b f k) (e : ∀ j, j < k → f j = g j) : Fill wr b g k := fun j hj => by rw [← e j hj]; exact h j hj
theorem Mem.drew {w wr : World} {H bp bw bc n : Nat} {ov : Value} {t : Int} (h : Mem w wr H bp bw bc n ov t) : Mem w wr.drew H bp bw bc n ov t :=
  ⟨h.bel.drew, h.c5, h.c6, h.c7, h.c8, h.c9, h.f5, h.f9, h.tp, h.tw, h.tc, h.sH, h.sp, h.sw, h.sc⟩
theorem Fill.drew {wr : World} {b : Nat} {f : Nat → Int} {k : Nat} (h : Fill wr b f k) : Fill wr.drew b f k := h

def Sorted (f : Nat → Int) (m : Nat) : Prop := ∀ p q, p < q → q < m → f p ≤ f q
def Part (f : Nat → Int) (m j : Nat) : Prop := (∀ p q, p < q → q < m → p ≠ j → q ≠ j → f p ≤ f q) ∧ ∀ q, j < q → q < m → f j ≤ f q
theorem part_start {f : Nat → Int} {k : Nat} (h : Sorted f k) : Part f (k + 1) k := ⟨fun p q h1 h2 _ h4 => h p q h1 (by omega), fun q h1 h2 => by omega⟩
theorem part_zero {f : Nat → Int} {m : Nat} (h : Part f m 0) : Sorted f m := fun p q h1 h2 => by
  by_cases e : p = 0
  · subst e; exact h.2 q h1 h2
  · exact h.1 p q h1 h2 e (by omega)
theorem part_end {f : Nat → Int} {m i : Nat} (h : Part f m (i + 1)) (hm : i + 1 < m) (hle : f i ≤ f (i + 1)) : Sorted f m := fun p q h1 h2 => by
  by_cases e : p = i + 1
  · subst e; exact h.2 q h1 h2
  · by_cases e2 : q = i + 1
    · subst e2
      by_cases e3 : p = i
      · subst e3; exact hle
      · exact Int.le_trans (h.1 p i (by omega) (by omega) e (by omega)) hle
    · exact h.1 p q h1 h2 e e2
theorem part_swap {f : Nat → Int} {m i : Nat} (h : Part f m (i + 1)) (hm : i + 1 < m) (hgt : f (i + 1) < f i) : Part (swapf f (i + 1)) m i := by
  have s1 : swapf f (i + 1) (i + 1) = f i := by unfold swapf; rw [if_pos rfl]; rfl
  have s2 : swapf f (i + 1) i = f (i + 1) := by unfold swapf; rw [if_neg (by omega), if_pos (by omega)]
  have s3 : ∀ p, p ≠ i → p ≠ i + 1 → swapf f (i + 1) p = f p := fun p h1 h2 => by unfold swapf; rw [if_neg h2, if_neg (by omega)]
  refine ⟨fun p q h1 h2 h3 h4 => ?_, fun q h1 h2 => ?_⟩
  · by_cases e : p = i + 1
    · subst e
      rw [s1, s3 q (by omega) (by omega)]
      exact h.1 i q (by omega) h2 (by omega) (by omega)
    · by_cases e2 : q = i + 1
      · subst e2
        rw [s1, s3 p h3 e]
        exact h.1 p i (by omega) (by omega) e (by omega)
      · rw [s3 p h3 e, s3 q h4 e2]
        exact h.1 p q h1 h2 e e2
  · rw [s2]
    by_cases e2 : q = i + 1
    · subst e2; rw [s1]; omega
    · rw [s3 q (by omega) e2]
      exact h.2 q (by omega) h2

/-- The memory while the order is laid. -/
structure Og (w wr : World) (H bo bp bw bc O n : Nat) (z : Nat → Int) (ord : Nat → Nat) (m : Nat) : Prop where
  mem : Mem w wr H bp bw bc n (.slice (some ⟨bo, 0, none⟩) 0 n) 0
  wt : Fill wr bw z n
  th : wr.there O 0 n
  sO : O < wr.heap.size
  od : Fill wr O (fun p => (ord p : Int) + 1) m
  lt : ∀ p, p < m → ord p < n
  ct : ∀ P, cnt P (fun p => z (ord p)) m = cnt P z m

structure LayO (B H bp bw bc O : Nat) : Prop extends Lay B H bp bw bc where
  lO : B ≤ O
  HO : O ≠ H
  pO : O ≠ bp
  wO : O ≠ bw

theorem Og.drew {w wr : World} {H bo bp bw bc O n : Nat} {z : Nat → Int} {ord : Nat → Nat} {m : Nat} (h : Og w wr H bo bp bw bc O n z ord m) : Og w wr.drew H bo bp bw bc O n z ord m :=
  ⟨h.mem.drew, h.wt, h.th, h.sO, h.od, h.lt, h.ct⟩
theorem Og.drewN {w wr : World} {H bo bp bw bc O n : Nat} {z : Nat → Int} {ord : Nat → Nat} {m : Nat} (h : Og w wr H bo bp bw bc O n z ord m) (q : Nat) : Og w (wr.drewN q) H bo bp bw bc O n z ord m :=
  ⟨⟨h.mem.bel.trans ⟨rfl, rfl, rfl, Nat.le_refl _, fun _ _ => rfl⟩, h.mem.c5, h.mem.c6, h.mem.c7, h.mem.c8, h.mem.c9, h.mem.f5, h.mem.f9, h.mem.tp, h.mem.tw, h.mem.tc, h.mem.sH, h.mem.sp, h.mem.sw, h.mem.sc⟩, h.wt, h.th, h.sO, h.od, h.lt, h.ct⟩

def ordAdd (ord : Nat → Nat) (k : Nat) : Nat → Nat := fun p => if p = k then k else ord p
def ordSwap (ord : Nat → Nat) (j : Nat) : Nat → Nat := fun p => if p = j then ord (j - 1) else if p = j - 1 then ord j else ord p

theorem Og.add {w wr : World} {H bo bp bw bc O n : Nat} {z : Nat → Int} {ord : Nat → Nat} {k : Nat} (h : Og w wr H bo bp bw bc O n z ord k) (L : LayO w.heap.size H bp bw bc O) (hk : k < n) (o : Obj) :
    Og w ((wr.alloc o).setCell ⟨O, k, none⟩ (.int .i64 ((k : Int) + 1))) H bo bp bw bc O n z (ordAdd ord k) (k + 1) := by
  have kb : Below wr.heap.size wr (wr.alloc o) := (Below.refl _ _).alloc (Nat.le_refl _) _
  have e1 : ∀ p, p < k → ordAdd ord k p = ord p := fun p hp => if_neg (by omega)
  have e2 : ordAdd ord k k = k := if_pos rfl
  have od : Fill (wr.alloc o) O (fun p => (ordAdd ord k p : Int) + 1) k := (h.od.below h.sO kb).congr fun p hp => by simp only [e1 p hp]
  have od2 := od.next (there_below h.th h.sO kb) hk
  simp only [e2] at od2
  refine ⟨(h.mem.below kb h.mem.bel.size).set _ _ L.lO L.HO, (h.wt.below h.mem.sw kb).far _ _ L.wO, there_set (there_below h.th h.sO kb) _ _, ?_, od2, ?_, ?_⟩
  · have := h.sO; simp; omega
  · intro p hp
    by_cases e : p = k
    · subst e; rw [e2]; exact hk
    · rw [e1 p (by omega)]; exact h.lt p (by omega)
  · intro P
    show cnt P (fun p => z (ordAdd ord k p)) k + _ = cnt P z k + _
    have e3 : (fun p => z (ordAdd ord k p)) k = z k := congrArg z e2
    rw [← h.ct P, e3]
    congr 1
    exact cnt_congr fun p hp => by rw [e1 p hp]

theorem Og.swap {w wr : World} {H bo bp bw bc O n : Nat} {z : Nat → Int} {ord : Nat → Nat} {m i : Nat} (h : Og w wr H bo bp bw bc O n z ord m) (L : LayO w.heap.size H bp bw bc O) (hi : i + 1 < m) (hm : m ≤ n) :
    Og w ((wr.setCell ⟨O, i + 1, none⟩ (.int .i64 ((ord i : Int) + 1))).setCell ⟨O, i, none⟩ (.int .i64 ((ord (i + 1) : Int) + 1))) H bo bp bw bc O n z (ordSwap ord (i + 1)) m := by
  have s1 : ordSwap ord (i + 1) (i + 1) = ord i := if_pos rfl
  have s2 : ordSwap ord (i + 1) i = ord (i + 1) := by unfold ordSwap; rw [if_neg (by omega), if_pos (by omega)]
  have s3 : ∀ p, p ≠ i → p ≠ i + 1 → ordSwap ord (i + 1) p = ord p := fun p h1 h2 => by unfold ordSwap; rw [if_neg h2, if_neg (by omega)]
  refine ⟨(h.mem.set _ _ L.lO L.HO).set _ _ L.lO L.HO, (h.wt.far _ _ L.wO).far _ _ L.wO, there_set (there_set h.th _ _) _ _, by simpa using h.sO, ?_, ?_, ?_⟩
  · intro p hp
    show _ = some (Value.int .i64 ((ordSwap ord (i + 1) p : Int) + 1))
    have t1 := (h.th (i + 1) (by omega)).1
    have t2 := (there_set h.th ⟨O, i + 1, none⟩ (.int .i64 ((ord i : Int) + 1)) i (by omega)).1
    simp only [Nat.zero_add] at t1 t2
    by_cases e : p = i
    · subst e
      rw [World.cell?_setCell_same' _ _ _ t2, s2]
    · rw [World.cell?_setCell_other _ _ _ _ (by intro h; injection h; omega)]
      by_cases e2 : p = i + 1
      · subst e2
        rw [World.cell?_setCell_same' _ _ _ t1, s1]
      · rw [World.cell?_setCell_other _ _ _ _ (by intro h; injection h; omega), s3 p e e2]
        exact h.od p hp
  · intro p hp
    by_cases e : p = i
    · subst e; rw [s2]; exact h.lt _ hi
    · by_cases e2 : p = i + 1
      · subst e2; rw [s1]; exact h.lt _ (by omega)
      · rw [s3 p e e2]; exact h.lt _ hp
  · intro P
    rw [← h.ct P, ← cnt_swap P (fun p => z (ord p)) (i + 1) (by omega) m hi]
    refine cnt_congr fun p hp => ?_
    unfold swapf ordSwap
    by_cases e2 : p = i + 1
    · simp [e2]
    · by_cases e : p = i
      · simp [e]
      · simp [e, e2]
theorem swapf_ord (z : Nat → Int) (ord : Nat → Nat) (i : Nat) : (fun p => z (ordSwap ord (i + 1) p)) = swapf (fun p => z (ord p)) (i + 1) := by
  funext p
  unfold swapf ordSwap
  by_cases e2 : p = i + 1
  · simp [e2]
  · by_cases e : p = i
    · simp [e]
    · simp [e, e2]
theorem Og.place {w wr : World} {H bo bp bw bc O n : Nat} {z : Nat → Int} {ord : Nat → Nat} {m : Nat} (h : Og w wr H bo bp bw bc O n z ord m) (L : LayO w.heap.size H bp bw bc O) (j : Nat) (v : Value) :
    Og w (wr.setCell ⟨bp, j, none⟩ v) H bo bp bw bc O n z ord m :=
  ⟨h.mem.set _ _ L.lp L.pH, h.wt.far _ _ L.pw, there_set h.th _ _, by simpa using h.sO, h.od.far _ _ L.pO.symm, h.lt, h.ct⟩

/-- The memory once the rank is laid. -/
structure Dn (w wr : World) (H bw O n : Nat) (z : Nat → Int) (ord : Nat → Nat) (t : Int) : Prop where
  bel : Below w.heap.size w wr
  c5 : wr.cell? ⟨H, 5, none⟩ = some (.slice (some ⟨O, 0, none⟩) n n)
  c7 : wr.cell? ⟨H, 7, none⟩ = some (.slice (some ⟨bw, 0, none⟩) n n)
  c9 : wr.cell? ⟨H, 9, none⟩ = some (.int .i64 t)
  wt : Fill wr bw z n
  od : Fill wr O (fun p => (ord p : Int) + 1) n
  sH : H < wr.heap.size
  sw : bw < wr.heap.size
  sO : O < wr.heap.size

theorem Og.done {w wr : World} {H bo bp bw bc O n : Nat} {z : Nat → Int} {ord : Nat → Nat} (h : Og w wr H bo bp bw bc O n z ord n) (L : LayO w.heap.size H bp bw bc O) (t : Int) :
    Dn w ((wr.setCell ⟨H, 5, none⟩ (.slice (some ⟨O, 0, none⟩) n n)).setCell ⟨H, 9, none⟩ (.int .i64 t)) H bw O n z ord t := by
  have g5 := h.mem.c5
  have g9 := h.mem.c9
  refine ⟨(h.mem.bel.setCell L.lH _).setCell L.lH _, ?_, ?_, ?_, (h.wt.far _ _ L.wH.symm).far _ _ L.wH.symm, (h.od.far _ _ L.HO.symm).far _ _ L.HO.symm, by simpa using h.mem.sH, by simpa using h.mem.sw, by simpa using h.sO⟩
  · rw [World.cell?_setCell_other _ _ _ _ (by intro h; injection h; omega)]
    exact World.cell?_setCell_same _ _ _ g5
  · rw [World.cell?_setCell_other _ _ _ _ (by intro h; injection h; omega), World.cell?_setCell_other _ _ _ _ (by intro h; injection h; omega)]
    exact h.mem.c7
  · exact World.cell?_setCell_same' _ _ _ (by rw [World.cell?_setCell_other _ _ _ _ (by intro h; injection h; omega), g9]; rfl)
theorem Dn.below {w wr wr' : World} {H bw O n : Nat} {z : Nat → Int} {ord : Nat → Nat} {t : Int} (h : Dn w wr H bw O n z ord t) (k : Below wr.heap.size wr wr') : Dn w wr' H bw O n z ord t :=
  ⟨h.bel.trans (k.mono h.bel.size), (k.cell h.sH).trans h.c5, (k.cell h.sH).trans h.c7, (k.cell h.sH).trans h.c9, h.wt.below h.sw k, h.od.below h.sO k, Nat.lt_of_lt_of_le h.sH k.size, Nat.lt_of_lt_of_le h.sw k.size, Nat.lt_of_lt_of_le h.sO k.size⟩
theorem Dn.drewN {w wr : World} {H bw O n : Nat} {z : Nat → Int} {ord : Nat → Nat} {t : Int} (h : Dn w wr H bw O n z ord t) (q : Nat) : Dn w (wr.drewN q) H bw O n z ord t :=
  h.below ⟨rfl, rfl, rfl, Nat.le_refl _, fun _ _ => rfl⟩
end Go.Proofs.Ybulkcseo
