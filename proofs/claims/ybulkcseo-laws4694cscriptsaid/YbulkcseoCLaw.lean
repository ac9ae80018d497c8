/-
  LawS4694CScript: the law's own walk.
-/
import Derived.Test.YbulkcseoCNew
import Derived.Deep.RegionWith
set_option linter.unusedVariables false
namespace Go.Proofs.Ybulkcseo.C
open Go.RowKit Go.Any
open Go.Proofs.Ybulkcseo

/-- The law's memory. -/
structure St (w wr : World) (X M Q S W : Nat) (m : Nat → Nat) (l : List (RM.Ent Nat)) (c : Nat) : Prop where
  win : Win wr X S W M (num (fun s => oT W S (m s)) 8) (num (fun s => kT S (m s)) 8)
  mp : MP wr M m l c
  bel : Below w.heap.size w wr
  mod : ∀ s, s < 8 → wr.cell? ⟨Q, s, none⟩ = some (.int .u64 (m s))
  fro : ∀ s, wr.frozen? ⟨Q, s, none⟩ = false
  sX : X < wr.heap.size
  sQ : Q < wr.heap.size

structure Ly (B X M Q : Nat) : Prop where
  lX : B ≤ X
  lM : B ≤ M
  lQ : B ≤ Q
  XM : X ≠ M
  QX : Q ≠ X
  QM : Q ≠ M

/-- A block more. -/
theorem St.more {w wr : World} {X M Q S W : Nat} {m : Nat → Nat} {l : List (RM.Ent Nat)} {c : Nat} (h : St w wr X M Q S W m l c) (o : Obj) : St w (wr.alloc o) X M Q S W m l c :=
  have k : Below wr.heap.size wr (wr.alloc o) := (Below.refl _ _).alloc (Nat.le_refl _) _
  ⟨h.win.block (k.block X h.sX), h.mp.block (k.block M h.mp.lt) k.size, h.bel.trans (k.mono h.bel.size), fun s hs => (k.cell h.sQ).trans (h.mod s hs), fun s => (k.frozen h.sQ).trans (h.fro s), Nat.lt_of_lt_of_le h.sX k.size, Nat.lt_of_lt_of_le h.sQ k.size⟩

/-- A step of the script: the window's turn, then the model's. -/
theorem St.step {w wr wr' : World} {X M Q S W : Nat} {m : Nat → Nat} {l : List (RM.Ent Nat)} {c : Nat} (h : St w wr X M Q S W m l c) (L : Ly w.heap.size X M Q) {s v : Nat} (hs : s < 8)
    (hw : Win wr' X S W M (num (fun s => oT W S (m s)) 8 + b2z (oT W S (m s)) (-1) + b2z (oT W S v) 1) (num (fun s => kT S (m s)) 8 + b2z (kT S (m s)) (-1) + b2z (kT S v) 1))
    {l' : List (RM.Ent Nat)} {c' : Nat} (hm : MP wr' M (upd m s v) l' c') (t : Tw X M wr wr') : St w (wr'.setCell ⟨Q, s, none⟩ (.int .u64 v)) X M Q S W (upd m s v) l' c' := by
  have hq : wr'.heap[Q]? = wr.heap[Q]? := t.block Q h.sQ L.QX L.QM
  refine ⟨?_, hm.block (Below.heap_setCell _ _ _ _ L.QM.symm) (by simp), (t.below h.bel L.lX L.lM h.bel.size).setCell L.lQ _, fun j hj => ?_, fun j => ?_, ?_, ?_⟩
  · rw [num_upd' (oT W S) m hs, num_upd' (kT S) m hs]
    exact hw.block (Below.heap_setCell _ _ _ _ L.QX.symm)
  · by_cases e : j = s
    · subst e
      rw [upd_same]
      exact World.cell?_setCell_same _ _ _ ((World.cell?_of_block (w := wr) hq).trans (h.mod j hj))
    · rw [upd_other m e, World.cell?_setCell_other _ _ _ _ (by intro h; injection h; omega)]
      exact (World.cell?_of_block (w := wr) hq).trans (h.mod j hj)
  · have := (World.frozen?_of_block (w := wr) (a := ⟨Q, j, none⟩) hq).trans (h.fro j)
    simpa using this
  · have := h.sX; have := t.size; simp; omega
  · have := h.sQ; have := t.size; simp; omega

theorem St.waited {w wr wr' : World} {X M Q S W wt : Nat} {m : Nat → Nat} {l : List (RM.Ent Nat)} {c : Nat} (h : St w wr X M Q S W m l c) (L : Ly w.heap.size X M Q)
    (hw : Win wr' X S wt M (num (fun s => oT wt S (m s)) 8) (num (fun s => kT S (m s)) 8)) (hm : MP wr' M m l c) (t : Tw X M wr wr') : St w wr' X M Q S wt m l c :=
  have hq : wr'.heap[Q]? = wr.heap[Q]? := t.block Q h.sQ L.QX L.QM
  ⟨hw, hm, t.below h.bel L.lX L.lM h.bel.size, fun s hs => (World.cell?_of_block (w := wr) hq).trans (h.mod s hs), fun s => (World.frozen?_of_block (w := wr) hq).trans (h.fro s), Nat.lt_of_lt_of_le h.sX t.size, Nat.lt_of_lt_of_le h.sQ t.size⟩

def bitOf (p : Nat) : Nat := 2 ^ (p - 1)
def allOf (n : Nat) : Nat := 18446744073709551615 / 2 ^ (64 - n)
theorem bitOf_lt {p : Nat} (h : p ≤ 64) : bitOf p < 18446744073709551616 := pow_lt h
theorem allOf_lt (n : Nat) : allOf n < 18446744073709551616 := Nat.lt_of_le_of_lt (Nat.div_le_self _ _) (by decide)

theorem win_new {w w1 : World} {me M b n : Nat} (hb : Below w.heap.size w w1) (hM1 : w.heap.size < M) (hM : M < w1.heap.size) (hmap : w1.heap[M]? = some (.map #[] 0)) :
    Win ((w1.alloc (.cells Z44 44)).setCells w1.heap.size 0 (winCells me M b n).toList) w1.heap.size (bitOf me) (allOf n) M 0 0 ∧
    MP ((w1.alloc (.cells Z44 44)).setCells w1.heap.size 0 (winCells me M b n).toList) M (fun _ => 0) [] 0 ∧
    Below w.heap.size w ((w1.alloc (.cells Z44 44)).setCells w1.heap.size 0 (winCells me M b n).toList) ∧
    ((w1.alloc (.cells Z44 44)).setCells w1.heap.size 0 (winCells me M b n).toList).heap.size = w1.heap.size + 1 := by
  have hth : (w1.alloc (.cells Z44 44)).there w1.heap.size 0 (winCells me M b n).toList.length := fun j hj => by
    rw [alloc_new, alloc_fro]; simp [winCells, Z44] at hj ⊢; omega
  have hra := World.rangeAt_setCells_same _ _ _ _ hth
  have hs : ((w1.alloc (.cells Z44 44)).setCells w1.heap.size 0 (winCells me M b n).toList).heap.size = w1.heap.size + 1 := by rw [sets_size]; simp
  have hf : ∀ j, ((w1.alloc (.cells Z44 44)).setCells w1.heap.size 0 (winCells me M b n).toList).frozen? ⟨w1.heap.size, j, none⟩ = false := fun j => by
    rw [World.frozen?_setCells, alloc_fro]
  refine ⟨⟨hra 1 _ rfl, hra 2 _ rfl, hra 3 _ rfl, hra 4 _ rfl, hra 5 _ rfl, hf 2, hf 4, hf 5⟩, ⟨?_, ?_, ⟨?_, ?_⟩, fun s => rfl, fun _ _ => rfl, fun _ => by decide, rfl, by omega⟩, sets_below (hb.alloc hb.size _) hb.size _ _, hs⟩
  · exact (sets_far (Nat.ne_of_lt hM) _ _ _).trans ((Below.heap_alloc w1 _ M hM).trans hmap)
  · exact List.nodup_nil
  · intro e he; cases he
  · exact List.nodup_nil

/-- The script that was drawn. -/
structure Ops (w : World) (a : Option Addr) (n : Nat) (p q r : Nat → Nat) : Prop where
  at_ : ∀ j, j < n → ∃ b off, a = some ⟨b, off, none⟩ ∧ w.cell? ⟨b, off + j * 3, none⟩ = some (.int .u8 (p j)) ∧ w.cell? ⟨b, off + j * 3 + 1, none⟩ = some (.int .u8 (q j)) ∧ w.cell? ⟨b, off + j * 3 + 2, none⟩ = some (.int .u64 (r j)) ∧ b < w.heap.size
  bp : ∀ j, p j < 256
  bq : ∀ j, q j < 256
  br : ∀ j, r j < 18446744073709551616

set_option maxRecDepth 100000 in
theorem claw_long (i n : Int) (a : Option Addr) (len c : Nat) (wt : Int) (w : World) (hn : 1024 < len) (hn2 : len ≤ 9223372036854775807) : Calls Yba.prog 5 #[.int .u8 i, .int .u8 n, .slice a len c, .int .u64 wt] w fun e w' => e = .returned (.bool true) ∧ Below w.heap.size w w' := by
  have h1 : (1024 : Int) < len := by omega
  go_enter Yba.func5, Yba.ntmps5
  go_wp2
  go_ret
  exact ⟨rfl, Below.refl _ _⟩

theorem everyone1 (N : Nat) (h : N < 64) (w : World) : Calls Yba.prog 11 #[.int .i64 ((N : Int) + 1)] w fun e w' => e = .returned (.int .u64 ((allOf (N + 1) : Nat) : Int)) ∧ w' = w := by
  have := everyone (N + 1) (by omega) (by omega) w
  rw [show ((N + 1 : Nat) : Int) = (N : Int) + 1 by simp] at this
  exact this
theorem bit1 (N : Nat) (h : N < 64) (w : World) : Calls Yba.prog 8 #[.int .i64 ((N : Int) + 1)] w fun e w' => e = .returned (.int .u64 ((bitOf (N + 1) : Nat) : Int)) ∧ w' = w := by
  have := bit (N + 1) (by omega) (by omega) w
  rw [show ((N + 1 : Nat) : Int) = (N : Int) + 1 by simp] at this
  exact this
theorem newWindow1 (R N : Nat) (h : R < 64) (g : N < 64) (w : World) : Calls Yba.prog 10 #[.int .i64 ((R : Int) + 1), .int .i64 ((N : Int) + 1), .int .i64 4] w fun e w' => ∃ M b, e = .returned (.agg (winCells (R + 1) M b (N + 1))) ∧
    Below w.heap.size w w' ∧ w.heap.size < M ∧ M < w'.heap.size ∧ w'.heap[M]? = some (.map #[] 0) := by
  have := newWindow (R + 1) (N + 1) (by omega) (by omega) (by omega) (by omega) w
  rwa [show ((N + 1 : Nat) : Int) = (N : Int) + 1 by simp, show ((R + 1 : Nat) : Int) = (R : Int) + 1 by simp] at this

set_option maxHeartbeats 4000000 in
set_option maxRecDepth 100000 in
theorem claw_short (i n : Nat) (a : Option Addr) (len c : Nat) (wt : Nat) (p q r : Nat → Nat) (w : World) (hi : i < 256) (hnn : n < 256) (hn : len ≤ 1024) (hwt : wt < 18446744073709551616) (hO : Ops w a len p q r) :
    Calls Yba.prog 5 #[.int .u8 i, .int .u8 n, .slice a len c, .int .u64 wt] w fun e w' => e = .returned (.bool true) ∧ Below w.heap.size w w' := by
  have HO : Hid (Ops w a len p q r) := hO
  clear hO
  have hn1 : ¬ (1024 : Int) < len := by omega
  obtain ⟨N, hN⟩ : ∃ N, N = n % 64 := ⟨_, rfl⟩
  have hN64 : N < 64 := by omega
  have eN : Int.tmod (n : Int) 64 = (N : Int) := by rw [Int.tmod_eq_emod_of_nonneg (by omega)]; omega
  obtain ⟨R, hR⟩ : ∃ R, R = i % (N + 1) := ⟨_, rfl⟩
  have hRN : R < N + 1 := by rw [hR]; exact Nat.mod_lt _ (by omega)
  have eR : Int.tmod (i : Int) ((N : Int) + 1) = (R : Int) := by
    rw [Int.tmod_eq_emod_of_nonneg (by omega), hR, Int.natCast_emod]; rfl
  clear hN hR
  go_enter Yba.func5, Yba.ntmps5
  go_wp2_with fail
  refine (newWindow1 R N (by omega) hN64 w).mono ?_
  rintro e w1 ⟨M, b, rfl, hb1, hM1, hM2, hmap⟩
  go_wp2_with (first
    | (refine wpList_store_mid rfl 44 _ _ rfl w1.heap.size 0 (winCells (R + 1) M b (N + 1)) rfl rfl (fun j hj => by rw [alloc_new, alloc_fro]; simp [winCells] at hj ⊢; omega) (by kernel_rfl) (by simp [winCells, Value.oneCell']) ?_
       have hw2 := win_new (me := R + 1) (b := b) (n := N + 1) hb1 hM1 hM2 hmap
       unfold Z44 at hw2
       generalize ((w1.alloc _).setCells w1.heap.size 0 (winCells (R + 1) M b (N + 1)).toList) = w2 at hw2 ⊢
       have HX : Hid (Win w2 w1.heap.size (bitOf (R + 1)) (allOf (N + 1)) M 0 0 ∧ MP w2 M (fun _ => 0) [] 0 ∧ Below w.heap.size w w2 ∧ w2.heap.size = w1.heap.size + 1) := hw2
       clear hw2)
    | (refine (everyone1 N hN64 _).mono ?_; rintro e w9 ⟨rfl, rfl⟩))
  obtain ⟨x1, x2, x3, x4⟩ := HX.out
  have hs1 := hb1.size
  have L : Hid (Ly w.heap.size w1.heap.size M w9.heap.size) := ⟨hs1, by omega, by omega, by omega, by omega, by omega⟩
  have ST : Hid (St w (w9.alloc (Obj.cells #[.int .u64 0, .int .u64 0, .int .u64 0, .int .u64 0, .int .u64 0, .int .u64 0, .int .u64 0, .int .u64 0] 50)) w1.heap.size M w9.heap.size (bitOf (R + 1)) (allOf (N + 1)) (fun _ => 0) [] 0) := by
    have k : ∀ o, Below w9.heap.size w9 (w9.alloc o) := fun o => (Below.refl _ _).alloc (Nat.le_refl _) _
    refine ⟨?_, x2.block ((k _).block M (by omega)) (k _).size, x3.trans ((k _).mono (by omega)), fun s hs => ?_, fun s => alloc_fro _ _ _ _, by simp; omega, by simp⟩
    · have z1 : num (fun s => oT (allOf (N + 1)) (bitOf (R + 1)) 0) 8 = 0 := by simp [num, oT]
      have z2 : num (fun s => kT (bitOf (R + 1)) 0) 8 = 0 := by simp [num, kT]
      rw [z1, z2]
      exact x1.block ((k _).block w1.heap.size (by omega))
    · rw [alloc_new]
      rcases s with _ | _ | _ | _ | _ | _ | _ | _ | s <;> first | rfl | omega
  generalize w9.alloc (Obj.cells #[.int .u64 0, .int .u64 0, .int .u64 0, .int .u64 0, .int .u64 0, .int .u64 0, .int .u64 0, .int .u64 0] 50) = w3 at ST ⊢
  have hS := bitOf_lt (p := R + 1) (by omega)
  have hW := allOf_lt (N + 1)
  generalize allOf (N + 1) = W at *
  generalize hSd : bitOf (R + 1) = S at ST hS
  generalize w9.heap.size = Q at L ST ⊢
  generalize w1.heap.size = X at L ST ⊢
  clear HX x1 x2 x3 x4 hs1 hb1 hM1 hM2 hmap
  go_loopw [44] (fun i wr => ∃ (j : Nat) (m : Nat → Nat) (l : List (RM.Ent Nat)) (cc : Nat), j ≤ len ∧ i = .int .i64 j ∧ Hid (St w wr X M Q S W m l cc)) (fun i _ => len - (intOf i).toNat)
  case atStart => exact ⟨0, _, _, _, Nat.zero_le _, rfl, ST⟩
  case round =>
    obtain ⟨j, m, l, cc, hj, rfl, G⟩ := hrel
    clear ST
    by_cases hlt : j < len
    · obtain ⟨b', off, rfl, d0, d1, d2, hb⟩ := HO.out.at_ j hlt
      have y0 := (G.out.bel.cell (p := ⟨b', off + j * 3, none⟩) hb).trans d0
      have y1 := (G.out.bel.cell (p := ⟨b', off + j * 3 + 1, none⟩) hb).trans d1
      have y2 := (G.out.bel.cell (p := ⟨b', off + j * 3 + 2, none⟩) hb).trans d2
      have bp := HO.out.bp j
      have bq := HO.out.bq j
      have br := HO.out.br j
      obtain ⟨sq, hsq'⟩ : ∃ sq, Hid (sq = q j % 8) := ⟨_, rfl⟩
      have hsq : sq < 8 := by have := hsq'.out; omega
      have es : Int.tmod (q j : Int) 8 = (sq : Int) := by rw [Int.tmod_eq_emod_of_nonneg (by omega)]; have := hsq'.out; omega
      obtain ⟨st, hst'⟩ : ∃ st, Hid (st = r j &&& W) := ⟨_, rfl⟩
      have hst : st < 18446744073709551616 := by rw [hst'.out]; exact Nat.lt_of_le_of_lt Nat.and_le_left br
      have ea := u64_and_nat (r j) W br hW
      rw [← hst'.out] at ea
      have GA : Hid (St w (wr.alloc (Obj.cells #[.int .u8 (p j), .int .u8 (q j), .int .u64 (r j)] 52)) X M Q S W m l cc) := G.out.more _
      have bm := G.out.mp.bd sq
      have bo := num_le (fun s => oT W S (m s)) 8
      have bk := num_le (fun s => kT S (m s)) 8
      by_cases hev : p j % 2 = 0
      · have ev : Int.tmod (p j : Int) 2 = 0 := by rw [Int.tmod_eq_emod_of_nonneg (by omega)]; omega
        have eb := u64_or_nat (m sq) st bm hst
        obtain ⟨v, hv⟩ : ∃ v, Hid (v = m sq ||| st) := ⟨_, rfl⟩
        rw [← hv.out] at eb
        go_wp2_with fail
        refine (broadcast X S W M sq st _ _ m l cc _ GA.out.win GA.out.mp L.out.XM hS hW hst hsq (by omega) (by omega)).mono ?_
        rintro e w5 ⟨rfl, hwin, ⟨l', c', hmp⟩, htw⟩
        have gq := (World.cell?_of_block (w := wr.alloc (Obj.cells #[.int .u8 (p j), .int .u8 (q j), .int .u64 (r j)] 52)) (htw.block Q GA.out.sQ L.out.QX L.out.QM)).trans (GA.out.mod sq hsq)
        have fq := (World.frozen?_of_block (w := wr.alloc (Obj.cells #[.int .u8 (p j), .int .u8 (q j), .int .u64 (r j)] 52)) (a := ⟨Q, sq, none⟩) (htw.block Q GA.out.sQ L.out.QX L.out.QM)).trans (GA.out.fro sq)
        rw [← hv.out] at hwin hmp
        have G2 : Hid (St w (w5.setCell ⟨Q, sq, none⟩ (.int .u64 (v : Int))) X M Q S W (upd m sq v) l' c') := GA.out.step L.out hsq hwin hmp htw
        clear hwin hmp htw
        go_wp2
        exact ⟨⟨j + 1, upd m sq v, l', c', hlt, rfl, G2⟩, by simp [intOf]; omega⟩
      · have ev : Int.tmod (p j : Int) 2 = 1 := by rw [Int.tmod_eq_emod_of_nonneg (by omega)]; omega
        have eb := u64_andNot_nat (m sq) st bm hst
        obtain ⟨v, hv⟩ : ∃ v, Hid (v = m sq &&& (18446744073709551615 - st)) := ⟨_, rfl⟩
        rw [← hv.out] at eb
        go_wp2_with fail
        refine (acked X S W M sq st _ _ m l cc _ GA.out.win GA.out.mp L.out.XM hS hW hst hsq (by omega) (by omega)).mono ?_
        rintro e w5 ⟨rfl, hwin, ⟨l', c', hmp⟩, htw⟩
        have gq := (World.cell?_of_block (w := wr.alloc (Obj.cells #[.int .u8 (p j), .int .u8 (q j), .int .u64 (r j)] 52)) (htw.block Q GA.out.sQ L.out.QX L.out.QM)).trans (GA.out.mod sq hsq)
        have fq := (World.frozen?_of_block (w := wr.alloc (Obj.cells #[.int .u8 (p j), .int .u8 (q j), .int .u64 (r j)] 52)) (a := ⟨Q, sq, none⟩) (htw.block Q GA.out.sQ L.out.QX L.out.QM)).trans (GA.out.fro sq)
        rw [← hv.out] at hwin hmp
        have G2 : Hid (St w (w5.setCell ⟨Q, sq, none⟩ (.int .u64 (v : Int))) X M Q S W (upd m sq v) l' c') := GA.out.step L.out hsq hwin hmp htw
        clear hwin hmp htw
        go_wp2
        exact ⟨⟨j + 1, upd m sq v, l', c', hlt, rfl, G2⟩, by simp [intOf]; omega⟩
    · obtain rfl : j = len := by omega
      clear hlt hj HO
      go_wp2_with fail
      refine (wait_ X S W M wt m l cc wr G.out.win G.out.mp L.out.XM G.out.sX hS hW hwt).mono ?_
      rintro e w6 ⟨rfl, hwin, hmp, htw⟩
      have G6 : Hid (St w w6 X M Q S wt m l cc) := G.out.waited L.out hwin hmp htw
      clear G hwin hmp htw
      go_wp2_with fail
      refine (bit1 R (by omega) w6).mono ?_
      rintro e w7 ⟨rfl, rfl⟩
      rw [hSd]
      go_wp2_with fail
      go_loop [19, 20, 21, 22] (fun x y z i => ∃ s : Nat, s ≤ 8 ∧ i = .int .i64 s ∧ x = .int .i64 (num (fun s => oT wt S (m s)) s) ∧ y = .int .i64 (num (fun s => kT S (m s)) s) ∧ z = .int .i64 (num (fun s => decide (m s ≠ 0)) s)) (fun _ _ _ i => 8 - (intOf i).toNat)
      case atStart => exact ⟨0, by omega, rfl, rfl, rfl, rfl⟩
      case round =>
        obtain ⟨s, hs, rfl, rfl, rfl, rfl⟩ := hrel
        have n1 := num_le (fun s => oT wt S (m s)) s
        have n2 := num_le (fun s => kT S (m s)) s
        have n3 := num_le (fun s => decide (m s ≠ 0)) s
        have g3 := G6.out.win.c3
        by_cases hs8 : s < 8
        · have gq := G6.out.mod s hs8
          have bm := G6.out.mp.bd s
          have hl := G6.out.mp.look s
          have st1 : Hid (num (fun s => oT wt S (m s)) (s + 1) = num (fun s => oT wt S (m s)) s + (if oT wt S (m s) = true then 1 else 0)) := rfl
          have st2 : Hid (num (fun s => kT S (m s)) (s + 1) = num (fun s => kT S (m s)) s + (if kT S (m s) = true then 1 else 0)) := rfl
          have st3 : Hid (num (fun s => decide (m s ≠ 0)) (s + 1) = num (fun s => decide (m s ≠ 0)) s + (if decide (m s ≠ 0) = true then 1 else 0)) := rfl
          obtain ⟨a1, ha1⟩ : ∃ a1, Hid (a1 = num (fun s => oT wt S (m s)) s) := ⟨_, rfl⟩
          obtain ⟨a2, ha2⟩ : ∃ a2, Hid (a2 = num (fun s => kT S (m s)) s) := ⟨_, rfl⟩
          obtain ⟨a3, ha3⟩ : ∃ a3, Hid (a3 = num (fun s => decide (m s ≠ 0)) s) := ⟨_, rfl⟩
          rw [← ha1.out] at n1 st1 ⊢
          rw [← ha2.out] at n2 st2 ⊢
          rw [← ha3.out] at n3 st3 ⊢
          have hlt : m s &&& wt < 18446744073709551616 := Nat.lt_of_le_of_lt Nat.and_le_left bm
          have e1 := u64_and_nat (m s) wt bm hwt
          have e2 := u64_andNot_nat (m s &&& wt) S hlt hS
          have e3 := u64_and_nat (m s) S bm hS
          by_cases k0 : m s = 0
          · have O1 : Hid (oT wt S (m s) = false) := by show oT wt S (m s) = false; rw [k0]; simp [oT]
            have K1 : Hid (kT S (m s) = false) := by show kT S (m s) = false; rw [k0]; simp [kT]
            have T1 : Hid (decide (m s ≠ 0) = false) := by show decide (m s ≠ 0) = false; simp [k0]
            have q1 : w7.cell? ⟨Q, s, none⟩ = some (.int .u64 0) := by rw [gq, k0]; rfl
            have q2 : (Instr.lookup 42 (.map (some M)) (.int .u64 (s : Int)) false).run Yba.prog w7 = .ok (.int .u64 0) w7 := by rw [hl, k0]; rfl
            have q3 : bits .and .u64 0 (wt : Int) = 0 := by have := u64_and_nat 0 wt (by decide) hwt; simpa using this
            have q4 : bits .andNot .u64 0 (S : Int) = 0 := by have := u64_andNot_nat 0 S (by decide) hS; simpa using this
            have q5 : bits .and .u64 0 (S : Int) = 0 := by have := u64_and_nat 0 S (by decide) hS; simpa using this
            clear gq hl e1 e2 e3 k0
            go_wp2
            refine ⟨⟨s + 1, by omega, rfl, ?_, ?_, ?_⟩, by simp [intOf]; omega⟩
            · rw [st1.out, if_neg (by rw [O1.out]; simp)]; simp
            · rw [st2.out, if_neg (by rw [K1.out]; simp)]; simp
            · rw [st3.out, if_neg (by rw [T1.out]; simp)]; simp
          · have T1 : Hid (decide (m s ≠ 0) = true) := by show decide (m s ≠ 0) = true; simp [k0]
            have k0' : ¬ (m s : Int) = 0 := by omega
            obtain ⟨x, hx⟩ : ∃ x, Hid (x = m s &&& wt) := ⟨_, rfl⟩
            obtain ⟨y, hy⟩ : ∃ y, Hid (y = m s &&& wt &&& (18446744073709551615 - S)) := ⟨_, rfl⟩
            obtain ⟨u, hu⟩ : ∃ u, Hid (u = m s &&& S) := ⟨_, rfl⟩
            rw [← hy.out] at e2
            rw [← hx.out] at e1 e2
            rw [← hu.out] at e3
            have O1' : Hid (oT wt S (m s) = decide (y ≠ 0)) := by show oT wt S (m s) = decide (y ≠ 0); unfold oT AL; rw [hy.out]
            have K1' : Hid (kT S (m s) = decide (u ≠ 0)) := by show kT S (m s) = decide (u ≠ 0); unfold kT; rw [hu.out]
            by_cases k1 : y = 0
            · have O1 : Hid (oT wt S (m s) = false) := by show oT wt S (m s) = false; rw [O1'.out]; simp [k1]
              by_cases k2 : u = 0
              · have K1 : Hid (kT S (m s) = false) := by show kT S (m s) = false; rw [K1'.out]; simp [k2]
                go_wp2
                refine ⟨⟨s + 1, by omega, rfl, ?_, ?_, ?_⟩, by simp [intOf]; omega⟩
                · rw [st1.out, if_neg (by rw [O1.out]; simp)]; simp
                · rw [st2.out, if_neg (by rw [K1.out]; simp)]; simp
                · rw [st3.out, if_pos (by rw [T1.out])]; simp
              · have K1 : Hid (kT S (m s) = true) := by show kT S (m s) = true; rw [K1'.out]; simp [k2]
                have k2' : ¬ (u : Int) = 0 := by omega
                go_wp2
                refine ⟨⟨s + 1, by omega, rfl, ?_, ?_, ?_⟩, by simp [intOf]; omega⟩
                · rw [st1.out, if_neg (by rw [O1.out]; simp)]; simp
                · rw [st2.out, if_pos (by rw [K1.out])]; simp
                · rw [st3.out, if_pos (by rw [T1.out])]; simp
            · have O1 : Hid (oT wt S (m s) = true) := by show oT wt S (m s) = true; rw [O1'.out]; simp [k1]
              have k1' : ¬ (y : Int) = 0 := by omega
              by_cases k2 : u = 0
              · have K1 : Hid (kT S (m s) = false) := by show kT S (m s) = false; rw [K1'.out]; simp [k2]
                go_wp2
                refine ⟨⟨s + 1, by omega, rfl, ?_, ?_, ?_⟩, by simp [intOf]; omega⟩
                · rw [st1.out, if_pos (by rw [O1.out])]; simp
                · rw [st2.out, if_neg (by rw [K1.out]; simp)]; simp
                · rw [st3.out, if_pos (by rw [T1.out])]; simp
              · have K1 : Hid (kT S (m s) = true) := by show kT S (m s) = true; rw [K1'.out]; simp [k2]
                have k2' : ¬ (u : Int) = 0 := by omega
                go_wp2
                refine ⟨⟨s + 1, by omega, rfl, ?_, ?_, ?_⟩, by simp [intOf]; omega⟩
                · rw [st1.out, if_pos (by rw [O1.out])]; simp
                · rw [st2.out, if_pos (by rw [K1.out])]; simp
                · rw [st3.out, if_pos (by rw [T1.out])]; simp
        · obtain rfl : s = 8 := by omega
          have hl := RM.run_len Yba.underlying42 G6.out.mp.map 3
          rw [G6.out.mp.ln] at hl
          have g2 := G6.out.win.c2
          have g4 := G6.out.win.c4
          have g5 := G6.out.win.c5
          have BE : Hid (Below w.heap.size w w7) := G6.out.bel
          generalize num (fun s => oT wt S (m s)) 8 = a1 at *
          generalize num (fun s => kT S (m s)) 8 = a2 at *
          generalize num (fun s => decide (m s ≠ 0)) 8 = a3 at *
          go_wp2
          go_ret
          exact ⟨by simp, BE.out⟩
end Go.Proofs.Ybulkcseo.C
