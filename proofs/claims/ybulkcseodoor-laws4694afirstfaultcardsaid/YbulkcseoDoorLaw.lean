/-
  LawS4694AFirstFault: the law's own walk.
-/
import Derived.Test.YbulkcseoDoorBld
import Derived.Deep.DeepCutAuto
import Derived.Deep.CutBlock
set_option linter.unusedVariables false
namespace Go.Proofs.YbulkcseoDoor
open Go.RowKit

/-- What was drawn, as it lies. -/
structure Lies (w : World) (N : Nat) (fa : Option Addr) (fl : Nat) (g : Nat → Bool) (qa : Option Addr) (q : Nat) (p : Nat → Nat) (ma : Nat → Option Addr) (ml mc : Nat → Nat) (m : Nat → Nat → Nat) : Prop where
  fs : ∀ j, j < fl → ∃ b off, fa = some ⟨b, off, none⟩ ∧ w.cell? ⟨b, off + j, none⟩ = some (.bool (g j)) ∧ b < w.heap.size
  qs : ∀ i, i < q → ∃ b off, qa = some ⟨b, off, none⟩ ∧ w.cell? ⟨b, off + i * 2, none⟩ = some (.int .u8 (p i)) ∧ w.cell? ⟨b, off + i * 2 + 1, none⟩ = some (.slice (ma i) (ml i) (mc i)) ∧ b < w.heap.size
  ms : ∀ i, i < q → ∀ j, j < ml i → ∃ b off, ma i = some ⟨b, off, none⟩ ∧ w.cell? ⟨b, off + j, none⟩ = some (.int .u8 (m i j)) ∧ b < w.heap.size
  bp : ∀ i, p i < 256
  bm : ∀ i j, m i j < 256
  bl : ∀ i, i < q → ml i ≤ 4611686018427387904
  bN : N < 256

set_option maxRecDepth 100000 in
theorem law_long (N : Int) (fa : Option Addr) (fl fc : Nat) (qa : Option Addr) (q qc : Nat) (w : World) (h1 : 1024 < q) (h2 : q ≤ 9223372036854775807) : Calls Ybad.prog 3 #[.int .u8 N, .slice fa fl fc, .slice qa q qc] w fun e w' => e = .returned (.bool true) ∧ Below w.heap.size w w' := by
  have e1 : (1024 : Int) < q := by omega
  go_enter Ybad.func3, Ybad.ntmps3
  go_wp2
  go_ret
  exact ⟨rfl, Below.refl _ _⟩

set_option maxRecDepth 100000 in
theorem law_long2 (N : Int) (fa : Option Addr) (fl fc : Nat) (qa : Option Addr) (q qc : Nat) (w : World) (h1 : ¬ 1024 < q) (h2 : 1024 < fl) (h3 : fl ≤ 9223372036854775807) : Calls Ybad.prog 3 #[.int .u8 N, .slice fa fl fc, .slice qa q qc] w fun e w' => e = .returned (.bool true) ∧ Below w.heap.size w w' := by
  have e1 : ¬ (1024 : Int) < q := by omega
  have e2 : (1024 : Int) < fl := by omega
  go_enter Ybad.func3, Ybad.ntmps3
  go_wp2
  go_ret
  exact ⟨rfl, Below.refl _ _⟩

theorem make22 (n : Nat) (hn : n ≤ 1024) : ∀ w : World, (Instr.makeSlice 22 (.int .i64 ((n : Int) + 1)) (.int .i64 ((n : Int) + 1))).run Ybad.prog w = .ok (.slice (some ⟨w.heap.size, 0, none⟩) (n + 1) (n + 1)) (w.alloc (.cells (madeCells #[.bool false] (n + 1)) 4)) := by
  intro w
  obtain ⟨i, h1, h2, h3, h4⟩ := info_of (t := 4) (z := .bool false) (s := 1) (b := 1) (by kernel_rfl)
  have := run_make (P := Ybad.prog) w 22 4 i _ Ybad.underlying22 h1 h2 .i64 .i64 ((n + 1 : Nat) : Int) ((n + 1 : Nat) : Int) (by omega) (by omega) (by rw [h4]; omega) (by omega)
  simpa [h3, Value.cells] using this

theorem make27 (n : Nat) (hn : n ≤ 1024) : ∀ w : World, (Instr.makeSlice 27 (.int .i64 n) (.int .i64 n)).run Ybad.prog w = .ok (.slice (some ⟨w.heap.size, 0, none⟩) n n) (w.alloc (.cells (madeCells #[.int .i64 0, .slice none 0 0] (n * 2)) 30)) := by
  intro w
  obtain ⟨i, h1, h2, h3, h4⟩ := info_of (t := 30) (z := .agg #[.int .i64 0, .slice none 0 0]) (s := 2) (b := 32) (by kernel_rfl)
  have := run_make (P := Ybad.prog) w 27 30 i _ Ybad.underlying27 h1 h2 .i64 .i64 n n (by omega) (by omega) (by rw [h4]; omega) (by omega)
  simpa [h3, Value.cells] using this

theorem make28 (n : Nat) (hn : n ≤ 4096) : ∀ w : World, (Instr.makeSlice 28 (.int .i64 n) (.int .i64 n)).run Ybad.prog w = .ok (.slice (some ⟨w.heap.size, 0, none⟩) n n) (w.alloc (.cells (madeCells #[.int .i64 0] n) 3)) := by
  intro w
  obtain ⟨i, h1, h2, h3, h4⟩ := info_of (t := 3) (z := .int .i64 0) (s := 1) (b := 8) (by kernel_rfl)
  have := run_make (P := Ybad.prog) w 28 3 i _ Ybad.underlying28 h1 h2 .i64 .i64 n n (by omega) (by omega) (by rw [h4]; omega) (by omega)
  simpa [h3, Value.cells] using this

theorem made_is (z : Array Value) (n j : Nat) (h : j < n) : ((madeCells z n)[j]?).isSome = true := by
  have hsz : (madeCells z n).size = n := size_madeCells _ _
  simp [hsz, h]

/-- What is drawn, as the law sees it. -/
def dat (n q fl : Nat) (g : Nat → Bool) (p ml : Nat → Nat) (m : Nat → Nat → Nat) : Qd := ⟨n, q, fun s => decide (s < fl) && g s, fun i => p i % (n + 1), ml, fun i j => m i j % (n + 1)⟩

theorem lastI_none {P : Nat → Nat} {p : Nat} : ∀ {k : Nat}, (∀ j, j < k → P j ≠ p) → lastI P p k = none
  | 0, _ => rfl
  | k + 1, h => by
    unfold lastI
    rw [if_neg (h k (by omega))]
    exact lastI_none fun j hj => h j (by omega)
theorem lastI_some {P : Nat → Nat} {p i : Nat} (hi : P i = p) : ∀ {k : Nat}, i < k → (∀ j, i < j → j < k → P j ≠ p) → lastI P p k = some i
  | 0, h, _ => by omega
  | k + 1, h, g => by
    unfold lastI
    by_cases e : k = i
    · subst e; rw [if_pos hi]
    · rw [if_neg (g k (by omega) (by omega))]
      exact lastI_some hi (by omega) fun j h1 h2 => g j h1 (by omega)
theorem shB_ne (p : Nat) (f : Nat → Nat) (n : Nat) : ((shB p f n).toList == []) = false := by
  rw [ByteArray.toList_eq]
  unfold shB shw
  simp

theorem tmod_nat (x n r : Nat) (h : r = x % (n + 1)) : Int.tmod (x : Int) ((n : Int) + 1) = (r : Int) := by
  rw [Int.tmod_eq_emod_of_nonneg (by omega)]
  subst h
  have e : ((n : Int) + 1) = ((n + 1 : Nat) : Int) := by omega
  rw [e]
  omega

set_option maxHeartbeats 4000000 in
set_option maxRecDepth 100000 in
theorem law_short (N : Nat) (fa : Option Addr) (fl fc : Nat) (g : Nat → Bool) (qa : Option Addr) (q qc : Nat) (p : Nat → Nat) (ma : Nat → Option Addr) (ml mc : Nat → Nat) (m : Nat → Nat → Nat) (w : World) (hx : Lies w N fa fl g qa q p ma ml mc m) (hq : q ≤ 1024) (hf : fl ≤ 1024) :
    Calls Ybad.prog 3 #[.int .u8 N, .slice fa fl fc, .slice qa q qc] w fun e w' => e = .returned (.bool true) ∧ Below w.heap.size w w' := by
  have HX : Hid (Lies w N fa fl g qa q p ma ml mc m) := hx
  have hN := hx.bN
  clear hx
  have e1 : ¬ (1024 : Int) < q := by omega
  have e2 : ¬ (1024 : Int) < fl := by omega
  obtain ⟨n, hn'⟩ : ∃ n, Hid (n = N % 16) := ⟨_, rfl⟩
  have hn : n < 16 := by have := hn'.out; omega
  have eN : Int.tmod (N : Int) 16 = (n : Int) := by rw [Int.tmod_eq_emod_of_nonneg (by omega)]; have := hn'.out; omega
  go_enter Ybad.func3, Ybad.ntmps3
  go_wp2_with fail
  go_loopw [7, 8] (fun t i wr => ∃ k T : Nat, k ≤ q ∧ T ≤ 4096 ∧ i = .int .i64 k ∧ t = .int .i64 T ∧ wr = w ∧ Hid (∀ i, i < k → ml i ≤ T)) (fun _ i _ => q - (intOf i).toNat)
  case atStart => exact ⟨0, 0, by omega, by omega, rfl, rfl, rfl, fun i hi => by omega⟩
  case round =>
    obtain ⟨k, T, hk, hT, rfl, rfl, hw, HT⟩ := hrel
    have hw' := hw.symm
    subst hw'
    by_cases hlt : k < q
    · obtain ⟨b, off, ha, g0, g1, hb⟩ := HX.out.qs k hlt
      subst ha
      have hml := HX.out.bl k hlt
      by_cases hbig : 4096 < T + ml k
      · have hbig' : (4096 : Int) < (T : Int) + ml k := by omega
        go_wp2
        go_ret
        exact ⟨rfl, Below.refl _ _⟩
      · have hbig' : ¬ (4096 : Int) < (T : Int) + ml k := by omega
        go_wp2
        exact ⟨⟨k + 1, T + ml k, hlt, by omega, rfl, by simp, trivial, fun i hi => by
          rcases Nat.lt_or_eq_of_le (Nat.le_of_lt_succ hi) with h | rfl
          · have := HT.out i h; omega
          · omega⟩, by simp [intOf]; omega⟩
    · obtain rfl : k = q := by omega
      have HLn : Hid (∀ i, i < k → ml i ≤ 4096) := fun i hi => by have := HT.out i hi; omega
      clear hlt hk HT
      have m1 := make22 n (by omega)
      go_upto_block 2 with fail
      have C0 : Hid (Below w.heap.size w (w.alloc (Obj.cells (madeCells #[.bool false] (n + 1)) 4))) := (Below.refl _ _).alloc (Nat.le_refl _) _
      have C1 : Hid (∀ s, s ≤ n → (w.alloc (Obj.cells (madeCells #[.bool false] (n + 1)) 4)).cell? ⟨w.heap.size, s, none⟩ = some (.bool (decide (s < 0) && g s)) ∧ (w.alloc (Obj.cells (madeCells #[.bool false] (n + 1)) 4)).frozen? ⟨w.heap.size, s, none⟩ = false) := fun s hs => by
        rw [World.cell?_alloc_new, World.frozen?_alloc_new, made_at _ _ _ (by omega)]; simp
      have C2 : (w.alloc (Obj.cells (madeCells #[.bool false] (n + 1)) 4)).heap.size = w.heap.size + 1 := by simp
      generalize w.alloc (Obj.cells (madeCells #[.bool false] (n + 1)) 4) = w3 at C0 C1 C2 ⊢
      clear m1
      go_cut [11] (fun v w' => Hid (Below w.heap.size w w') ∧ Hid (∀ s, s ≤ n → w'.cell? ⟨w.heap.size, s, none⟩ = some (.bool (decide (s < fl) && g s))) ∧ w'.heap.size = w.heap.size + 1)
      case first =>
        go_wp2_with fail
        go_loopw [11] (fun v wr => ∃ i : Nat, i ≤ n + 1 ∧ i ≤ fl ∧ v = .int .i64 i ∧ Hid (Below w.heap.size w wr) ∧ Hid (∀ s, s ≤ n → wr.cell? ⟨w.heap.size, s, none⟩ = some (.bool (decide (s < i) && g s)) ∧ wr.frozen? ⟨w.heap.size, s, none⟩ = false) ∧ wr.heap.size = w.heap.size + 1) (fun v _ => n + 1 - (intOf v).toNat)
        case atStart => exact ⟨0, by omega, by omega, rfl, C0, C1, C2⟩
        case round =>
          obtain ⟨i, hi1, hi2, rfl, D0, D1, D2⟩ := hrel
          clear C0 C1 C2
          by_cases hin : i ≤ n
          · have hin' : (i : Int) ≤ n := by omega
            by_cases hif : i < fl
            · have hif' : (i : Int) < fl := by omega
              obtain ⟨b, off, ha, gf, hb⟩ := HX.out.fs i hif
              subst ha
              have gf' := (D0.out.cell (p := ⟨b, off + i, none⟩) hb).trans gf
              obtain ⟨gc, fc'⟩ := D1.out i hin
              go_wp2
              refine ⟨⟨i + 1, by omega, hif, rfl, D0.out.setCell (Nat.le_refl _) _, fun s hs => ⟨?_, by simpa using (D1.out s hs).2⟩, by simpa using D2⟩, by simp [intOf]; omega⟩
              by_cases e : s = i
              · subst e
                rw [World.cell?_setCell_same _ _ _ gc]; simp
              · rw [World.cell?_setCell_other _ _ _ _ (by intro h; injection h; omega), (D1.out s hs).1]
                have : decide (s < i + 1) = decide (s < i) := by rw [decide_eq_decide]; omega
                rw [this]
            · have hif' : ¬ (i : Int) < fl := by omega
              go_wp2_with fail
              go_meet
              case rel =>
                refine ⟨D0, fun s hs => ?_, D2⟩
                rw [(D1.out s hs).1, show i = fl by omega]
          · have hin' : ¬ (i : Int) ≤ n := by omega
            go_wp2_with fail
            go_meet
            case rel =>
              refine ⟨D0, fun s hs => ?_, D2⟩
              rw [(D1.out s hs).1]
              have e1 : decide (s < i) = true := by simp; omega
              have e2 : decide (s < fl) = true := by simp; omega
              rw [e1, e2]
      case rest =>
        obtain ⟨HB, HC, hsz⟩ := hcut
        clear C0 C1 C2
        have m2 := make27 k hq
        have B0 : Hid (∃ MB, Bld (dat n k fl g p ml m) w (wc.alloc (Obj.cells (madeCells #[.int .i64 0, .slice none 0 0] (k * 2)) 30)) w.heap.size (w.heap.size + 1) MB 0) := by
          rw [← hsz]
          refine ⟨fun _ => 0, HB.out.alloc HB.out.size _, fun s hs => ?_, fun j hj => ?_, fun j hj => by omega, fun j hj => by omega, fun j hj => by omega, by simp; omega, by simp, fun j hj => by omega, fun j hj => by omega, by omega, HB.out.size⟩
          · rw [World.cell?_alloc_lt _ _ _ (by simp; omega)]; exact HC.out s hs
          · rw [World.cell?_alloc_new, World.frozen?_alloc_new]; exact ⟨made_is _ _ _ hj, rfl⟩
        go_wp2_with fail
        generalize wc.alloc (Obj.cells (madeCells #[.int .i64 0, .slice none 0 0] (k * 2)) 30) = w4 at B0 ⊢
        clear m2 HC HB hsz
        generalize w.heap.size + 1 = QB at B0 ⊢
        go_loopw [13] (fun v wr => ∃ (x : Nat) (MB : Nat → Nat), x ≤ k ∧ v = .int .i64 x ∧ Hid (Bld (dat n k fl g p ml m) w wr w.heap.size QB MB x)) (fun v _ => k - (intOf v).toNat)
        case atStart =>
          obtain ⟨MB, h⟩ := B0.out
          exact ⟨0, MB, by omega, rfl, h⟩
        case round =>
          obtain ⟨x, MB, hxk, rfl, HD⟩ := hrel
          clear B0
          by_cases hlt : x < k
          · obtain ⟨b, off, ha, g0, g1, hb⟩ := HX.out.qs x hlt
            subst ha
            have G0 : Hid (w.cell? ⟨b, off + x * 2, none⟩ = some (.int .u8 (p x))) := g0
            have G1 : Hid (w.cell? ⟨b, off + x * 2 + 1, none⟩ = some (.slice (ma x) (ml x) (mc x))) := g1
            have y1 := (HD.out.bel.cell (p := ⟨b, off + x * 2 + 1, none⟩) hb).trans g1
            have hL := HLn.out x hlt
            have m3 := make28 (ml x) hL
            clear g0 g1
            go_wp2_with fail
            have D1 : Hid (Bld (dat n k fl g p ml m) w (wr.alloc (Obj.cells (madeCells #[.int .i64 0] (ml x)) 3)) w.heap.size QB MB x) := HD.out.more ((Below.refl _ _).alloc (Nat.le_refl _) _)
            have E1 : Hid (∀ t, t < ml x → ((wr.alloc (Obj.cells (madeCells #[.int .i64 0] (ml x)) 3)).cell? ⟨wr.heap.size, t, none⟩).isSome = true ∧ (wr.alloc (Obj.cells (madeCells #[.int .i64 0] (ml x)) 3)).frozen? ⟨wr.heap.size, t, none⟩ = false) := fun t ht => by
              rw [World.cell?_alloc_new, World.frozen?_alloc_new]; exact ⟨made_is _ _ _ ht, rfl⟩
            have S1 : (wr.alloc (Obj.cells (madeCells #[.int .i64 0] (ml x)) 3)).heap.size = wr.heap.size + 1 := by simp
            have N1 : Hid (w.heap.size ≤ wr.heap.size ∧ wr.heap.size ≠ w.heap.size ∧ wr.heap.size ≠ QB ∧ ∀ j, j < x → wr.heap.size ≠ MB j) := ⟨HD.out.bel.size, by have := HD.out.sC; omega, by have := HD.out.sQ; omega, fun j hj => by have := HD.out.sM j hj; omega⟩
            generalize wr.alloc (Obj.cells (madeCells #[.int .i64 0] (ml x)) 3) = w5 at D1 E1 S1 ⊢
            generalize wr.heap.size = B at E1 S1 N1 ⊢
            clear m3 y1 HD
            go_loopw [15] (fun v w6 => ∃ j : Nat, j ≤ ml x ∧ v = .int .i64 j ∧ Hid (Bld (dat n k fl g p ml m) w w6 w.heap.size QB MB x) ∧ Hid (∀ t, t < ml x → (w6.cell? ⟨B, t, none⟩).isSome = true ∧ w6.frozen? ⟨B, t, none⟩ = false) ∧ Hid (∀ t, t < j → w6.cell? ⟨B, t, none⟩ = some (.int .i64 ((m x t % (n + 1) : Nat) : Int))) ∧ w6.heap.size = B + 1) (fun v _ => ml x - (intOf v).toNat)
            case atStart => exact ⟨0, by omega, rfl, D1, E1, fun t ht => by omega, S1⟩
            case round =>
              obtain ⟨j, hj, rfl, D2, E2, F2, S2⟩ := hrel
              clear D1 E1 S1
              have y0 := (D2.out.bel.cell (p := ⟨b, off + x * 2, none⟩) hb).trans G0.out
              have y1 := (D2.out.bel.cell (p := ⟨b, off + x * 2 + 1, none⟩) hb).trans G1.out
              by_cases hjl : j < ml x
              · obtain ⟨b2, off2, hma, gm, hb2⟩ := HX.out.ms x hlt j hjl
                have z1 := (D2.out.bel.cell (p := ⟨b2, off2 + j, none⟩) hb2).trans gm
                rw [hma] at y1
                obtain ⟨r, hr⟩ : ∃ r, Hid (r = m x j % (n + 1)) := ⟨_, rfl⟩
                have er := tmod_nat (m x j) n r hr.out
                have hbm := HX.out.bm x j
                obtain ⟨u, gu⟩ := Option.isSome_iff_exists.1 (E2.out j hjl).1
                have fu := (E2.out j hjl).2
                clear gm hma
                go_wp2
                refine ⟨⟨j + 1, hjl, rfl, D2.out.far _ _ N1.out.1 N1.out.2.1 N1.out.2.2.1 N1.out.2.2.2, fun t ht => ⟨?_, by simpa using (E2.out t ht).2⟩, fun t ht => ?_, by simpa using S2⟩, by simp [intOf]; omega⟩
                · by_cases e : t = j
                  · subst e; rw [World.cell?_setCell_same _ _ _ gu]; rfl
                  · rw [World.cell?_setCell_other _ _ _ _ (by intro h; injection h; omega)]; exact (E2.out t ht).1
                · by_cases e : t = j
                  · subst e; rw [World.cell?_setCell_same _ _ _ gu, hr.out]
                  · rw [World.cell?_setCell_other _ _ _ _ (by intro h; injection h; omega)]; exact F2.out t (by omega)
              · obtain rfl : j = ml x := by omega
                obtain ⟨r, hr⟩ : ∃ r, Hid (r = p x % (n + 1)) := ⟨_, rfl⟩
                have er := tmod_nat (p x) n r hr.out
                have hbp := HX.out.bp x
                obtain ⟨t0, ft0⟩ := D2.out.th (x * 2) (by show _ < k * 2; omega)
                obtain ⟨t1, ft1⟩ := D2.out.th (x * 2 + 1) (by show _ < k * 2; omega)
                obtain ⟨u0, gu0⟩ := Option.isSome_iff_exists.1 t0
                obtain ⟨u1, gu1⟩ := Option.isSome_iff_exists.1 t1
                clear t0 t1
                go_wp2
                refine ⟨⟨x + 1, fun t => if t = x then B else MB t, hlt, rfl, ?_⟩, by simp [intOf]; omega⟩
                have A := D2.out.add (i := x) (B := B) hlt (by omega) N1.out.2.2.1 (fun t ht => F2.out t ht)
                rw [show (dat n k fl g p ml m).P x = r from hr.out.symm] at A
                exact A
          · obtain rfl : x = k := by omega
            have HQ : Hid (Qm (dat n x fl g p ml m) wr w.heap.size QB MB) := HD.out.done
            have HW : Hid (Below w.heap.size w wr) := HD.out.bel
            have HQb : Hid (Qb (dat n x fl g p ml m)) := ⟨hn, hq, fun i => Nat.le_of_lt_succ (Nat.mod_lt _ (by omega)), fun i j => Nat.le_of_lt_succ (Nat.mod_lt _ (by omega)), HLn.out⟩
            clear HD hlt hxk
            go_wp2_with fail
            have QMb := HQ.out.below ((Below.refl wr.heap.size wr).alloc (Nat.le_refl _) (Obj.cells #[.int .i64 n, .slice (some ⟨w.heap.size, 0, none⟩) (n + 1) (n + 1), .slice none 0 0, .slice none 0 0, .slice none 0 0, .map none, .map none, .map none, .slice none 0 0, .slice none 0 0, .slice none 0 0, .slice none 0 0, .slice none 0 0, .slice (some ⟨QB, 0, none⟩) x x, .slice none 0 0, .slice none 0 0] 44))
            have rb0 : (wr.alloc (Obj.cells #[.int .i64 n, .slice (some ⟨w.heap.size, 0, none⟩) (n + 1) (n + 1), .slice none 0 0, .slice none 0 0, .slice none 0 0, .map none, .map none, .map none, .slice none 0 0, .slice none 0 0, .slice none 0 0, .slice none 0 0, .slice none 0 0, .slice (some ⟨QB, 0, none⟩) x x, .slice none 0 0, .slice none 0 0] 44)).cell? ⟨wr.heap.size, 0, none⟩ = some (.int .i64 n) := by rw [World.cell?_alloc_new]; rfl
            have rb1 : (wr.alloc (Obj.cells #[.int .i64 n, .slice (some ⟨w.heap.size, 0, none⟩) (n + 1) (n + 1), .slice none 0 0, .slice none 0 0, .slice none 0 0, .map none, .map none, .map none, .slice none 0 0, .slice none 0 0, .slice none 0 0, .slice none 0 0, .slice none 0 0, .slice (some ⟨QB, 0, none⟩) x x, .slice none 0 0, .slice none 0 0] 44)).cell? ⟨wr.heap.size, 1, none⟩ = some (.slice (some ⟨w.heap.size, 0, none⟩) (n + 1) (n + 1)) := by rw [World.cell?_alloc_new]; rfl
            have rb13 : (wr.alloc (Obj.cells #[.int .i64 n, .slice (some ⟨w.heap.size, 0, none⟩) (n + 1) (n + 1), .slice none 0 0, .slice none 0 0, .slice none 0 0, .map none, .map none, .map none, .slice none 0 0, .slice none 0 0, .slice none 0 0, .slice none 0 0, .slice none 0 0, .slice (some ⟨QB, 0, none⟩) x x, .slice none 0 0, .slice none 0 0] 44)).cell? ⟨wr.heap.size, 13, none⟩ = some (.slice (some ⟨QB, 0, none⟩) x x) := by rw [World.cell?_alloc_new]; rfl
            have HWb : Hid (Below w.heap.size w (wr.alloc (Obj.cells #[.int .i64 n, .slice (some ⟨w.heap.size, 0, none⟩) (n + 1) (n + 1), .slice none 0 0, .slice none 0 0, .slice none 0 0, .map none, .map none, .map none, .slice none 0 0, .slice none 0 0, .slice none 0 0, .slice none 0 0, .slice none 0 0, .slice (some ⟨QB, 0, none⟩) x x, .slice none 0 0, .slice none 0 0] 44))) := HW.out.alloc HW.out.size _
            generalize wr.alloc (Obj.cells #[.int .i64 n, .slice (some ⟨w.heap.size, 0, none⟩) (n + 1) (n + 1), .slice none 0 0, .slice none 0 0, .slice none 0 0, .map none, .map none, .map none, .slice none 0 0, .slice none 0 0, .slice none 0 0, .slice none 0 0, .slice none 0 0, .slice (some ⟨QB, 0, none⟩) x x, .slice none 0 0, .slice none 0 0] 44) = wb at QMb rb0 rb1 rb13 HWb ⊢
            generalize wr.heap.size = RB at rb0 rb1 rb13 ⊢
            refine (quorum _ HQb.out RB w.heap.size QB MB wb QMb rb0 rb1 rb13).mono ?_
            rintro e wq ⟨s, rfl, hres, hbq⟩
            have HR : Hid (Res (dat n x fl g p ml m) s) := hres
            have QQ : Hid (Qm (dat n x fl g p ml m) wq w.heap.size QB MB) := QMb.below hbq
            have HWq : Hid (Below w.heap.size w wq) := HWb.out.trans (hbq.mono HWb.out.size)
            have hRB : RB < wb.heap.size := World.block_lt_of_cell? _ _ rb0
            have RQ : Hid (wq.cell? ⟨RB, 13, none⟩ = some (.slice (some ⟨QB, 0, none⟩) x x)) := (hbq.cell (p := ⟨RB, 13, none⟩) hRB).trans rb13
            have SQ : Hid (RB < wq.heap.size) := Nat.lt_of_lt_of_le hRB hbq.size
            clear hres QMb rb0 rb1 rb13 HWb hbq hRB HQ HW
            go_upto_block 8 with fail
            go_cut [18] (fun v w' => ∃ s', v = .string s' ∧ Hid (Res (dat n x fl g p ml m) s') ∧ Hid (Below wq.heap.size wq w'))
            case first =>
              go_wp2_with fail
              go_loopw [18, 19] (fun v1 v2 wr => ∃ (s' : ByteArray) (pp : Nat), v1 = .string s' ∧ v2 = .int .i64 pp ∧ 1 ≤ pp ∧ pp ≤ n + 1 ∧ Hid (Below wq.heap.size wq wr) ∧ ((s' = ⟨#[]⟩ ∧ Hid (∀ p', 1 ≤ p' → p' < pp → ¬ Bad (dat n x fl g p ml m) p')) ∨ ((s'.toList == []) = false ∧ Hid (Res (dat n x fl g p ml m) s')))) (fun _ v _ => n + 1 - (intOf v).toNat)
              case atStart => exact ⟨_, 1, rfl, rfl, by omega, by omega, Below.refl _ _, .inl ⟨rfl, fun p' h1 h2 => by omega⟩⟩
              case round =>
                obtain ⟨s', pp, rfl, rfl, hp1, hp2, HB, hcase⟩ := hrel
                by_cases hpn : pp ≤ n
                · have hpn' : (pp : Int) ≤ n := by omega
                  rcases hcase with ⟨rfl, NB⟩ | ⟨hne, HR'⟩
                  · have gc := (HB.out.cell (p := ⟨w.heap.size, pp, none⟩) QQ.out.sC).trans (QQ.out.cc pp hpn)
                    have nxt : ∀ h : ¬ Bad (dat n x fl g p ml m) pp, Hid (∀ p', 1 ≤ p' → p' < pp + 1 → ¬ Bad (dat n x fl g p ml m) p') := fun h p' h1 h2 => by
                      rcases Nat.lt_or_eq_of_le (Nat.le_of_lt_succ h2) with g | rfl
                      · exact NB.out p' h1 g
                      · exact h
                    cases hcor : (dat n x fl g p ml m).cor pp
                    · rw [hcor] at gc
                      have N2 := nxt (fun h => by rw [h.1] at hcor; cases hcor)
                      clear nxt
                      go_wp2
                      exact ⟨⟨_, pp + 1, rfl, rfl, by omega, by omega, HB, .inl ⟨rfl, N2⟩⟩, by simp [intOf]; omega⟩
                    · rw [hcor] at gc
                      have HC : Hid ((dat n x fl g p ml m).cor pp = true) := hcor
                      clear hcor
                      go_wp2_with fail
                      go_loopw [20, 21] (fun v1 v2 wr' => ∃ (i : Nat) (z : Int), i ≤ x ∧ z + 1 = i ∧ v1 = .int .i64 (-1) ∧ v2 = .int .i64 z ∧ wr' = wr ∧ Hid (∀ j, i ≤ j → j < x → (dat n x fl g p ml m).P j ≠ pp)) (fun _ v _ => (intOf v + 1).toNat)
                      case atStart => exact ⟨x, (x : Int) - 1, by omega, by omega, rfl, rfl, rfl, fun j h1 h2 => by omega⟩
                      case round =>
                        obtain ⟨i, z, hix, hz, rfl, rfl, rfl, NP⟩ := hrel
                        cases i with
                        | zero =>
                          obtain rfl : z = -1 := by omega
                          have N2 := nxt (fun h => by
                            obtain ⟨_, i, hi, _⟩ := h
                            rw [show (dat n x fl g p ml m).q = x from rfl, lastI_none (fun j hj => NP.out j (by omega) hj)] at hi
                            cases hi)
                          clear nxt
                          go_wp2
                          exact ⟨⟨_, pp + 1, rfl, rfl, by omega, by omega, HB, .inl ⟨rfl, N2⟩⟩, by simp [intOf]; omega⟩
                        | succ i =>
                          obtain rfl : z = (i : Int) := by omega
                          have hilt : i < x := by omega
                          have gp := (HB.out.cell (p := ⟨QB, i * 2, none⟩) QQ.out.sQ).trans (QQ.out.qp i hilt)
                          have gm := ((HB.out.cell (p := ⟨QB, i * 2 + 1, none⟩) QQ.out.sQ).trans (QQ.out.qm i hilt) : _ = some (Value.slice (some ⟨MB i, 0, none⟩) (ml i) (ml i)))
                          obtain ⟨r, hr⟩ : ∃ r, Hid (r = (dat n x fl g p ml m).P i) := ⟨_, rfl⟩
                          rw [← hr.out] at gp
                          by_cases hrp : r = pp
                          · subst hrp
                            have hla : Hid (lastI (dat n x fl g p ml m).P r (dat n x fl g p ml m).q = some i) := lastI_some hr.out.symm hilt fun j h1 h2 => NP.out j h1 h2
                            have hL := HLn.out i hilt
                            go_wp2_with fail
                            go_loopw [18, 173] (fun sv v w6 => ∃ j : Nat, j ≤ ml i ∧ sv = .string ⟨#[]⟩ ∧ v = .int .i64 j ∧ w6 = wr ∧ Hid (∀ j', j' < j → (dat n x fl g p ml m).cor ((dat n x fl g p ml m).F i j') = true)) (fun _ v _ => ml i - (intOf v).toNat)
                            case atStart => exact ⟨0, Nat.zero_le _, rfl, rfl, rfl, fun j' h => by omega⟩
                            case round =>
                              obtain ⟨j, hj, rfl, rfl, rfl, HA⟩ := hrel
                              by_cases hj2 : j < ml i
                              · have gf := (HB.out.cell (p := ⟨MB i, j, none⟩) (QQ.out.sM i hilt)).trans (QQ.out.mm i hilt j hj2)
                                have hfb := HQb.out.fb i j
                                have gcf := (HB.out.cell (p := ⟨w.heap.size, (dat n x fl g p ml m).F i j, none⟩) QQ.out.sC).trans (QQ.out.cc _ hfb)
                                obtain ⟨f, hf'⟩ : ∃ f, Hid (f = (dat n x fl g p ml m).F i j) := ⟨_, rfl⟩
                                have hfn : f ≤ n := by rw [hf'.out]; exact hfb
                                rw [← hf'.out] at gf gcf
                                clear hfb
                                cases hcf : (dat n x fl g p ml m).cor f
                                · rw [hcf] at gcf
                                  have HCF : Hid ((dat n x fl g p ml m).cor ((dat n x fl g p ml m).F i j) = false) := by rw [← hf'.out]; exact hcf
                                  clear hcf nxt
                                  go_wp2_with (refine (ashow r (by omega) (some ⟨MB i, 0, none⟩) (ml i) (ml i) ((dat n x fl g p ml m).F i) _ hL (fun j => by have := HQb.out.fb i j; have e : (dat n x fl g p ml m).n = n := rfl; omega) (fun j' hj' => ⟨MB i, rfl, (HB.out.cell (p := ⟨MB i, j', none⟩) (QQ.out.sM i hilt)).trans (QQ.out.mm i hilt j' hj'), Nat.lt_of_lt_of_le (QQ.out.sM i hilt) HB.out.size⟩)).mono ?_; rintro e w9 ⟨rfl, hb9⟩)
                                  refine ⟨⟨_, r + 1, rfl, rfl, by omega, by omega, HB.out.trans (by rename_i hb9; exact hb9.mono HB.out.size), .inr ⟨shB_ne _ _ _, ?_⟩⟩, by simp [intOf]; omega⟩
                                  exact .inr ⟨r, i, hp1, hpn, ⟨HC.out, i, hla.out, j, hj2, HCF.out⟩, NB.out, hla.out, rfl⟩
                                · rw [hcf] at gcf
                                  have HCF : Hid ((dat n x fl g p ml m).cor ((dat n x fl g p ml m).F i j) = true) := by rw [← hf'.out]; exact hcf
                                  clear hcf nxt
                                  go_wp2
                                  exact ⟨⟨j + 1, hj2, rfl, rfl, trivial, fun j' h => by
                                    rcases Nat.lt_or_eq_of_le (Nat.le_of_lt_succ h) with g | rfl
                                    · exact HA.out j' g
                                    · exact HCF.out⟩, by simp [intOf]; omega⟩
                              · obtain rfl : j = ml i := by omega
                                have N2 := nxt (fun h => by
                                  obtain ⟨_, i', hi', j', hj', hc'⟩ := h
                                  rw [hla.out] at hi'
                                  injection hi' with hi'
                                  subst hi'
                                  rw [HA.out j' hj'] at hc'
                                  cases hc')
                                clear nxt
                                go_wp2
                                exact ⟨⟨_, r + 1, rfl, rfl, by omega, by omega, HB, .inl ⟨rfl, N2⟩⟩, by simp [intOf]; omega⟩
                          · have hrp' : ¬ (r : Int) = pp := by omega
                            clear nxt
                            go_wp2
                            exact ⟨⟨i, (i : Int) - 1, by omega, by omega, rfl, rfl, trivial, fun j h1 h2 => by
                              by_cases e : j = i
                              · subst e; rw [← hr.out]; exact hrp
                              · exact NP.out j (by omega) h2⟩, by simp [intOf]⟩
                  · go_wp2_with fail
                    go_meet
                    case rel => exact ⟨_, rfl, HR', HB⟩
                · have hpn' : ¬ (pp : Int) ≤ n := by omega
                  go_wp2_with fail
                  go_meet
                  case rel =>
                    refine ⟨_, rfl, ?_, HB⟩
                    rcases hcase with ⟨rfl, NB⟩ | ⟨_, h⟩
                    · exact .inl ⟨rfl, fun p' h1 h2 => NB.out p' h1 (by have : (dat n x fl g p ml m).n = n := rfl; omega)⟩
                    · exact h.out
            case rest =>
              obtain ⟨s', rfl, HR', HB⟩ := hcut
              have es := Res.one HR'.out HR.out
              subst es
              have ess : (s'.toList == s'.toList) = true := by simp
              have y13 := (HB.out.cell (p := ⟨RB, 13, none⟩) SQ.out).trans RQ.out
              go_wp2_with fail
              go_loopw [24] (fun v w5 => ∃ i : Nat, i ≤ x ∧ v = .int .i64 i ∧ Hid (Below wq.heap.size wq w5)) (fun v _ => x - (intOf v).toNat)
              case atStart => exact ⟨0, Nat.zero_le _, rfl, HB⟩
              case round =>
                obtain ⟨i, hix, rfl, H5⟩ := hrel
                clear HB y13
                have W5 : Hid (Below w.heap.size w wr) := HWq.out.trans (H5.out.mono HWq.out.size)
                by_cases hlt : i < x
                · obtain ⟨b, off, ha, g0, g1, hb⟩ := HX.out.qs i hlt
                  subst ha
                  have G1 : Hid (w.cell? ⟨b, off + i * 2 + 1, none⟩ = some (.slice (ma i) (ml i) (mc i))) := g1
                  have y0 := (W5.out.cell (p := ⟨b, off + i * 2, none⟩) hb).trans g0
                  have y1 := (W5.out.cell (p := ⟨b, off + i * 2 + 1, none⟩) hb).trans g1
                  have y13 := (H5.out.cell (p := ⟨RB, 13, none⟩) SQ.out).trans RQ.out
                  obtain ⟨r, hr⟩ : ∃ r, Hid (r = p i % (n + 1)) := ⟨_, rfl⟩
                  have er := tmod_nat (p i) n r hr.out
                  have hbp := HX.out.bp i
                  have gp : wr.cell? ⟨QB, i * 2, none⟩ = some (.int .i64 ((p i % (n + 1) : Nat) : Int)) := (H5.out.cell (p := ⟨QB, i * 2, none⟩) QQ.out.sQ).trans (QQ.out.qp i hlt)
                  rw [← hr.out] at gp
                  have gm : wr.cell? ⟨QB, i * 2 + 1, none⟩ = some (.slice (some ⟨MB i, 0, none⟩) (ml i) (ml i)) := (H5.out.cell (p := ⟨QB, i * 2 + 1, none⟩) QQ.out.sQ).trans (QQ.out.qm i hlt)
                  have hL := HLn.out i hlt
                  clear g0 g1
                  go_wp2_with fail
                  go_quiet (fail)
                  go_wp2_with fail
                  have H6 : Hid (Below wq.heap.size wq (wr.drewN nq)) := H5.out.trans ⟨rfl, rfl, rfl, Nat.le_refl _, fun _ _ => rfl⟩
                  generalize wr.drewN nq = wd at H6 ⊢
                  clear y0 y1 y13 gp gm W5 H5
                  go_loopw [25] (fun v w7 => ∃ j : Nat, j ≤ ml i ∧ v = .int .i64 j ∧ Hid (Below wq.heap.size wq w7)) (fun v _ => ml i - (intOf v).toNat)
                  case atStart => exact ⟨0, Nat.zero_le _, rfl, H6⟩
                  case round =>
                    obtain ⟨j, hj, rfl, H7⟩ := hrel
                    clear H6
                    have W7 : Hid (Below w.heap.size w wr) := HWq.out.trans (H7.out.mono HWq.out.size)
                    have y1 := (W7.out.cell (p := ⟨b, off + i * 2 + 1, none⟩) hb).trans G1.out
                    by_cases hj2 : j < ml i
                    · have y13 := (H7.out.cell (p := ⟨RB, 13, none⟩) SQ.out).trans RQ.out
                      have gm : wr.cell? ⟨QB, i * 2 + 1, none⟩ = some (.slice (some ⟨MB i, 0, none⟩) (ml i) (ml i)) := (H7.out.cell (p := ⟨QB, i * 2 + 1, none⟩) QQ.out.sQ).trans (QQ.out.qm i hlt)
                      obtain ⟨b2, off2, hma, g2, hb2⟩ := HX.out.ms i hlt j hj2
                      have z1 := (W7.out.cell (p := ⟨b2, off2 + j, none⟩) hb2).trans g2
                      rw [hma] at y1
                      obtain ⟨f, hf'⟩ : ∃ f, Hid (f = m i j % (n + 1)) := ⟨_, rfl⟩
                      have ef := tmod_nat (m i j) n f hf'.out
                      have hbm := HX.out.bm i j
                      have gf : wr.cell? ⟨MB i, j, none⟩ = some (.int .i64 ((m i j % (n + 1) : Nat) : Int)) := (H7.out.cell (p := ⟨MB i, j, none⟩) (QQ.out.sM i hlt)).trans (QQ.out.mm i hlt j hj2)
                      rw [← hf'.out] at gf
                      clear g2 hma
                      go_wp2_with fail
                      go_quiet (fail)
                      go_wp2
                      exact ⟨⟨j + 1, hj2, rfl, H7.out.trans ⟨rfl, rfl, rfl, Nat.le_refl _, fun _ _ => rfl⟩⟩, by simp [intOf]; omega⟩
                    · obtain rfl : j = ml i := by omega
                      go_wp2
                      exact ⟨⟨i + 1, hlt, rfl, H7⟩, by simp [intOf]; omega⟩
                · obtain rfl : i = x := by omega
                  go_wp2
                  go_ret
                  exact ⟨rfl, W5.out⟩
end Go.Proofs.YbulkcseoDoor
