/-
  LawS4694BMedian: the law's own walk.
-/
import Derived.Test.YbulkcseoMed
import Derived.Deep.DeepCutAuto
set_option linter.unusedVariables false
namespace Go.Proofs.Ybulkcseo
open Go.RowKit Go.Any

theorem wpList_append_room {P : Program} {ops : Array Oper} {rest : List Oper} {o : Oper} {a : Act} {w : World} {Q : Exit → Act → World → Prop}
    (hg : o.guard = none) (s x : Operand) (t : TypeId) (hop : o.op = Op.call { callee := Callee.builtin Builtin.append, args := #[s, x], argTypes := #[t, t] })
    (e : TypeId) (i : TypeInfo) (h1 : P.underlying t = some (.slice e)) (h2 : P.info? e = some i) (h4 : i.size = 1)
    (b n cap : Nat) (hs : a.eval s = .slice (some ⟨b, 0, none⟩) n cap)
    (ad : Addr) (c : Nat) (u : Value) (hx : a.eval x = .slice (some ad) 1 c) (hc : w.cell? ad = some u) (h1c : u.oneCell' = true)
    (hroom : n + 1 ≤ cap) (hspare : (w.cell? ⟨b, n, none⟩).isSome = true ∧ w.frozen? ⟨b, n, none⟩ = false)
    (hK : wpList P ops Q rest (a.put o.dst (.slice (some ⟨b, 0, none⟩) (n + 1) cap)) (w.setCell ⟨b, n, none⟩ u)) : wpList P ops Q (o :: rest) a w := by
  refine wpList_plain hg fun K hK' => ?_
  have hrun := run_append_room_cells (P := P) w t o.type e i h1 h2 b 0 n cap ad 1 c [u] (by simp [h4]) (fun j v hv => by
      match j, hv with
      | 0, hv => simp at hv; subst hv; simpa [Addr.add] using hc) (by simpa using h1c) hroom (fun j hj => by simp at hj; subst hj; simpa [h4] using hspare.1) (fun j hj => by simp at hj; subst hj; simpa [h4] using hspare.2)
  unfold Oper.wp
  simp [execOp, hop, resolve, invoke, builtin, hs, hx, hrun, Result.andThen]
  refine hK' _ _ ?_
  have e : w.setCells b (n * i.size) [u] = w.setCell ⟨b, n, none⟩ u := by rw [h4, Nat.mul_one]; rfl
  rw [e]
  exact hK

theorem tmod8 (t : Int) : -7 ≤ Int.tmod t 8 ∧ Int.tmod t 8 ≤ 7 := by
  rcases Int.le_total 0 t with h | h
  · rw [Int.tmod_eq_emod_of_nonneg h]; omega
  · have e : Int.tmod t 8 = - ((-t) % 8) := by
      have h1 : Int.tmod (-(-t)) 8 = - Int.tmod (-t) 8 := Int.neg_tmod _ _
      rw [Int.neg_neg] at h1
      rw [h1, Int.tmod_eq_emod_of_nonneg (by omega)]
    omega

theorem mem_new {w w1 : World} {q4 q6 q8 q10 q12 q14 bo bp bw bc n : Nat} {hc : Array Value} (hb : Below w.heap.size w w1) (hr : Rk w.heap.size w1 bo bp bw bc n)
    (hcd : hc = hearCells (.slice (some ⟨q4, 0, none⟩) n n) (.slice (some ⟨q6, 0, none⟩) n n) (.slice (some ⟨q8, 0, none⟩) n n) (.slice (some ⟨q10, 0, none⟩) n n) (.slice (some ⟨q12, 0, none⟩) n n) (.slice (some ⟨q14, 0, none⟩) n n) bo bp bw bc n) :
    Mem w ((w1.alloc (.cells Z35 35)).setCells w1.heap.size 0 hc.toList) w1.heap.size bp bw bc n (.slice (some ⟨bo, 0, none⟩) 0 n) 0 := by
  have hth : (w1.alloc (.cells Z35 35)).there w1.heap.size 0 hc.toList.length := fun j hj => by
    rw [alloc_new, alloc_fro]; rw [hcd] at hj; simp [hearCells, Z35] at hj ⊢; omega
  have hra := World.rangeAt_setCells_same _ _ _ _ hth
  have k : Below w1.heap.size w1 (w1.alloc (.cells Z35 35)) := (Below.refl _ _).alloc (Nat.le_refl _) _
  have hs : ((w1.alloc (.cells Z35 35)).setCells w1.heap.size 0 hc.toList).heap.size = w1.heap.size + 1 := by rw [sets_size]; simp
  have r2 := (hr.below k).sets w1.heap.size 0 hc.toList
  have hf : ∀ j, ((w1.alloc (.cells Z35 35)).setCells w1.heap.size 0 hc.toList).frozen? ⟨w1.heap.size, j, none⟩ = false := fun j => by
    rw [World.frozen?_setCells, alloc_fro]
  refine ⟨sets_below (hb.alloc hb.size _) hb.size _ _, hra 5 _ (by rw [hcd]; rfl), hra 6 _ (by rw [hcd]; rfl), hra 7 _ (by rw [hcd]; rfl), hra 8 _ (by rw [hcd]; rfl), hra 9 _ (by rw [hcd]; rfl), hf 5, hf 9, r2.tp, r2.tw, r2.tc, by omega, r2.sp, r2.sw, r2.sc⟩

theorem lay_new {w w1 : World} {bo bp bw bc n : Nat} (hb : Below w.heap.size w w1) (hr : Rk w.heap.size w1 bo bp bw bc n) : Lay w.heap.size w1.heap.size bp bw bc :=
  ⟨hb.size, hr.lp, hr.lw, hr.lc, hr.pw, hr.cw, Nat.ne_of_lt hr.sp, Nat.ne_of_lt hr.sw, Nat.ne_of_lt hr.sc⟩

set_option maxRecDepth 100000 in
theorem law_long (a : Option Addr) (n c : Nat) (t : Int) (w : World) (hn : 1024 < n) (hn2 : n ≤ 9223372036854775807) : Calls Yba.prog 3 #[.slice a n c, .int .i8 t] w fun e w' => e = .returned (.bool true) ∧ Below w.heap.size w w' := by
  have h1 : (1024 : Int) < n := by omega
  go_enter Yba.func3, Yba.ntmps3
  go_wp2
  go_ret
  exact ⟨rfl, Below.refl _ _⟩

set_option maxHeartbeats 4000000 in
set_option maxRecDepth 100000 in
theorem law_short (a : Option Addr) (n c : Nat) (t : Int) (z : Nat → Int) (w : World) (hn : n ≤ 1024) (ht : -128 ≤ t ∧ t ≤ 127)
    (hz : ∀ j, j < n → ∃ b off, a = some ⟨b, off, none⟩ ∧ w.cell? ⟨b, off + j, none⟩ = some (.int .i64 (z j)) ∧ b < w.heap.size) (hzr : ∀ j, -9223372036854775808 ≤ z j ∧ z j ≤ 9223372036854775807) :
    Calls Yba.prog 3 #[.slice a n c, .int .i8 t] w fun e w' => e = .returned (.bool true) ∧ Below w.heap.size w w' := by
  have HZ : Hid (∀ j, j < n → ∃ b off, a = some ⟨b, off, none⟩ ∧ w.cell? ⟨b, off + j, none⟩ = some (.int .i64 (z j)) ∧ b < w.heap.size) := hz
  have HR : Hid (∀ j, -9223372036854775808 ≤ z j ∧ z j ≤ 9223372036854775807) := hzr
  clear hz hzr
  have hn1 : ¬ (1024 : Int) < n := by omega
  go_enter Yba.func3, Yba.ntmps3
  go_wp2_with (first
    | (refine (newHearing n hn _).mono ?_
       rintro e w1 ⟨q4, q6, q8, q10, q12, q14, bo, bp, bw, bc, rfl, hb1, hrk⟩
       obtain ⟨hc, hcd⟩ : ∃ hc, Hid (hc = hearCells (.slice (some ⟨q4, 0, none⟩) n n) (.slice (some ⟨q6, 0, none⟩) n n) (.slice (some ⟨q8, 0, none⟩) n n) (.slice (some ⟨q10, 0, none⟩) n n) (.slice (some ⟨q12, 0, none⟩) n n) (.slice (some ⟨q14, 0, none⟩) n n) bo bp bw bc n) := ⟨_, rfl⟩
       rw [← hcd.out])
    | (refine wpList_store_mid rfl 35 _ _ rfl w1.heap.size 0 hc rfl rfl (fun j hj => by rw [alloc_new, alloc_fro]; rw [hcd.out] at hj; simp [hearCells] at hj ⊢; omega) (by rw [hcd.out]; kernel_rfl) (by rw [hcd.out]; simp [hearCells, Value.oneCell']) ?_
       have hM := mem_new hb1 hrk hcd.out
       have hL := lay_new hb1 hrk
       unfold Z35 at hM
       generalize hW : (w1.alloc _).setCells w1.heap.size 0 hc.toList = w2 at hM ⊢
       generalize hH : w1.heap.size = H at hM hL ⊢))
  have HM : Hid (Mem w w2 H bp bw bc n (.slice (some ⟨bo, 0, none⟩) 0 n) 0) := hM
  have HL : Hid (Lay w.heap.size H bp bw bc) := hL
  clear hM hL hW hH hb1 hrk hcd
  go_loopw [7] (fun i wr => ∃ k : Nat, k ≤ n ∧ i = .int .i64 k ∧ Hid (Mem w wr H bp bw bc n (.slice (some ⟨bo, 0, none⟩) 0 n) 0) ∧ Hid (Fill wr bw z k)) (fun i _ => n - (intOf i).toNat)
  case atStart => exact ⟨0, Nat.zero_le _, rfl, HM, fun j hj => by omega⟩
  case round =>
    obtain ⟨k, hk, rfl, M, F⟩ := hrel
    clear HM
    by_cases hlt : k < n
    · obtain ⟨b, off, rfl, hcell, hb⟩ := HZ.out k hlt
      have g0 := (M.out.bel.cell (p := ⟨b, off + k, none⟩) hb).trans hcell
      have g7 := M.out.c7
      have g8 := M.out.c8
      obtain ⟨u, gw⟩ := Option.isSome_iff_exists.1 (M.out.tw k hlt).1
      obtain ⟨u', gc⟩ := Option.isSome_iff_exists.1 (M.out.tc k hlt).1
      have fw := (M.out.tw k hlt).2
      have fc := (M.out.tc k hlt).2
      have n1 := HL.out.wH
      have n2 := HL.out.wH.symm
      have n3 := HL.out.cw
      have n4 := HL.out.cw.symm
      simp only [Nat.zero_add] at gw gc fw fc
      go_wp2_with fail
      go_region
      all_goals (
        go_wp2
        go_roundw
        case rel =>
          exact ⟨k + 1, hlt, rfl, ((M.out.set ⟨bw, k, none⟩ _ HL.out.lw HL.out.wH).set ⟨bc, k, none⟩ _ HL.out.lc HL.out.cH).drew, (F.out.next M.out.tw hlt).far _ _ HL.out.cw⟩
        case measure => simp [intOf]; omega)
    · obtain rfl : k = n := by omega
      have m2 := make24o k hn
      go_wp2
      have LO : Hid (LayO w.heap.size H bp bw bc wr.heap.size) := ⟨HL.out, M.out.bel.size, Nat.ne_of_gt M.out.sH, Nat.ne_of_gt M.out.sp, Nat.ne_of_gt M.out.sw⟩
      have OG : Hid (Og w (wr.alloc (Obj.cells (madeCells #[.int .i64 0] k) 3)) H bo bp bw bc wr.heap.size k z (fun _ => 0) 0) := by
        have kb : Below wr.heap.size wr (wr.alloc (Obj.cells (madeCells #[.int .i64 0] k) 3)) := (Below.refl _ _).alloc (Nat.le_refl _) _
        exact ⟨M.out.below kb M.out.bel.size, F.out.below M.out.sw kb, there_made _ _ _, by simp, fun j hj => by omega, fun j hj => by omega, fun P => rfl⟩
      generalize wr.alloc (Obj.cells (madeCells #[.int .i64 0] k) 3) = w3 at OG ⊢
      generalize wr.heap.size = O at OG LO ⊢
      clear M F HL m2 hlt hk
      obtain ⟨i3, i3a, i3b, i3c, i3d⟩ := info_of (t := 3) (z := .int .i64 0) (s := 1) (b := 8) (by kernel_rfl)
      have I3 : Hid (Yba.prog.info? 3 = some i3 ∧ i3.size = 1) := ⟨i3a, i3c⟩
      clear i3a i3b i3c i3d
      go_loopw [8, 9] (fun o i wr => ∃ (m : Nat) (ord : Nat → Nat), m ≤ k ∧ o = .slice (some ⟨O, 0, none⟩) m k ∧ i = .int .i64 m ∧ Hid (Og w wr H bo bp bw bc O k z ord m) ∧ Hid (Sorted (fun p => z (ord p)) m)) (fun _ i _ => k - (intOf i).toNat)
      case atStart => exact ⟨0, _, Nat.zero_le _, rfl, rfl, OG, fun p q h1 h2 => by omega⟩
      case round =>
        obtain ⟨m, ord, hm, rfl, rfl, G, S⟩ := hrel
        clear OG
        by_cases hlt : m < k
        · have hO := G.out.sO
          have G2 : Hid (Og w ((wr.setCell ⟨O, m, none⟩ (.int .i64 ((m : Int) + 1))).alloc (Obj.cells #[.int .i64 ((m : Int) + 1)] 3)) H bo bp bw bc O k z (ordAdd ord m) (m + 1)) := by
            have := G.out.add LO.out hlt (Obj.cells #[.int .i64 ((m : Int) + 1)] 3)
            rwa [World.setCell_alloc_past _ _ _ _ hO] at this
          have P2 : Hid (Part (fun p => z (ordAdd ord m p)) (m + 1) m) := part_start fun p q h1 h2 => by
            show z (ordAdd ord m p) ≤ z (ordAdd ord m q)
            have e1 : ordAdd ord m p = ord p := if_neg (by omega)
            have e2 : ordAdd ord m q = ord q := if_neg (by omega)
            rw [e1, e2]
            exact S.out p q h1 h2
          go_wp2_with (refine wpList_append_room rfl _ _ 24 rfl 3 i3 Yba.underlying24 I3.out.1 I3.out.2 O m k rfl ⟨wr.heap.size, 0, none⟩ 1 (.int .i64 ((m : Int) + 1)) rfl (by rw [alloc_new]; rfl) rfl hlt (by
            have kb : Below wr.heap.size wr (wr.alloc (Obj.cells #[.int .i64 ((m : Int) + 1)] 3)) := (Below.refl _ _).alloc (Nat.le_refl _) _
            have := there_below G.out.th G.out.sO kb m hlt
            simpa using this) ?_)
          generalize (wr.setCell ⟨O, m, none⟩ (.int .i64 ((m : Int) + 1))).alloc (Obj.cells #[.int .i64 ((m : Int) + 1)] 3) = w4 at G2 ⊢
          generalize ordAdd ord m = ord2 at G2 P2
          clear G S hO
          go_loopw [10] (fun i wr => ∃ (j : Nat) (ord : Nat → Nat), j ≤ m ∧ i = .int .i64 j ∧ Hid (Og w wr H bo bp bw bc O k z ord (m + 1)) ∧ Hid (Part (fun p => z (ord p)) (m + 1) j)) (fun i _ => (intOf i).toNat)
          case atStart => exact ⟨m, ord2, Nat.le_refl _, rfl, G2, P2⟩
          case round =>
            obtain ⟨j, ord, hj, rfl, G, Pt⟩ := hrel
            clear G2 P2
            rcases j with _ | i
            · go_wp2_with fail
              go_quiet (fail)
              go_wp2
              exact ⟨⟨m + 1, ord, hlt, rfl, rfl, G.out.drewN _, part_zero Pt.out⟩, by simp [intOf]; omega⟩
            · have l0 := G.out.lt i (by omega)
              have l1 := G.out.lt (i + 1) (by omega)
              obtain ⟨b, off, rfl, hc0, hb⟩ := HZ.out (ord i) l0
              obtain ⟨b', off', hab, hc1, _⟩ := HZ.out (ord (i + 1)) l1
              injection hab with hab
              injection hab with hab1 hab2
              subst hab1 hab2
              have g0 := (G.out.mem.bel.cell (p := ⟨b, off + ord i, none⟩) hb).trans hc0
              have g1 := (G.out.mem.bel.cell (p := ⟨b, off + ord (i + 1), none⟩) hb).trans hc1
              have o0 := G.out.od i (by omega)
              have o1 := G.out.od (i + 1) (by omega)
              have e0 : IntKind.i64.wrap ((ord i : Int) + 1 - 1) = (ord i : Int) := by rw [IntKind.wrap_i64]; omega
              have e1 : IntKind.i64.wrap ((ord (i + 1) : Int) + 1 - 1) = (ord (i + 1) : Int) := by rw [IntKind.wrap_i64]; omega
              have e2 : IntKind.i64.wrap ((i : Int) + 1 - 1) = (i : Int) := by rw [IntKind.wrap_i64]; omega
              have t0 := G.out.th i (by omega)
              have t1 := G.out.th (i + 1) (by omega)
              simp only [Nat.zero_add] at t0 t1
              by_cases hgt : z (ord (i + 1)) < z (ord i)
              · go_wp2_with fail
                go_quiet (fail)
                go_wp2
                refine ⟨⟨i, ordSwap ord (i + 1), by omega, rfl, (G.out.drewN _).swap LO.out (by omega) (by omega), ?_⟩, by simp [intOf]⟩
                rw [swapf_ord]
                exact part_swap Pt.out (by omega) hgt
              · go_wp2_with fail
                go_quiet (fail)
                go_wp2
                exact ⟨⟨m + 1, ord, hlt, rfl, rfl, G.out.drewN _, part_end Pt.out (by omega) (by simpa using hgt)⟩, by simp [intOf]; omega⟩
        · obtain rfl : m = k := by omega
          clear hlt hm I3
          go_wp2
          go_loopw [12] (fun i wr => ∃ q : Nat, q ≤ m ∧ i = .int .i64 q ∧ Hid (Og w wr H bo bp bw bc O m z ord m)) (fun i _ => m - (intOf i).toNat)
          case atStart => exact ⟨0, Nat.zero_le _, rfl, G⟩
          case round =>
            obtain ⟨q, hq, rfl, G3⟩ := hrel
            clear G
            by_cases hlt : q < m
            · have l0 := G3.out.lt q hlt
              have g6 := G3.out.mem.c6
              have o0 := G3.out.od q hlt
              obtain ⟨u, gp⟩ := Option.isSome_iff_exists.1 (G3.out.mem.tp (ord q) l0).1
              have fp := (G3.out.mem.tp (ord q) l0).2
              simp only [Nat.zero_add] at gp fp
              have e0 : IntKind.i64.wrap ((ord q : Int) + 1 - 1) = (ord q : Int) := by rw [IntKind.wrap_i64]; omega
              go_wp2_with fail
              go_region
              all_goals (
                go_wp2
                go_roundw
                case rel => exact ⟨q + 1, hlt, rfl, (G3.out.place LO.out _ _).drew⟩
                case measure => simp [intOf]; omega)
            · obtain rfl : q = m := by omega
              clear hlt hq
              have g5 := G3.out.mem.c5
              have g9 := G3.out.mem.c9
              have f5 := G3.out.mem.f5
              have f9 := G3.out.mem.f9
              have hT : -7 ≤ Int.tmod t 8 ∧ Int.tmod t 8 ≤ 7 := tmod8 t
              have hd : Int.tdiv (q : Int) 2 = ((q / 2 : Nat) : Int) := by rw [Int.tdiv_eq_ediv_of_nonneg (by omega)]; omega
              have D : Hid (Dn w _ H bw O q z ord (8 + t.tmod 8 - 4)) := G3.out.done LO.out (8 + t.tmod 8 - 4)
              have CT : Hid (∀ P, cnt P (fun p => z (ord p)) q = cnt P z q) := G3.out.ct
              have LT : Hid (∀ p, p < q → ord p < q) := G3.out.lt
              clear G3
              go_wp2_with fail
              generalize ((_ : World).setCell ⟨H, 9, none⟩ _) = w5 at D ⊢
              clear g5 g9 f5 f9
              by_cases h0 : q = 0
              · subst h0
                have y5 := D.out.c5
                refine (medianWait0 H O 0 w5 y5).mono ?_
                rintro e w6 ⟨rfl, b6⟩
                have D6 : Hid (Dn w w6 H bw O 0 z ord (8 + t.tmod 8 - 4)) := D.out.below b6
                clear y5 D b6
                have y5 := D6.out.c5
                have y9 := D6.out.c9
                go_wp2
                go_loopw [22] (fun i wr => i = .int .i64 0 ∧ Hid (Dn w wr H bw O 0 z ord (8 + t.tmod 8 - 4))) (fun _ _ => 0)
                case atStart => exact ⟨rfl, D6⟩
                case round =>
                  obtain ⟨rfl, D9⟩ := hrel
                  go_wp2
                  go_ret
                  exact ⟨rfl, D9.out.bel⟩
              · have hne : ((q : Int) == 0) = false := by simp; omega
                have hne' : ¬ (q : Int) = 0 := by omega
                have hpos : 0 < q := by omega
                by_cases hT8 : 8 + t.tmod 8 - 4 < 8
                · have y5 := D.out.c5
                  have y9 := D.out.c9
                  refine (medianWaitF H O q q _ w5 y5 y9 hpos hn hT8).mono ?_
                  rintro e w6 ⟨rfl, b6⟩
                  have D6 : Hid (Dn w w6 H bw O q z ord (8 + t.tmod 8 - 4)) := D.out.below b6
                  clear y5 y9 D b6
                  have y5 := D6.out.c5
                  have y9 := D6.out.c9
                  go_wp2
                  go_loopw [22] (fun i wr => ∃ e : Nat, e ≤ q ∧ i = .int .i64 e ∧ Hid (Dn w wr H bw O q z ord (8 + t.tmod 8 - 4))) (fun i _ => q - (intOf i).toNat)
                  case atStart => exact ⟨0, Nat.zero_le _, rfl, D6⟩
                  case round =>
                    obtain ⟨e, he, rfl, D9⟩ := hrel
                    by_cases hlt9 : e < q
                    · have x5 := D9.out.c5
                      have xo := D9.out.od e hlt9
                      go_wp2_with fail
                      go_quiet (fail)
                      go_wp2
                      exact ⟨⟨e + 1, hlt9, rfl, D9.out.drewN _⟩, by simp [intOf]; omega⟩
                    · obtain rfl : e = q := by omega
                      go_wp2
                      go_ret
                      exact ⟨rfl, D9.out.bel⟩
                · have y5 := D.out.c5
                  have y7 := D.out.c7
                  have y9 := D.out.c9
                  have lh := LT.out (q / 2) (by omega)
                  refine (medianWaitM H O bw q q q _ (ord (q / 2)) (z (ord (q / 2))) w5 y5 y7 y9 hpos hn hn (by omega) (D.out.od (q / 2) (by omega)) lh (D.out.wt (ord (q / 2)) lh)).mono ?_
                  rintro e w6 ⟨rfl, b6⟩
                  have D6 : Hid (Dn w w6 H bw O q z ord (8 + t.tmod 8 - 4)) := D.out.below b6
                  have MV : Hid (Mid z q (z (ord (q / 2)))) := mid_of (s := fun p => z (ord p)) hpos CT.out S.out
                  clear y5 y7 y9 D b6
                  go_wp2_with fail
                  go_loopw [16, 17, 18] (fun v f i wr => ∃ e : Nat, e ≤ q ∧ i = .int .i64 e ∧ ((f = .bool false ∧ v = .int .i64 0 ∧ Hid (∀ j, j < e → ¬ Mid z q (z j))) ∨ (f = .bool true ∧ v = .int .i64 (z (ord (q / 2))))) ∧ Hid (Dn w wr H bw O q z ord (8 + t.tmod 8 - 4))) (fun _ _ i _ => q - (intOf i).toNat)
                  case atStart => exact ⟨0, Nat.zero_le _, rfl, .inl ⟨rfl, rfl, fun j hj => by omega⟩, D6⟩
                  case round =>
                    obtain ⟨e, he, rfl, hcase, D7⟩ := hrel
                    clear D6
                    rcases hcase with ⟨rfl, rfl, NO⟩ | ⟨rfl, rfl⟩
                    · by_cases hlt5 : e < q
                      · obtain ⟨b, off, rfl, hce, hb⟩ := HZ.out e hlt5
                        go_wp2
                        go_loopw [19, 20, 21] (fun x y i wr => ∃ p : Nat, p ≤ q ∧ i = .int .i64 p ∧ x = .int .i64 (cnt (fun x => decide (x < z e)) z p) ∧ y = .int .i64 (cnt (fun x => decide (x ≤ z e)) z p) ∧ Hid (Dn w wr H bw O q z ord (8 + t.tmod 8 - 4))) (fun _ _ i _ => q - (intOf i).toNat)
                        case atStart => exact ⟨0, Nat.zero_le _, rfl, rfl, rfl, D7⟩
                        case round =>
                          obtain ⟨p, hp, rfl, rfl, rfl, D8⟩ := hrel
                          clear D7
                          have bl := cnt_le (fun x => decide (x < z e)) z p
                          have be := cnt_le (fun x => decide (x ≤ z e)) z p
                          have ge := (D8.out.bel.cell (p := ⟨b, off + e, none⟩) hb).trans hce
                          by_cases hlt6 : p < q
                          · obtain ⟨b', off', hab, hcp, _⟩ := HZ.out p hlt6
                            injection hab with hab
                            injection hab with hab1 hab2
                            subst hab1 hab2
                            have gp := (D8.out.bel.cell (p := ⟨b, off + p, none⟩) hb).trans hcp
                            have st1 : Hid (cnt (fun x => decide (x < z e)) z (p + 1) = cnt (fun x => decide (x < z e)) z p + (if decide (z p < z e) = true then 1 else 0)) := rfl
                            have st2 : Hid (cnt (fun x => decide (x ≤ z e)) z (p + 1) = cnt (fun x => decide (x ≤ z e)) z p + (if decide (z p ≤ z e) = true then 1 else 0)) := rfl
                            rcases Int.lt_trichotomy (z p) (z e) with h1 | h1 | h1
                            · have h2 : z p ≤ z e := by omega
                              go_wp2_with fail
                              go_quiet (fail)
                              go_wp2_with fail
                              go_quiet (fail)
                              go_wp2
                              refine ⟨⟨p + 1, hlt6, rfl, ?_, ?_, D8.out.drewN _⟩, by simp [intOf]; omega⟩
                              · rw [st1.out, if_pos (by simpa using h1)]; simp
                              · rw [st2.out, if_pos (by simpa using h2)]; simp
                            · have h2 : z p ≤ z e := by omega
                              have h3 : ¬ z p < z e := by omega
                              go_wp2_with fail
                              go_quiet (fail)
                              go_wp2_with fail
                              go_quiet (fail)
                              go_wp2
                              refine ⟨⟨p + 1, hlt6, rfl, ?_, ?_, D8.out.drewN _⟩, by simp [intOf]; omega⟩
                              · rw [st1.out, if_neg (by simp; omega)]; simp
                              · rw [st2.out, if_pos (by simp; omega)]; simp
                            · have h2 : ¬ z p ≤ z e := by omega
                              have h3 : ¬ z p < z e := by omega
                              go_wp2_with fail
                              go_quiet (fail)
                              go_wp2_with fail
                              go_quiet (fail)
                              go_wp2
                              refine ⟨⟨p + 1, hlt6, rfl, ?_, ?_, D8.out.drewN _⟩, by simp [intOf]; omega⟩
                              · rw [st1.out, if_neg (by simp; omega)]; simp
                              · rw [st2.out, if_neg (by simp; omega)]; simp
                          · obtain rfl : p = q := by omega
                            clear hlt6
                            obtain ⟨cl, hcl⟩ : ∃ cl, Hid (cl = cnt (fun x => decide (x < z e)) z p) := ⟨_, rfl⟩
                            obtain ⟨ce, hcE⟩ : ∃ ce, Hid (ce = cnt (fun x => decide (x ≤ z e)) z p) := ⟨_, rfl⟩
                            rw [← hcl.out] at bl ⊢
                            rw [← hcE.out] at be ⊢
                            have DEC : Hid (Mid z p (z e) ↔ cl ≤ p / 2 ∧ p / 2 < ce) := by
                              show Mid z p (z e) ↔ _
                              unfold Mid
                              rw [← hcl.out, ← hcE.out]
                            by_cases k1 : cl ≤ p / 2
                            · have k1' : (cl : Int) ≤ ((p / 2 : Nat) : Int) := by omega
                              by_cases k2 : p / 2 < ce
                              · have k2' : ((p / 2 : Nat) : Int) < (ce : Int) := by omega
                                have EQ : z e = z (ord (p / 2)) := mid_one (DEC.out.2 ⟨k1, k2⟩) MV.out
                                go_wp2
                                exact ⟨⟨e + 1, hlt5, rfl, .inr ⟨rfl, rfl⟩, D8⟩, by simp [intOf]; omega⟩
                              · have k2' : ¬ ((p / 2 : Nat) : Int) < (ce : Int) := by omega
                                have NM : Hid (¬ Mid z p (z e)) := fun h => k2 (DEC.out.1 h).2
                                go_wp2
                                exact ⟨⟨e + 1, hlt5, rfl, .inl ⟨rfl, rfl, fun j hj => by
                                  rcases Nat.lt_or_eq_of_le (Nat.le_of_lt_succ hj) with h | rfl
                                  · exact NO.out j h
                                  · exact NM.out⟩, D8⟩, by simp [intOf]; omega⟩
                            · have k1' : ¬ (cl : Int) ≤ ((p / 2 : Nat) : Int) := by omega
                              have NM : Hid (¬ Mid z p (z e)) := fun h => k1 (DEC.out.1 h).1
                              go_wp2
                              exact ⟨⟨e + 1, hlt5, rfl, .inl ⟨rfl, rfl, fun j hj => by
                                rcases Nat.lt_or_eq_of_le (Nat.le_of_lt_succ hj) with h | rfl
                                · exact NO.out j h
                                · exact NM.out⟩, D8⟩, by simp [intOf]; omega⟩
                      · obtain rfl : e = q := by omega
                        exact absurd MV.out (NO.out _ lh)
                    · have y5 := D7.out.c5
                      have y9 := D7.out.c9
                      by_cases hlt5 : e < q
                      · go_wp2
                        go_loopw [22] (fun i wr => ∃ e : Nat, e ≤ q ∧ i = .int .i64 e ∧ Hid (Dn w wr H bw O q z ord (8 + t.tmod 8 - 4))) (fun i _ => q - (intOf i).toNat)
                        case atStart => exact ⟨0, Nat.zero_le _, rfl, D7⟩
                        case round =>
                          obtain ⟨e, he, rfl, D9⟩ := hrel
                          by_cases hlt9 : e < q
                          · have x5 := D9.out.c5
                            have xo := D9.out.od e hlt9
                            go_wp2_with fail
                            go_quiet (fail)
                            go_wp2
                            exact ⟨⟨e + 1, hlt9, rfl, D9.out.drewN _⟩, by simp [intOf]; omega⟩
                          · obtain rfl : e = q := by omega
                            go_wp2
                            go_ret
                            exact ⟨rfl, D9.out.bel⟩
                      · obtain rfl : q = e := by omega
                        go_wp2
                        go_loopw [22] (fun i wr => ∃ e : Nat, e ≤ q ∧ i = .int .i64 e ∧ Hid (Dn w wr H bw O q z ord (8 + t.tmod 8 - 4))) (fun i _ => q - (intOf i).toNat)
                        case atStart => exact ⟨0, Nat.zero_le _, rfl, D7⟩
                        case round =>
                          obtain ⟨e, he, rfl, D9⟩ := hrel
                          by_cases hlt9 : e < q
                          · have x5 := D9.out.c5
                            have xo := D9.out.od e hlt9
                            go_wp2_with fail
                            go_quiet (fail)
                            go_wp2
                            exact ⟨⟨e + 1, hlt9, rfl, D9.out.drewN _⟩, by simp [intOf]; omega⟩
                          · obtain rfl : e = q := by omega
                            go_wp2
                            go_ret
                            exact ⟨rfl, D9.out.bel⟩
end Go.Proofs.Ybulkcseo
