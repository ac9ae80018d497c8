/-
  LawS4681BFire: 'watchTable.remove' by a contract, wherever the sessions lie.
-/
import Derived.Test.YbulkcrxoDoorFEnd
set_option linter.unusedVariables false
namespace Go.Proofs.YbulkcrxoDoor.F
open Go.RowKit Go.Any
open Go.ChangeMaps (setBlock)

theorem Sess.same {w w' : World} {SB : Fin 4 → Nat} (h : Sess w SB) (hb : ∀ i, w'.heap[SB i]? = w.heap[SB i]?) : Sess w' SB :=
  ⟨fun i => by
    obtain ⟨c, t, e⟩ := h.blk i
    exact ⟨c, t, (hb i).trans e⟩, h.inj⟩
theorem Sess.ne_map {κ : Type} [DecidableEq κ] {kv : κ → Value} {w : World} {SB : Fin 4 → Nat} (h : Sess w SB) {b c : Nat} {l : List (RM.Ent κ)} (hm : RM.IsMap kv w b l c) (i : Fin 4) : SB i ≠ b := by
  obtain ⟨x, t, e⟩ := h.blk i
  exact map_cells hm e
theorem Sess.alien {w w' : World} {SB : Fin 4 → Nat} {X AB : Nat} (h : Sess w SB) (hS : ∀ i, SB i ≠ X ∧ SB i ≠ AB) (ha : Alien X AB w w') : Sess w' SB :=
  ⟨fun i => by
    obtain ⟨c, t, e⟩ := h.blk i
    exact ⟨c, t, ha _ _ _ _ (hS i).1 (hS i).2 e⟩, h.inj⟩

set_option maxHeartbeats 8000000 in
set_option maxRecDepth 100000 in
theorem remove2 (b1 b2 X BK BS AB : Nat) (SB : Fin 4 → Nat) (IK : Key → Nat) (JS : Fin 4 → Nat) (ρ : Nat → Role) (A : Nat → Wt) (M i0 : Nat) (p : ByteArray) (d : Nat) (s : Fin 4) (lI : List (RM.Ent (Fin 4))) (cI : Nat) (w : World) (h : Tbl w b1 b2 X BK BS AB SB IK JS ρ A (M + 1)) (hS : Sess w SB) (hSB : ∀ i, SB i ≠ X ∧ SB i ≠ AB) (hi : i0 < M + 1) (hA : A i0 = ((p, d), s))
    (hI : RM.IsMap (kvS SB) w (IK (p, d)) lI cI) :
    Calls Ybad.prog 30 #[.pointer (some ⟨X, 0, none⟩), .pointer (some ⟨SB s, 0, none⟩), .agg #[.string p, .int .u8 (d : Int)]] w fun e w' => e = .returned (.tuple #[]) ∧ Tbl w' b1 b2 X BK BS AB SB IK JS ρ (drop A (M + 1) i0) M ∧ Ring b1 b2 w w' ∧ Alien X AB w w' ∧
      ∃ l', RM.IsMap (kvS SB) w' (IK (p, d)) l' cI ∧ ISpec (drop A (M + 1) i0) M (p, d) l' ∧ RM.Stamps l' cI ∧ ∀ e' ∈ l', ∃ e ∈ lI, e.k = e'.k ∧ e.n = e'.n := by
  have HT : Hid (Tbl w b1 b2 X BK BS AB SB IK JS ρ A (M + 1)) := h
  have HS : Hid (Sess w SB) := hS
  have HI : Hid (RM.IsMap (kvS SB) w (IK (p, d)) lI cI) := hI
  have bM := h.bN
  obtain ⟨lst, hlst⟩ : ∃ x, Hid (A M = x) := ⟨_, rfl⟩
  obtain ⟨⟨p', d'⟩, s'⟩ := lst
  obtain ⟨ao, cap, g2, hcap, hao⟩ := h.c2
  have hao := hao (by omega)
  subst hao
  have g0 := h.c0
  have sX : X < w.heap.size := World.block_lt_of_cell? _ _ g0
  obtain ⟨a0, a1, a2⟩ := h.ce M (by omega)
  rw [hlst.out] at a0 a1 a2
  have sAB : AB < w.heap.size := World.block_lt_of_cell? _ _ a0
  have HA : Hid (A i0 = ((p, d), s)) := hA
  clear h hS hI hA
  go_enter Ybad.func30, Ybad.ntmps30
  go_wp2_with fail
  replace g0 := (World.cell?_alloc_lt w (Obj.cells #[.string p, .int .u8 (d : Int)] 61) ⟨X, 0, none⟩ sX).trans g0
  replace g2 := (World.cell?_alloc_lt w (Obj.cells #[.string p, .int .u8 (d : Int)] 61) ⟨X, 2, none⟩ sX).trans g2
  replace a0 := (World.cell?_alloc_lt w (Obj.cells #[.string p, .int .u8 (d : Int)] 61) ⟨AB, M * 3, none⟩ sAB).trans a0
  replace a1 := (World.cell?_alloc_lt w (Obj.cells #[.string p, .int .u8 (d : Int)] 61) ⟨AB, M * 3 + 1, none⟩ sAB).trans a1
  replace a2 := (World.cell?_alloc_lt w (Obj.cells #[.string p, .int .u8 (d : Int)] 61) ⟨AB, M * 3 + 2, none⟩ sAB).trans a2
  have k0 : (w.alloc (Obj.cells #[.string p, .int .u8 (d : Int)] 61)).cell? ⟨w.heap.size, 0, none⟩ = some (.string p) := by rw [alloc_new]; rfl
  have k1 : (w.alloc (Obj.cells #[.string p, .int .u8 (d : Int)] 61)).cell? ⟨w.heap.size, 1, none⟩ = some (.int .u8 (d : Int)) := by rw [alloc_new]; rfl
  have B1 : Hid (Below w.heap.size w (w.alloc (Obj.cells #[.string p, .int .u8 (d : Int)] 61))) := (Below.refl _ _).alloc (Nat.le_refl _) _
  replace sX : X < (w.alloc (Obj.cells #[.string p, .int .u8 (d : Int)] 61)).heap.size := by simp; omega
  replace sAB : AB < (w.alloc (Obj.cells #[.string p, .int .u8 (d : Int)] 61)).heap.size := by simp; omega
  have sKB : w.heap.size < (w.alloc (Obj.cells #[.string p, .int .u8 (d : Int)] 61)).heap.size := by simp
  generalize w.alloc (Obj.cells #[.string p, .int .u8 (d : Int)] 61) = w1 at g0 g2 a0 a1 a2 k0 k1 B1 sX sAB sKB ⊢
  obtain ⟨KB, hKB⟩ : ∃ KB, Hid (KB = w.heap.size) := ⟨_, rfl⟩
  rw [← hKB.out] at k0 k1 sKB ⊢
  have T1 : Hid (Tbl w1 b1 b2 X BK BS AB SB IK JS ρ A (M + 1)) := HT.out.below B1.out
  have S1 : Hid (Sess w1 SB) := HS.out.below B1.out
  have I1 : Hid (RM.IsMap (kvS SB) w1 (IK (p, d)) lI cI) := (B1.out.block _ (IsMap.lt HI.out)).trans HI.out
  have HL5 : Hid (∀ w', Below w1.heap.size w1 w' → (Instr.lookup 64 (.map (some BK)) (.agg #[.string p, .int .u8 (d : Int)]) false).run Ybad.prog w' = .ok (.map (some (IK (p, d)))) w') := fun w' hB => by
    obtain ⟨l, c, hm, hk⟩ := T1.out.mK
    have := RM.run_lookup Ybad.underlying64 (watchKeys w') ((hB.block _ (IsMap.lt hm)).trans hm) (zero63 w') (p, d)
    rw [(hk.2 (p, d) _).2 ⟨⟨i0, hi, by rw [HA.out]⟩, rfl⟩] at this
    exact this
  have HIS : Hid (ISpec A (M + 1) (p, d) lI ∧ RM.Stamps lI cI) := by
    obtain ⟨l, c, hm, hk, hst⟩ := T1.out.mI i0 hi
    rw [HA.out] at hm hk
    obtain ⟨e1, e2⟩ := isMap_inj S1.out.inj I1.out hm
    subst e1 e2
    exact ⟨hk, hst⟩
  have HL7 : Hid (∀ w', Below w1.heap.size w1 w' → (Instr.lookup 63 (.map (some (IK (p, d)))) (.pointer (some ⟨SB s, 0, none⟩)) false).run Ybad.prog w' = .ok (.int .i64 (i0 : Int)) w') := fun w' hB => by
    have := RM.run_lookup Ybad.underlying63 (sessKeys (S1.out.below hB)) ((hB.block _ (IsMap.lt I1.out)).trans I1.out) (zero3 w') s
    rw [(HIS.out.1.2 s _).2 ⟨i0, hi, HA.out, rfl⟩] at this
    exact this
  refine wp_region_inv (fun l a w' => l.size = 23 ∧ Below w1.heap.size w1 w' ∧ ∃ v6 v7 v8 v9 v10 v11 v12 v13 v14 v15 v16 v17 v18 v19 v20 v21 v22 v23 v24 v25 v26 v27, a = ⟨#[.pointer (some ⟨X, 0, none⟩), .pointer (some ⟨SB s, 0, none⟩), .agg #[.string p, .int .u8 (d : Int)], undef, undef, .pointer (some ⟨KB, 0, none⟩), v6, v7, v8, v9, v10, v11, v12, v13, v14, v15, v16, v17, v18, v19, v20, v21, v22, v23, v24, v25, v26, v27, undef, undef, undef, undef, undef, undef, undef, undef, undef, undef, undef, undef, undef, undef, undef, undef, undef, undef, undef, undef, undef, undef, undef, undef, undef, undef, undef, undef, undef, undef, undef, undef, undef, undef, undef, undef, undef, undef, undef, undef, undef, undef, undef, undef, undef, undef, undef, undef, undef, undef, undef, undef, undef, undef, undef, undef, undef, undef, undef, undef, undef, undef, undef, undef, undef, undef, undef, undef, undef, undef, undef, undef, undef, undef, undef, undef, undef, undef, undef, undef, undef, undef, undef], []⟩ ∧ (On l 0 → v8 = .pointer (some ⟨X, 0, none⟩)) ∧ (On l 1 → v9 = .pointer (some ⟨X, 0, none⟩)) ∧ (On l 2 → v10 = .pointer (some ⟨X, 0, none⟩)) ∧ (On l 3 → v11 = .map (some BK)) ∧ (On l 4 → v12 = .agg #[.string p, .int .u8 (d : Int)]) ∧ (On l 5 → v13 = .map (some (IK (p, d)))) ∧ (On l 6 → v14 = .pointer (some ⟨SB s, 0, none⟩)) ∧ (On l 7 → v15 = .int .i64 (i0 : Int)) ∧ (On l 8 → v16 = .pointer (some ⟨X, 0, none⟩)) ∧ (On l 9 → v17 = .pointer (some ⟨X, 0, none⟩)) ∧ (On l 10 → v18 = .pointer (some ⟨X, 2, none⟩)) ∧ (On l 11 → v19 = .slice (some ⟨AB, 0, none⟩) (M + 1) cap) ∧ (On l 12 → v20 = .pointer (some ⟨X, 0, none⟩)) ∧ (On l 13 → v21 = .pointer (some ⟨X, 0, none⟩)) ∧ (On l 14 → v22 = .pointer (some ⟨X, 2, none⟩)) ∧ (On l 15 → v23 = .slice (some ⟨AB, 0, none⟩) (M + 1) cap) ∧ (On l 16 → v24 = .int .i64 ((M : Int) + 1)) ∧ (On l 17 → v25 = .int .i64 (M : Int)) ∧ (On l 18 → v26 = .pointer (some ⟨AB, M * 3, none⟩)) ∧ (On l 19 → v27 = .agg #[.string p', .int .u8 (d' : Int), .pointer (some ⟨SB s', 0, none⟩)]) ∧ (On l 20 → v7 = .pointer (some ⟨w1.heap.size, 0, none⟩) ∧ w1.heap.size < w'.heap.size ∧ w'.there w1.heap.size 0 3) ∧ (On l 21 → v6 = .int .i64 (i0 : Int)) ∧ (On l 22 → On l 20 ∧ w'.rangeAt w1.heap.size 0 [.string p', .int .u8 (d' : Int), .pointer (some ⟨SB s', 0, none⟩)]) ∧ (¬ On l 20 → w'.heap.size = w1.heap.size))
    (by kernel_rfl) (by kernel_rfl) (fun l a w' h => h.1) ?first ?step ?last
  case first =>
    refine ⟨by simp, (Below.refl _ _).drew, undef, undef, undef, undef, undef, undef, undef, undef, undef, undef, undef, undef, undef, undef, undef, undef, undef, undef, undef, undef, undef, undef, rfl, fun h => (not_on h).elim, fun h => (not_on h).elim, fun h => (not_on h).elim, fun h => (not_on h).elim, fun h => (not_on h).elim, fun h => (not_on h).elim, fun h => (not_on h).elim, fun h => (not_on h).elim, fun h => (not_on h).elim, fun h => (not_on h).elim, fun h => (not_on h).elim, fun h => (not_on h).elim, fun h => (not_on h).elim, fun h => (not_on h).elim, fun h => (not_on h).elim, fun h => (not_on h).elim, fun h => (not_on h).elim, fun h => (not_on h).elim, fun h => (not_on h).elim, fun h => (not_on h).elim, fun h => (not_on h).elim, fun h => (not_on h).elim, fun h => (not_on h).elim, fun _ => rfl⟩
  case step =>
    rintro l a w' i o ⟨hs, hB, v6, v7, v8, v9, v10, v11, v12, v13, v14, v15, v16, v17, v18, v19, v20, v21, v22, v23, v24, v25, v26, v27, rfl, c0, c1, c2, c3, c4, c5, c6, c7, c8, c9, c10, c11, c12, c13, c14, c15, c16, c17, c18, c19, c20, c21, c22, cS⟩ ho hl hdep K hK
    rcases i with _ | _ | _ | _ | _ | _ | _ | _ | _ | _ | _ | _ | _ | _ | _ | _ | _ | _ | _ | _ | _ | _ | _ | i
    · obtain rfl := Option.some.inj ho
      go_simp
      refine hK _ _ ⟨by simp [hs], hB, _, _, _, _, _, _, _, _, _, _, _, _, _, _, _, _, _, _, _, _, _, _, rfl, fun _ => rfl, fun h => c1 (h.of_set (by decide)), fun h => c2 (h.of_set (by decide)), fun h => c3 (h.of_set (by decide)), fun h => c4 (h.of_set (by decide)), fun h => c5 (h.of_set (by decide)), fun h => c6 (h.of_set (by decide)), fun h => c7 (h.of_set (by decide)), fun h => c8 (h.of_set (by decide)), fun h => c9 (h.of_set (by decide)), fun h => c10 (h.of_set (by decide)), fun h => c11 (h.of_set (by decide)), fun h => c12 (h.of_set (by decide)), fun h => c13 (h.of_set (by decide)), fun h => c14 (h.of_set (by decide)), fun h => c15 (h.of_set (by decide)), fun h => c16 (h.of_set (by decide)), fun h => c17 (h.of_set (by decide)), fun h => c18 (h.of_set (by decide)), fun h => c19 (h.of_set (by decide)), fun h => c20 (h.of_set (by decide)), fun h => c21 (h.of_set (by decide)), fun h => ⟨(c22 (h.of_set (by decide))).1.set _, (c22 (h.of_set (by decide))).2⟩, fun h => cS (fun k => h (k.set _))⟩
    · obtain rfl := Option.some.inj ho
      have x0 := c0 (hdep ⟨0, .data⟩ (by simp) rfl)
      subst x0
      go_simp
      refine hK _ _ ⟨by simp [hs], hB, _, _, _, _, _, _, _, _, _, _, _, _, _, _, _, _, _, _, _, _, _, _, rfl, fun h => c0 (h.of_set (by decide)), fun _ => rfl, fun h => c2 (h.of_set (by decide)), fun h => c3 (h.of_set (by decide)), fun h => c4 (h.of_set (by decide)), fun h => c5 (h.of_set (by decide)), fun h => c6 (h.of_set (by decide)), fun h => c7 (h.of_set (by decide)), fun h => c8 (h.of_set (by decide)), fun h => c9 (h.of_set (by decide)), fun h => c10 (h.of_set (by decide)), fun h => c11 (h.of_set (by decide)), fun h => c12 (h.of_set (by decide)), fun h => c13 (h.of_set (by decide)), fun h => c14 (h.of_set (by decide)), fun h => c15 (h.of_set (by decide)), fun h => c16 (h.of_set (by decide)), fun h => c17 (h.of_set (by decide)), fun h => c18 (h.of_set (by decide)), fun h => c19 (h.of_set (by decide)), fun h => c20 (h.of_set (by decide)), fun h => c21 (h.of_set (by decide)), fun h => ⟨(c22 (h.of_set (by decide))).1.set _, (c22 (h.of_set (by decide))).2⟩, fun h => cS (fun k => h (k.set _))⟩
    · obtain rfl := Option.some.inj ho
      have x1 := c1 (hdep ⟨1, .data⟩ (by simp) rfl)
      subst x1
      go_simp
      refine hK _ _ ⟨by simp [hs], hB, _, _, _, _, _, _, _, _, _, _, _, _, _, _, _, _, _, _, _, _, _, _, rfl, fun h => c0 (h.of_set (by decide)), fun h => c1 (h.of_set (by decide)), fun _ => rfl, fun h => c3 (h.of_set (by decide)), fun h => c4 (h.of_set (by decide)), fun h => c5 (h.of_set (by decide)), fun h => c6 (h.of_set (by decide)), fun h => c7 (h.of_set (by decide)), fun h => c8 (h.of_set (by decide)), fun h => c9 (h.of_set (by decide)), fun h => c10 (h.of_set (by decide)), fun h => c11 (h.of_set (by decide)), fun h => c12 (h.of_set (by decide)), fun h => c13 (h.of_set (by decide)), fun h => c14 (h.of_set (by decide)), fun h => c15 (h.of_set (by decide)), fun h => c16 (h.of_set (by decide)), fun h => c17 (h.of_set (by decide)), fun h => c18 (h.of_set (by decide)), fun h => c19 (h.of_set (by decide)), fun h => c20 (h.of_set (by decide)), fun h => c21 (h.of_set (by decide)), fun h => ⟨(c22 (h.of_set (by decide))).1.set _, (c22 (h.of_set (by decide))).2⟩, fun h => cS (fun k => h (k.set _))⟩
    · obtain rfl := Option.some.inj ho
      have x2 := c2 (hdep ⟨2, .data⟩ (by simp) rfl)
      subst x2
      have y := (hB.cell (p := ⟨X, 0, none⟩) sX).trans g0
      go_simp
      refine hK _ _ ⟨by simp [hs], hB, _, _, _, _, _, _, _, _, _, _, _, _, _, _, _, _, _, _, _, _, _, _, rfl, fun h => c0 (h.of_set (by decide)), fun h => c1 (h.of_set (by decide)), fun h => c2 (h.of_set (by decide)), fun _ => rfl, fun h => c4 (h.of_set (by decide)), fun h => c5 (h.of_set (by decide)), fun h => c6 (h.of_set (by decide)), fun h => c7 (h.of_set (by decide)), fun h => c8 (h.of_set (by decide)), fun h => c9 (h.of_set (by decide)), fun h => c10 (h.of_set (by decide)), fun h => c11 (h.of_set (by decide)), fun h => c12 (h.of_set (by decide)), fun h => c13 (h.of_set (by decide)), fun h => c14 (h.of_set (by decide)), fun h => c15 (h.of_set (by decide)), fun h => c16 (h.of_set (by decide)), fun h => c17 (h.of_set (by decide)), fun h => c18 (h.of_set (by decide)), fun h => c19 (h.of_set (by decide)), fun h => c20 (h.of_set (by decide)), fun h => c21 (h.of_set (by decide)), fun h => ⟨(c22 (h.of_set (by decide))).1.set _, (c22 (h.of_set (by decide))).2⟩, fun h => cS (fun k => h (k.set _))⟩
    · obtain rfl := Option.some.inj ho
      have y := (hB.cell (p := ⟨KB, 0, none⟩) sKB).trans k0
      have y' := (hB.cell (p := ⟨KB, 1, none⟩) sKB).trans k1
      go_simp
      refine hK _ _ ⟨by simp [hs], hB, _, _, _, _, _, _, _, _, _, _, _, _, _, _, _, _, _, _, _, _, _, _, rfl, fun h => c0 (h.of_set (by decide)), fun h => c1 (h.of_set (by decide)), fun h => c2 (h.of_set (by decide)), fun h => c3 (h.of_set (by decide)), fun _ => rfl, fun h => c5 (h.of_set (by decide)), fun h => c6 (h.of_set (by decide)), fun h => c7 (h.of_set (by decide)), fun h => c8 (h.of_set (by decide)), fun h => c9 (h.of_set (by decide)), fun h => c10 (h.of_set (by decide)), fun h => c11 (h.of_set (by decide)), fun h => c12 (h.of_set (by decide)), fun h => c13 (h.of_set (by decide)), fun h => c14 (h.of_set (by decide)), fun h => c15 (h.of_set (by decide)), fun h => c16 (h.of_set (by decide)), fun h => c17 (h.of_set (by decide)), fun h => c18 (h.of_set (by decide)), fun h => c19 (h.of_set (by decide)), fun h => c20 (h.of_set (by decide)), fun h => c21 (h.of_set (by decide)), fun h => ⟨(c22 (h.of_set (by decide))).1.set _, (c22 (h.of_set (by decide))).2⟩, fun h => cS (fun k => h (k.set _))⟩
    · obtain rfl := Option.some.inj ho
      have x3 := c3 (hdep ⟨3, .data⟩ (by simp) rfl)
      subst x3
      have x4 := c4 (hdep ⟨4, .data⟩ (by simp) rfl)
      subst x4
      have y := HL5.out w' hB
      go_simp
      refine hK _ _ ⟨by simp [hs], hB, _, _, _, _, _, _, _, _, _, _, _, _, _, _, _, _, _, _, _, _, _, _, rfl, fun h => c0 (h.of_set (by decide)), fun h => c1 (h.of_set (by decide)), fun h => c2 (h.of_set (by decide)), fun h => c3 (h.of_set (by decide)), fun h => c4 (h.of_set (by decide)), fun _ => rfl, fun h => c6 (h.of_set (by decide)), fun h => c7 (h.of_set (by decide)), fun h => c8 (h.of_set (by decide)), fun h => c9 (h.of_set (by decide)), fun h => c10 (h.of_set (by decide)), fun h => c11 (h.of_set (by decide)), fun h => c12 (h.of_set (by decide)), fun h => c13 (h.of_set (by decide)), fun h => c14 (h.of_set (by decide)), fun h => c15 (h.of_set (by decide)), fun h => c16 (h.of_set (by decide)), fun h => c17 (h.of_set (by decide)), fun h => c18 (h.of_set (by decide)), fun h => c19 (h.of_set (by decide)), fun h => c20 (h.of_set (by decide)), fun h => c21 (h.of_set (by decide)), fun h => ⟨(c22 (h.of_set (by decide))).1.set _, (c22 (h.of_set (by decide))).2⟩, fun h => cS (fun k => h (k.set _))⟩
    · obtain rfl := Option.some.inj ho
      go_simp
      refine hK _ _ ⟨by simp [hs], hB, _, _, _, _, _, _, _, _, _, _, _, _, _, _, _, _, _, _, _, _, _, _, rfl, fun h => c0 (h.of_set (by decide)), fun h => c1 (h.of_set (by decide)), fun h => c2 (h.of_set (by decide)), fun h => c3 (h.of_set (by decide)), fun h => c4 (h.of_set (by decide)), fun h => c5 (h.of_set (by decide)), fun _ => rfl, fun h => c7 (h.of_set (by decide)), fun h => c8 (h.of_set (by decide)), fun h => c9 (h.of_set (by decide)), fun h => c10 (h.of_set (by decide)), fun h => c11 (h.of_set (by decide)), fun h => c12 (h.of_set (by decide)), fun h => c13 (h.of_set (by decide)), fun h => c14 (h.of_set (by decide)), fun h => c15 (h.of_set (by decide)), fun h => c16 (h.of_set (by decide)), fun h => c17 (h.of_set (by decide)), fun h => c18 (h.of_set (by decide)), fun h => c19 (h.of_set (by decide)), fun h => c20 (h.of_set (by decide)), fun h => c21 (h.of_set (by decide)), fun h => ⟨(c22 (h.of_set (by decide))).1.set _, (c22 (h.of_set (by decide))).2⟩, fun h => cS (fun k => h (k.set _))⟩
    · obtain rfl := Option.some.inj ho
      have x5 := c5 (hdep ⟨5, .data⟩ (by simp) rfl)
      subst x5
      have x6 := c6 (hdep ⟨6, .data⟩ (by simp) rfl)
      subst x6
      have y := HL7.out w' hB
      go_simp
      refine hK _ _ ⟨by simp [hs], hB, _, _, _, _, _, _, _, _, _, _, _, _, _, _, _, _, _, _, _, _, _, _, rfl, fun h => c0 (h.of_set (by decide)), fun h => c1 (h.of_set (by decide)), fun h => c2 (h.of_set (by decide)), fun h => c3 (h.of_set (by decide)), fun h => c4 (h.of_set (by decide)), fun h => c5 (h.of_set (by decide)), fun h => c6 (h.of_set (by decide)), fun _ => rfl, fun h => c8 (h.of_set (by decide)), fun h => c9 (h.of_set (by decide)), fun h => c10 (h.of_set (by decide)), fun h => c11 (h.of_set (by decide)), fun h => c12 (h.of_set (by decide)), fun h => c13 (h.of_set (by decide)), fun h => c14 (h.of_set (by decide)), fun h => c15 (h.of_set (by decide)), fun h => c16 (h.of_set (by decide)), fun h => c17 (h.of_set (by decide)), fun h => c18 (h.of_set (by decide)), fun h => c19 (h.of_set (by decide)), fun h => c20 (h.of_set (by decide)), fun h => c21 (h.of_set (by decide)), fun h => ⟨(c22 (h.of_set (by decide))).1.set _, (c22 (h.of_set (by decide))).2⟩, fun h => cS (fun k => h (k.set _))⟩
    · obtain rfl := Option.some.inj ho
      go_simp
      refine hK _ _ ⟨by simp [hs], hB, _, _, _, _, _, _, _, _, _, _, _, _, _, _, _, _, _, _, _, _, _, _, rfl, fun h => c0 (h.of_set (by decide)), fun h => c1 (h.of_set (by decide)), fun h => c2 (h.of_set (by decide)), fun h => c3 (h.of_set (by decide)), fun h => c4 (h.of_set (by decide)), fun h => c5 (h.of_set (by decide)), fun h => c6 (h.of_set (by decide)), fun h => c7 (h.of_set (by decide)), fun _ => rfl, fun h => c9 (h.of_set (by decide)), fun h => c10 (h.of_set (by decide)), fun h => c11 (h.of_set (by decide)), fun h => c12 (h.of_set (by decide)), fun h => c13 (h.of_set (by decide)), fun h => c14 (h.of_set (by decide)), fun h => c15 (h.of_set (by decide)), fun h => c16 (h.of_set (by decide)), fun h => c17 (h.of_set (by decide)), fun h => c18 (h.of_set (by decide)), fun h => c19 (h.of_set (by decide)), fun h => c20 (h.of_set (by decide)), fun h => c21 (h.of_set (by decide)), fun h => ⟨(c22 (h.of_set (by decide))).1.set _, (c22 (h.of_set (by decide))).2⟩, fun h => cS (fun k => h (k.set _))⟩
    · obtain rfl := Option.some.inj ho
      have x8 := c8 (hdep ⟨8, .data⟩ (by simp) rfl)
      subst x8
      go_simp
      refine hK _ _ ⟨by simp [hs], hB, _, _, _, _, _, _, _, _, _, _, _, _, _, _, _, _, _, _, _, _, _, _, rfl, fun h => c0 (h.of_set (by decide)), fun h => c1 (h.of_set (by decide)), fun h => c2 (h.of_set (by decide)), fun h => c3 (h.of_set (by decide)), fun h => c4 (h.of_set (by decide)), fun h => c5 (h.of_set (by decide)), fun h => c6 (h.of_set (by decide)), fun h => c7 (h.of_set (by decide)), fun h => c8 (h.of_set (by decide)), fun _ => rfl, fun h => c10 (h.of_set (by decide)), fun h => c11 (h.of_set (by decide)), fun h => c12 (h.of_set (by decide)), fun h => c13 (h.of_set (by decide)), fun h => c14 (h.of_set (by decide)), fun h => c15 (h.of_set (by decide)), fun h => c16 (h.of_set (by decide)), fun h => c17 (h.of_set (by decide)), fun h => c18 (h.of_set (by decide)), fun h => c19 (h.of_set (by decide)), fun h => c20 (h.of_set (by decide)), fun h => c21 (h.of_set (by decide)), fun h => ⟨(c22 (h.of_set (by decide))).1.set _, (c22 (h.of_set (by decide))).2⟩, fun h => cS (fun k => h (k.set _))⟩
    · obtain rfl := Option.some.inj ho
      have x9 := c9 (hdep ⟨9, .data⟩ (by simp) rfl)
      subst x9
      go_simp
      refine hK _ _ ⟨by simp [hs], hB, _, _, _, _, _, _, _, _, _, _, _, _, _, _, _, _, _, _, _, _, _, _, rfl, fun h => c0 (h.of_set (by decide)), fun h => c1 (h.of_set (by decide)), fun h => c2 (h.of_set (by decide)), fun h => c3 (h.of_set (by decide)), fun h => c4 (h.of_set (by decide)), fun h => c5 (h.of_set (by decide)), fun h => c6 (h.of_set (by decide)), fun h => c7 (h.of_set (by decide)), fun h => c8 (h.of_set (by decide)), fun h => c9 (h.of_set (by decide)), fun _ => rfl, fun h => c11 (h.of_set (by decide)), fun h => c12 (h.of_set (by decide)), fun h => c13 (h.of_set (by decide)), fun h => c14 (h.of_set (by decide)), fun h => c15 (h.of_set (by decide)), fun h => c16 (h.of_set (by decide)), fun h => c17 (h.of_set (by decide)), fun h => c18 (h.of_set (by decide)), fun h => c19 (h.of_set (by decide)), fun h => c20 (h.of_set (by decide)), fun h => c21 (h.of_set (by decide)), fun h => ⟨(c22 (h.of_set (by decide))).1.set _, (c22 (h.of_set (by decide))).2⟩, fun h => cS (fun k => h (k.set _))⟩
    · obtain rfl := Option.some.inj ho
      have x10 := c10 (hdep ⟨10, .data⟩ (by simp) rfl)
      subst x10
      have y := (hB.cell (p := ⟨X, 2, none⟩) sX).trans g2
      go_simp
      refine hK _ _ ⟨by simp [hs], hB, _, _, _, _, _, _, _, _, _, _, _, _, _, _, _, _, _, _, _, _, _, _, rfl, fun h => c0 (h.of_set (by decide)), fun h => c1 (h.of_set (by decide)), fun h => c2 (h.of_set (by decide)), fun h => c3 (h.of_set (by decide)), fun h => c4 (h.of_set (by decide)), fun h => c5 (h.of_set (by decide)), fun h => c6 (h.of_set (by decide)), fun h => c7 (h.of_set (by decide)), fun h => c8 (h.of_set (by decide)), fun h => c9 (h.of_set (by decide)), fun h => c10 (h.of_set (by decide)), fun _ => rfl, fun h => c12 (h.of_set (by decide)), fun h => c13 (h.of_set (by decide)), fun h => c14 (h.of_set (by decide)), fun h => c15 (h.of_set (by decide)), fun h => c16 (h.of_set (by decide)), fun h => c17 (h.of_set (by decide)), fun h => c18 (h.of_set (by decide)), fun h => c19 (h.of_set (by decide)), fun h => c20 (h.of_set (by decide)), fun h => c21 (h.of_set (by decide)), fun h => ⟨(c22 (h.of_set (by decide))).1.set _, (c22 (h.of_set (by decide))).2⟩, fun h => cS (fun k => h (k.set _))⟩
    · obtain rfl := Option.some.inj ho
      go_simp
      refine hK _ _ ⟨by simp [hs], hB, _, _, _, _, _, _, _, _, _, _, _, _, _, _, _, _, _, _, _, _, _, _, rfl, fun h => c0 (h.of_set (by decide)), fun h => c1 (h.of_set (by decide)), fun h => c2 (h.of_set (by decide)), fun h => c3 (h.of_set (by decide)), fun h => c4 (h.of_set (by decide)), fun h => c5 (h.of_set (by decide)), fun h => c6 (h.of_set (by decide)), fun h => c7 (h.of_set (by decide)), fun h => c8 (h.of_set (by decide)), fun h => c9 (h.of_set (by decide)), fun h => c10 (h.of_set (by decide)), fun h => c11 (h.of_set (by decide)), fun _ => rfl, fun h => c13 (h.of_set (by decide)), fun h => c14 (h.of_set (by decide)), fun h => c15 (h.of_set (by decide)), fun h => c16 (h.of_set (by decide)), fun h => c17 (h.of_set (by decide)), fun h => c18 (h.of_set (by decide)), fun h => c19 (h.of_set (by decide)), fun h => c20 (h.of_set (by decide)), fun h => c21 (h.of_set (by decide)), fun h => ⟨(c22 (h.of_set (by decide))).1.set _, (c22 (h.of_set (by decide))).2⟩, fun h => cS (fun k => h (k.set _))⟩
    · obtain rfl := Option.some.inj ho
      have x12 := c12 (hdep ⟨12, .data⟩ (by simp) rfl)
      subst x12
      go_simp
      refine hK _ _ ⟨by simp [hs], hB, _, _, _, _, _, _, _, _, _, _, _, _, _, _, _, _, _, _, _, _, _, _, rfl, fun h => c0 (h.of_set (by decide)), fun h => c1 (h.of_set (by decide)), fun h => c2 (h.of_set (by decide)), fun h => c3 (h.of_set (by decide)), fun h => c4 (h.of_set (by decide)), fun h => c5 (h.of_set (by decide)), fun h => c6 (h.of_set (by decide)), fun h => c7 (h.of_set (by decide)), fun h => c8 (h.of_set (by decide)), fun h => c9 (h.of_set (by decide)), fun h => c10 (h.of_set (by decide)), fun h => c11 (h.of_set (by decide)), fun h => c12 (h.of_set (by decide)), fun _ => rfl, fun h => c14 (h.of_set (by decide)), fun h => c15 (h.of_set (by decide)), fun h => c16 (h.of_set (by decide)), fun h => c17 (h.of_set (by decide)), fun h => c18 (h.of_set (by decide)), fun h => c19 (h.of_set (by decide)), fun h => c20 (h.of_set (by decide)), fun h => c21 (h.of_set (by decide)), fun h => ⟨(c22 (h.of_set (by decide))).1.set _, (c22 (h.of_set (by decide))).2⟩, fun h => cS (fun k => h (k.set _))⟩
    · obtain rfl := Option.some.inj ho
      have x13 := c13 (hdep ⟨13, .data⟩ (by simp) rfl)
      subst x13
      go_simp
      refine hK _ _ ⟨by simp [hs], hB, _, _, _, _, _, _, _, _, _, _, _, _, _, _, _, _, _, _, _, _, _, _, rfl, fun h => c0 (h.of_set (by decide)), fun h => c1 (h.of_set (by decide)), fun h => c2 (h.of_set (by decide)), fun h => c3 (h.of_set (by decide)), fun h => c4 (h.of_set (by decide)), fun h => c5 (h.of_set (by decide)), fun h => c6 (h.of_set (by decide)), fun h => c7 (h.of_set (by decide)), fun h => c8 (h.of_set (by decide)), fun h => c9 (h.of_set (by decide)), fun h => c10 (h.of_set (by decide)), fun h => c11 (h.of_set (by decide)), fun h => c12 (h.of_set (by decide)), fun h => c13 (h.of_set (by decide)), fun _ => rfl, fun h => c15 (h.of_set (by decide)), fun h => c16 (h.of_set (by decide)), fun h => c17 (h.of_set (by decide)), fun h => c18 (h.of_set (by decide)), fun h => c19 (h.of_set (by decide)), fun h => c20 (h.of_set (by decide)), fun h => c21 (h.of_set (by decide)), fun h => ⟨(c22 (h.of_set (by decide))).1.set _, (c22 (h.of_set (by decide))).2⟩, fun h => cS (fun k => h (k.set _))⟩
    · obtain rfl := Option.some.inj ho
      have x14 := c14 (hdep ⟨14, .data⟩ (by simp) rfl)
      subst x14
      have y := (hB.cell (p := ⟨X, 2, none⟩) sX).trans g2
      go_simp
      refine hK _ _ ⟨by simp [hs], hB, _, _, _, _, _, _, _, _, _, _, _, _, _, _, _, _, _, _, _, _, _, _, rfl, fun h => c0 (h.of_set (by decide)), fun h => c1 (h.of_set (by decide)), fun h => c2 (h.of_set (by decide)), fun h => c3 (h.of_set (by decide)), fun h => c4 (h.of_set (by decide)), fun h => c5 (h.of_set (by decide)), fun h => c6 (h.of_set (by decide)), fun h => c7 (h.of_set (by decide)), fun h => c8 (h.of_set (by decide)), fun h => c9 (h.of_set (by decide)), fun h => c10 (h.of_set (by decide)), fun h => c11 (h.of_set (by decide)), fun h => c12 (h.of_set (by decide)), fun h => c13 (h.of_set (by decide)), fun h => c14 (h.of_set (by decide)), fun _ => rfl, fun h => c16 (h.of_set (by decide)), fun h => c17 (h.of_set (by decide)), fun h => c18 (h.of_set (by decide)), fun h => c19 (h.of_set (by decide)), fun h => c20 (h.of_set (by decide)), fun h => c21 (h.of_set (by decide)), fun h => ⟨(c22 (h.of_set (by decide))).1.set _, (c22 (h.of_set (by decide))).2⟩, fun h => cS (fun k => h (k.set _))⟩
    · obtain rfl := Option.some.inj ho
      have x15 := c15 (hdep ⟨15, .data⟩ (by simp) rfl)
      subst x15
      go_simp
      refine hK _ _ ⟨by simp [hs], hB, _, _, _, _, _, _, _, _, _, _, _, _, _, _, _, _, _, _, _, _, _, _, rfl, fun h => c0 (h.of_set (by decide)), fun h => c1 (h.of_set (by decide)), fun h => c2 (h.of_set (by decide)), fun h => c3 (h.of_set (by decide)), fun h => c4 (h.of_set (by decide)), fun h => c5 (h.of_set (by decide)), fun h => c6 (h.of_set (by decide)), fun h => c7 (h.of_set (by decide)), fun h => c8 (h.of_set (by decide)), fun h => c9 (h.of_set (by decide)), fun h => c10 (h.of_set (by decide)), fun h => c11 (h.of_set (by decide)), fun h => c12 (h.of_set (by decide)), fun h => c13 (h.of_set (by decide)), fun h => c14 (h.of_set (by decide)), fun h => c15 (h.of_set (by decide)), fun _ => rfl, fun h => c17 (h.of_set (by decide)), fun h => c18 (h.of_set (by decide)), fun h => c19 (h.of_set (by decide)), fun h => c20 (h.of_set (by decide)), fun h => c21 (h.of_set (by decide)), fun h => ⟨(c22 (h.of_set (by decide))).1.set _, (c22 (h.of_set (by decide))).2⟩, fun h => cS (fun k => h (k.set _))⟩
    · obtain rfl := Option.some.inj ho
      have x16 := c16 (hdep ⟨16, .data⟩ (by simp) rfl)
      subst x16
      have y : IntKind.i64.wrap (M : Int) = M := by rw [IntKind.wrap_i64]; omega
      go_simp
      refine hK _ _ ⟨by simp [hs], hB, _, _, _, _, _, _, _, _, _, _, _, _, _, _, _, _, _, _, _, _, _, _, rfl, fun h => c0 (h.of_set (by decide)), fun h => c1 (h.of_set (by decide)), fun h => c2 (h.of_set (by decide)), fun h => c3 (h.of_set (by decide)), fun h => c4 (h.of_set (by decide)), fun h => c5 (h.of_set (by decide)), fun h => c6 (h.of_set (by decide)), fun h => c7 (h.of_set (by decide)), fun h => c8 (h.of_set (by decide)), fun h => c9 (h.of_set (by decide)), fun h => c10 (h.of_set (by decide)), fun h => c11 (h.of_set (by decide)), fun h => c12 (h.of_set (by decide)), fun h => c13 (h.of_set (by decide)), fun h => c14 (h.of_set (by decide)), fun h => c15 (h.of_set (by decide)), fun h => c16 (h.of_set (by decide)), fun _ => rfl, fun h => c18 (h.of_set (by decide)), fun h => c19 (h.of_set (by decide)), fun h => c20 (h.of_set (by decide)), fun h => c21 (h.of_set (by decide)), fun h => ⟨(c22 (h.of_set (by decide))).1.set _, (c22 (h.of_set (by decide))).2⟩, fun h => cS (fun k => h (k.set _))⟩
    · obtain rfl := Option.some.inj ho
      have x11 := c11 (hdep ⟨11, .data⟩ (by simp) rfl)
      subst x11
      have x17 := c17 (hdep ⟨17, .data⟩ (by simp) rfl)
      subst x17
      have y : (M : Int) < (M : Int) + 1 := by omega
      go_simp
      refine hK _ _ ⟨by simp [hs], hB, _, _, _, _, _, _, _, _, _, _, _, _, _, _, _, _, _, _, _, _, _, _, rfl, fun h => c0 (h.of_set (by decide)), fun h => c1 (h.of_set (by decide)), fun h => c2 (h.of_set (by decide)), fun h => c3 (h.of_set (by decide)), fun h => c4 (h.of_set (by decide)), fun h => c5 (h.of_set (by decide)), fun h => c6 (h.of_set (by decide)), fun h => c7 (h.of_set (by decide)), fun h => c8 (h.of_set (by decide)), fun h => c9 (h.of_set (by decide)), fun h => c10 (h.of_set (by decide)), fun h => c11 (h.of_set (by decide)), fun h => c12 (h.of_set (by decide)), fun h => c13 (h.of_set (by decide)), fun h => c14 (h.of_set (by decide)), fun h => c15 (h.of_set (by decide)), fun h => c16 (h.of_set (by decide)), fun h => c17 (h.of_set (by decide)), fun _ => rfl, fun h => c19 (h.of_set (by decide)), fun h => c20 (h.of_set (by decide)), fun h => c21 (h.of_set (by decide)), fun h => ⟨(c22 (h.of_set (by decide))).1.set _, (c22 (h.of_set (by decide))).2⟩, fun h => cS (fun k => h (k.set _))⟩
    · obtain rfl := Option.some.inj ho
      have x18 := c18 (hdep ⟨18, .data⟩ (by simp) rfl)
      subst x18
      have y := (hB.cell (p := ⟨AB, M * 3, none⟩) sAB).trans a0
      have y' := (hB.cell (p := ⟨AB, M * 3 + 1, none⟩) sAB).trans a1
      have y'' := (hB.cell (p := ⟨AB, M * 3 + 2, none⟩) sAB).trans a2
      go_simp
      refine hK _ _ ⟨by simp [hs], hB, _, _, _, _, _, _, _, _, _, _, _, _, _, _, _, _, _, _, _, _, _, _, rfl, fun h => c0 (h.of_set (by decide)), fun h => c1 (h.of_set (by decide)), fun h => c2 (h.of_set (by decide)), fun h => c3 (h.of_set (by decide)), fun h => c4 (h.of_set (by decide)), fun h => c5 (h.of_set (by decide)), fun h => c6 (h.of_set (by decide)), fun h => c7 (h.of_set (by decide)), fun h => c8 (h.of_set (by decide)), fun h => c9 (h.of_set (by decide)), fun h => c10 (h.of_set (by decide)), fun h => c11 (h.of_set (by decide)), fun h => c12 (h.of_set (by decide)), fun h => c13 (h.of_set (by decide)), fun h => c14 (h.of_set (by decide)), fun h => c15 (h.of_set (by decide)), fun h => c16 (h.of_set (by decide)), fun h => c17 (h.of_set (by decide)), fun h => c18 (h.of_set (by decide)), fun _ => rfl, fun h => c20 (h.of_set (by decide)), fun h => c21 (h.of_set (by decide)), fun h => ⟨(c22 (h.of_set (by decide))).1.set _, (c22 (h.of_set (by decide))).2⟩, fun h => cS (fun k => h (k.set _))⟩
    · obtain rfl := Option.some.inj ho
      have hsz := cS (fun k => off hl k)
      go_simp
      refine hK _ _ ⟨by simp [hs], hB.alloc (by omega) _, _, _, _, _, _, _, _, _, _, _, _, _, _, _, _, _, _, _, _, _, _, _, rfl, fun h => c0 (h.of_set (by decide)), fun h => c1 (h.of_set (by decide)), fun h => c2 (h.of_set (by decide)), fun h => c3 (h.of_set (by decide)), fun h => c4 (h.of_set (by decide)), fun h => c5 (h.of_set (by decide)), fun h => c6 (h.of_set (by decide)), fun h => c7 (h.of_set (by decide)), fun h => c8 (h.of_set (by decide)), fun h => c9 (h.of_set (by decide)), fun h => c10 (h.of_set (by decide)), fun h => c11 (h.of_set (by decide)), fun h => c12 (h.of_set (by decide)), fun h => c13 (h.of_set (by decide)), fun h => c14 (h.of_set (by decide)), fun h => c15 (h.of_set (by decide)), fun h => c16 (h.of_set (by decide)), fun h => c17 (h.of_set (by decide)), fun h => c18 (h.of_set (by decide)), fun h => c19 (h.of_set (by decide)), fun _ => ⟨rfl, by simp; omega, there70 hsz⟩, fun h => c21 (h.of_set (by decide)), fun h => (off hl (c22 (h.of_set (by decide))).1).elim, fun h => (h (on_set (by omega))).elim⟩
    · obtain rfl := Option.some.inj ho
      have x7 := c7 (hdep ⟨7, .data⟩ (by simp) rfl)
      subst x7
      go_simp
      refine hK _ _ ⟨by simp [hs], hB, _, _, _, _, _, _, _, _, _, _, _, _, _, _, _, _, _, _, _, _, _, _, rfl, fun h => c0 (h.of_set (by decide)), fun h => c1 (h.of_set (by decide)), fun h => c2 (h.of_set (by decide)), fun h => c3 (h.of_set (by decide)), fun h => c4 (h.of_set (by decide)), fun h => c5 (h.of_set (by decide)), fun h => c6 (h.of_set (by decide)), fun h => c7 (h.of_set (by decide)), fun h => c8 (h.of_set (by decide)), fun h => c9 (h.of_set (by decide)), fun h => c10 (h.of_set (by decide)), fun h => c11 (h.of_set (by decide)), fun h => c12 (h.of_set (by decide)), fun h => c13 (h.of_set (by decide)), fun h => c14 (h.of_set (by decide)), fun h => c15 (h.of_set (by decide)), fun h => c16 (h.of_set (by decide)), fun h => c17 (h.of_set (by decide)), fun h => c18 (h.of_set (by decide)), fun h => c19 (h.of_set (by decide)), fun h => c20 (h.of_set (by decide)), fun _ => rfl, fun h => ⟨(c22 (h.of_set (by decide))).1.set _, (c22 (h.of_set (by decide))).2⟩, fun h => cS (fun k => h (k.set _))⟩
    · obtain rfl := Option.some.inj ho
      have h20 : On l 20 := hdep ⟨20, .data⟩ (by simp) rfl
      obtain ⟨x20, hlt, th⟩ := c20 h20
      subst x20
      have x19 := c19 (hdep ⟨19, .data⟩ (by simp) rfl)
      subst x19
      rw [if_pos (by rfl)]
      refine wp_store_mid 70 (.tmp 7) (.tmp 27) rfl w1.heap.size 0 #[.string p', .int .u8 (d' : Int), .pointer (some ⟨SB s', 0, none⟩)] rfl rfl (fun j hj => th j (by simpa using hj)) (by kernel_rfl) (by simp [Value.oneCell']) ?_
      refine hK _ _ ⟨by simp [hs], sets_below hB (Nat.le_refl _) _ _, _, _, _, _, _, _, _, _, _, _, _, _, _, _, _, _, _, _, _, _, _, _, rfl, fun h => c0 (h.of_set (by decide)), fun h => c1 (h.of_set (by decide)), fun h => c2 (h.of_set (by decide)), fun h => c3 (h.of_set (by decide)), fun h => c4 (h.of_set (by decide)), fun h => c5 (h.of_set (by decide)), fun h => c6 (h.of_set (by decide)), fun h => c7 (h.of_set (by decide)), fun h => c8 (h.of_set (by decide)), fun h => c9 (h.of_set (by decide)), fun h => c10 (h.of_set (by decide)), fun h => c11 (h.of_set (by decide)), fun h => c12 (h.of_set (by decide)), fun h => c13 (h.of_set (by decide)), fun h => c14 (h.of_set (by decide)), fun h => c15 (h.of_set (by decide)), fun h => c16 (h.of_set (by decide)), fun h => c17 (h.of_set (by decide)), fun h => c18 (h.of_set (by decide)), fun h => c19 (h.of_set (by decide)), fun _ => ⟨rfl, by rw [sets_size]; exact hlt, there_sets th _ _ _⟩, fun h => c21 (h.of_set (by decide)), fun _ => ⟨h20.set _, World.rangeAt_setCells_same _ _ _ _ (fun j hj => th j (by simpa using hj))⟩, fun h => (h (h20.set _)).elim⟩
    · simp at ho
  case last =>
    rintro l a w2 ⟨hs, hB, v6, v7, v8, v9, v10, v11, v12, v13, v14, v15, v16, v17, v18, v19, v20, v21, v22, v23, v24, v25, v26, v27, rfl, c0, c1, c2, c3, c4, c5, c6, c7, c8, c9, c10, c11, c12, c13, c14, c15, c16, c17, c18, c19, c20, c21, c22, cS⟩ hall
    have x0 := c0 (hall 0 (by decide))
    subst x0
    have x1 := c1 (hall 1 (by decide))
    subst x1
    have x2 := c2 (hall 2 (by decide))
    subst x2
    have x3 := c3 (hall 3 (by decide))
    subst x3
    have x4 := c4 (hall 4 (by decide))
    subst x4
    have x5 := c5 (hall 5 (by decide))
    subst x5
    have x6 := c6 (hall 6 (by decide))
    subst x6
    have x7 := c7 (hall 7 (by decide))
    subst x7
    have x8 := c8 (hall 8 (by decide))
    subst x8
    have x9 := c9 (hall 9 (by decide))
    subst x9
    have x10 := c10 (hall 10 (by decide))
    subst x10
    have x11 := c11 (hall 11 (by decide))
    subst x11
    have x12 := c12 (hall 12 (by decide))
    subst x12
    have x13 := c13 (hall 13 (by decide))
    subst x13
    have x14 := c14 (hall 14 (by decide))
    subst x14
    have x15 := c15 (hall 15 (by decide))
    subst x15
    have x16 := c16 (hall 16 (by decide))
    subst x16
    have x17 := c17 (hall 17 (by decide))
    subst x17
    have x18 := c18 (hall 18 (by decide))
    subst x18
    have x19 := c19 (hall 19 (by decide))
    subst x19
    have x21 := c21 (hall 21 (by decide))
    subst x21
    obtain ⟨x20, hlt, hth⟩ := c20 (hall 20 (by decide))
    subst x20
    obtain ⟨hon, hrg⟩ := c22 (hall 22 (by decide))
    clear c0 c1 c2 c3 c4 c5 c6 c7 c8 c9 c10 c11 c12 c13 c14 c15 c16 c17 c18 c19 c20 c21 c22 cS hall hs hon hth
    rename_i K hK
    refine hK _ _ ?_
    clear hK K
    dsimp only
    have T2 : Hid (Tbl w2 b1 b2 X BK BS AB SB IK JS ρ A (M + 1)) := T1.out.below hB
    have S2 : Hid (Sess w2 SB) := S1.out.below hB
    have I2 : Hid (RM.IsMap (kvS SB) w2 (IK (p, d)) lI cI) := (hB.block _ (IsMap.lt I1.out)).trans I1.out
    have B2 : Hid (Below w.heap.size w w2) := B1.out.trans (hB.mono B1.out.size)
    have l0 := hrg 0 (.string p') rfl
    have l1 := hrg 1 (.int .u8 (d' : Int)) rfl
    have l2 := hrg 2 (.pointer (some ⟨SB s', 0, none⟩)) rfl
    replace g0 := (hB.cell (p := ⟨X, 0, none⟩) sX).trans g0
    replace g2 := (hB.cell (p := ⟨X, 2, none⟩) sX).trans g2
    replace k0 := (hB.cell (p := ⟨KB, 0, none⟩) sKB).trans k0
    replace k1 := (hB.cell (p := ⟨KB, 1, none⟩) sKB).trans k1
    have NE : Hid (w1.heap.size ≠ AB ∧ w1.heap.size ≠ X ∧ KB ≠ AB ∧ KB ≠ X ∧ w.heap.size ≤ KB ∧ w.heap.size ≤ w1.heap.size) := ⟨by omega, by omega, by have := hKB.out; have := World.block_lt_of_cell? _ _ (HT.out.ce M (by omega)).1; simp at this; omega, by have := hKB.out; have := World.block_lt_of_cell? _ _ HT.out.c0; simp at this; omega, by have := hKB.out; omega, B1.out.size⟩
    generalize w1.heap.size = LB at l0 l1 l2 hlt NE ⊢
    clear hB hrg T1 S1 I1 HL5 HL7 B1 a0 a1 a2 sX sAB sKB
    clear w1
    have sX : X < w2.heap.size := World.block_lt_of_cell? _ _ g0
    -- all[i] = last
    obtain ⟨u0, u1, u2⟩ := T2.out.ce i0 hi
    have v0 := T2.out.fA (i0 * 3) (by omega)
    have v1 := T2.out.fA (i0 * 3 + 1) (by omega)
    have v2 := T2.out.fA (i0 * 3 + 2) (by omega)
    have hi' : (i0 : Int) < (M : Int) + 1 := by omega
    refine wp_seq_k (fun K hK => ?_)
    refine wp_region_last (l := [_, _, _, _, _, _, _]) (o := _) rfl (by kernel_rfl) (by kernel_rfl) (by kernel_rfl) (by kernel_rfl) (by kernel_rfl) ?_
    repeat (go_big_quiet_step (fail))
    refine wpQuiet_nil ?_
    rintro _ ⟨nq, rfl⟩
    go_simp
    refine hK _ _ ?_
    clear hK K
    have C3 : Hid (Ce ((((w2.drewN nq).setCell ⟨AB, i0 * 3, none⟩ (.string p')).setCell ⟨AB, i0 * 3 + 1, none⟩ (.int .u8 (d' : Int))).setCell ⟨AB, i0 * 3 + 2, none⟩ (.pointer (some ⟨SB s', 0, none⟩))) AB SB (drop A (M + 1) i0) (M + 1)) := by
      have := Ce.put (w := w2.drewN nq) (AB := AB) (SB := SB) (A := A) (N := M + 1) (fun i hi => T2.out.ce i hi) hi p' d' s'
      have e : drop A (M + 1) i0 = fun j => if j = i0 then ((p', d'), s') else A j := by
        funext j
        unfold drop
        rw [show M + 1 - 1 = M from rfl, hlst.out]
      rw [e]
      exact this
    have F3 : Hid (∀ j, j ≠ AB → ((((w2.drewN nq).setCell ⟨AB, i0 * 3, none⟩ (.string p')).setCell ⟨AB, i0 * 3 + 1, none⟩ (.int .u8 (d' : Int))).setCell ⟨AB, i0 * 3 + 2, none⟩ (.pointer (some ⟨SB s', 0, none⟩))).heap[j]? = w2.heap[j]?) := fun j hj => (Below.heap_setCell _ _ _ _ hj).trans ((Below.heap_setCell _ _ _ _ hj).trans (Below.heap_setCell _ _ _ _ hj))
    have R3 : Hid (Ring b1 b2 w2 ((((w2.drewN nq).setCell ⟨AB, i0 * 3, none⟩ (.string p')).setCell ⟨AB, i0 * 3 + 1, none⟩ (.int .u8 (d' : Int))).setCell ⟨AB, i0 * 3 + 2, none⟩ (.pointer (some ⟨SB s', 0, none⟩)))) := ((((Ring.refl _ _ _).drewN nq).setCell _ _ (T2.out.zA (by omega))).setCell _ _ (T2.out.zA (by omega))).setCell _ _ (T2.out.zA (by omega))
    have Z3 : Hid (∀ j, ((((w2.drewN nq).setCell ⟨AB, i0 * 3, none⟩ (.string p')).setCell ⟨AB, i0 * 3 + 1, none⟩ (.int .u8 (d' : Int))).setCell ⟨AB, i0 * 3 + 2, none⟩ (.pointer (some ⟨SB s', 0, none⟩))).frozen? ⟨AB, j, none⟩ = false) := fun j => by simpa using T2.out.fA j (by omega)
    generalize (((w2.drewN nq).setCell ⟨AB, i0 * 3, none⟩ (.string p')).setCell ⟨AB, i0 * 3 + 1, none⟩ (.int .u8 (d' : Int))).setCell ⟨AB, i0 * 3 + 2, none⟩ (.pointer (some ⟨SB s', 0, none⟩)) = w3 at C3 F3 R3 Z3 ⊢
    clear u0 u1 u2 v0 v1 v2
    replace g0 := (cellB (F3.out X T2.out.XA) (0)).trans g0
    replace g2 := (cellB (F3.out X T2.out.XA) (2)).trans g2
    replace k0 := (cellB (F3.out KB NE.out.2.2.1) (0)).trans k0
    replace k1 := (cellB (F3.out KB NE.out.2.2.1) (1)).trans k1
    replace l0 := (cellB (F3.out LB NE.out.1) (0)).trans l0
    replace l1 := (cellB (F3.out LB NE.out.1) (0 + 1)).trans l1
    replace l2 := (cellB (F3.out LB NE.out.1) (0 + 2)).trans l2
    have S3 : Hid (Sess w3 SB) := S2.out.same fun i => F3.out _ (hSB i).2
    -- byKey[last.key][last.sess] = i
    obtain ⟨lK, cK, mK, sK⟩ := T2.out.mK
    have MK : Hid (RM.IsMap kvK w3 BK lK cK ∧ KSpec A (M + 1) IK lK) := ⟨(F3.out BK (map_ne mK (T2.out.ce M (by omega)).1)).trans mK, sK⟩
    obtain ⟨lL, cL, mL, sL, stL⟩ := T2.out.mI M (by omega)
    rw [hlst.out] at mL sL
    have ML : Hid (RM.IsMap (kvS SB) w3 (IK (p', d')) lL cL ∧ ISpec A (M + 1) (p', d') lL ∧ RM.Stamps lL cL) := ⟨(F3.out _ (map_ne mL (T2.out.ce M (by omega)).1)).trans mL, sL, stL⟩
    have L3 : ∀ n, (Instr.lookup 64 (.map (some BK)) (.agg #[.string p', .int .u8 (d' : Int)]) false).run Ybad.prog (w3.drewN n) = .ok (.map (some (IK (p', d')))) (w3.drewN n) := fun n => by
      have := RM.run_lookup Ybad.underlying64 (watchKeys (w3.drewN n)) (w := w3.drewN n) MK.out.1 (zero63 _) (p', d')
      rw [(MK.out.2.2 (p', d') _).2 ⟨⟨M, by omega, by rw [hlst.out]⟩, rfl⟩] at this
      exact this
    have U3 : ∀ n, (Instr.mapUpdate 63 (.map (some (IK (p', d')))) (.pointer (some ⟨SB s', 0, none⟩)) (.int .i64 (i0 : Int))).run Ybad.prog (w3.drewN n) = .ok () (setBlock (w3.drewN n) (IK (p', d')) (.map ((RM.ins lL s' (.int .i64 (i0 : Int)) cL).map (RM.Ent.raw (kvS SB))).toArray (RM.insC lL s' cL))) := fun n =>
      RM.run_update Ybad.underlying63 (sessKeys (w := w3.drewN n) ⟨S3.out.blk, S3.out.inj⟩) (w := w3.drewN n) ML.out.1 s' _
    clear mK sK mL sL stL
    refine wp_seq_k (fun K hK => ?_)
    refine wp_region_last (l := [_, _, _, _, _, _, _, _, _, _]) (o := _) rfl (by kernel_rfl) (by kernel_rfl) (by kernel_rfl) (by kernel_rfl) (by kernel_rfl) ?_
    repeat (go_big_quiet_step (fail))
    refine wpQuiet_nil ?_
    rintro _ ⟨nq, rfl⟩
    go_simp
    refine hK _ _ ?_
    clear hK K
    have gs' : RM.get lL s' = some (.int .i64 (M : Int)) := (ML.out.2.1.2 s' _).2 ⟨M, by omega, hlst.out, rfl⟩
    have hins : RM.insC lL s' cL = cL := insC_some gs'
    rw [hins]
    have M4 : Hid (RM.IsMap (kvS SB) (setBlock (w3.drewN nq) (IK (p', d')) (.map ((RM.ins lL s' (.int .i64 (i0 : Int)) cL).map (RM.Ent.raw (kvS SB))).toArray cL)) (IK (p', d')) (RM.ins lL s' (.int .i64 (i0 : Int)) cL) cL) := RM.isMap_set (w := w3.drewN nq) ML.out.1
    have F4 : Hid (∀ j, j ≠ IK (p', d') → (setBlock (w3.drewN nq) (IK (p', d')) (.map ((RM.ins lL s' (.int .i64 (i0 : Int)) cL).map (RM.Ent.raw (kvS SB))).toArray cL)).heap[j]? = w3.heap[j]?) := fun j hj => RM.heap_set_other _ hj
    have R4 : Hid (Ring b1 b2 w2 (setBlock (w3.drewN nq) (IK (p', d')) (.map ((RM.ins lL s' (.int .i64 (i0 : Int)) cL).map (RM.Ent.raw (kvS SB))).toArray cL))) := (R3.out.drewN nq).setBlock _ _ (by have := T2.out.zI M (by omega); rw [hlst.out] at this; exact this)
    generalize setBlock (w3.drewN nq) (IK (p', d')) (.map ((RM.ins lL s' (.int .i64 (i0 : Int)) cL).map (RM.Ent.raw (kvS SB))).toArray cL) = w4 at M4 F4 R4 ⊢
    clear L3 U3
    have XL : Hid (X ≠ IK (p', d') ∧ AB ≠ IK (p', d') ∧ KB ≠ IK (p', d') ∧ LB ≠ IK (p', d') ∧ BK ≠ IK (p', d')) := ⟨Ne.symm (map_ne ML.out.1 g0), Ne.symm (map_ne ML.out.1 (C3.out M (by omega)).1), Ne.symm (map_ne ML.out.1 k0), Ne.symm (map_ne ML.out.1 l0), fun e => by have a := T2.out.rI M (by omega); rw [hlst.out, ← e, T2.out.rK] at a; cases a⟩
    replace g0 := (cellB (F4.out X XL.out.1) 0).trans g0
    replace g2 := (cellB (F4.out X XL.out.1) 2).trans g2
    replace k0 := (cellB (F4.out KB XL.out.2.2.1) 0).trans k0
    replace k1 := (cellB (F4.out KB XL.out.2.2.1) 1).trans k1
    have C4 : Hid (Ce w4 AB SB (drop A (M + 1) i0) (M + 1)) := C3.out.block (F4.out AB XL.out.2.1)
    have Z4 : Hid (∀ j, w4.frozen? ⟨AB, j, none⟩ = false) := fun j => (World.frozen?_of_block (w := w3) (a := ⟨AB, j, none⟩) (F4.out AB XL.out.2.1)).trans (Z3.out j)
    have S4 : Hid (Sess w4 SB) := S3.out.same fun i => F4.out _ (S3.out.ne_map ML.out.1 i)
    clear l0 l1 l2
    -- all[len-1] = watch{}
    obtain ⟨u0, u1, u2⟩ := C4.out M (by omega)
    have v0 := Z4.out (M * 3)
    have v1 := Z4.out (M * 3 + 1)
    have v2 := Z4.out (M * 3 + 2)
    refine wp_seq_k (fun K hK => ?_)
    refine wp_region_last (l := [_, _, _, _, _, _, _, _, _, _, _, _]) (o := _) rfl (by kernel_rfl) (by kernel_rfl) (by kernel_rfl) (by kernel_rfl) (by kernel_rfl) ?_
    repeat (go_big_quiet_step (fail))
    refine wpQuiet_nil ?_
    rintro _ ⟨nq, rfl⟩
    go_simp
    refine hK _ _ ?_
    clear hK K
    have C5 : Hid (Ce ((((w4.drewN nq).setCell ⟨AB, M * 3, none⟩ (.string ⟨#[]⟩)).setCell ⟨AB, M * 3 + 1, none⟩ (.int .u8 0)).setCell ⟨AB, M * 3 + 2, none⟩ (.pointer none)) AB SB (drop A (M + 1) i0) M) := by
      have c4 : Ce (w4.drewN nq) AB SB (drop A (M + 1) i0) M := C4.out.less (by omega)
      exact ((c4.past _ (Nat.le_refl _) _).past _ (by omega) _).past _ (by omega) _
    have F5 : Hid (∀ j, j ≠ AB → ((((w4.drewN nq).setCell ⟨AB, M * 3, none⟩ (.string ⟨#[]⟩)).setCell ⟨AB, M * 3 + 1, none⟩ (.int .u8 0)).setCell ⟨AB, M * 3 + 2, none⟩ (.pointer none)).heap[j]? = w4.heap[j]?) := fun j hj => (Below.heap_setCell _ _ _ _ hj).trans ((Below.heap_setCell _ _ _ _ hj).trans (Below.heap_setCell _ _ _ _ hj))
    have R5 : Hid (Ring b1 b2 w2 ((((w4.drewN nq).setCell ⟨AB, M * 3, none⟩ (.string ⟨#[]⟩)).setCell ⟨AB, M * 3 + 1, none⟩ (.int .u8 0)).setCell ⟨AB, M * 3 + 2, none⟩ (.pointer none))) := (((R4.out.drewN nq).setCell _ _ (T2.out.zA (by omega))).setCell _ _ (T2.out.zA (by omega))).setCell _ _ (T2.out.zA (by omega))
    have Z5 : Hid (∀ j, ((((w4.drewN nq).setCell ⟨AB, M * 3, none⟩ (.string ⟨#[]⟩)).setCell ⟨AB, M * 3 + 1, none⟩ (.int .u8 0)).setCell ⟨AB, M * 3 + 2, none⟩ (.pointer none)).frozen? ⟨AB, j, none⟩ = false) := fun j => by simpa using Z4.out j
    generalize (((w4.drewN nq).setCell ⟨AB, M * 3, none⟩ (.string ⟨#[]⟩)).setCell ⟨AB, M * 3 + 1, none⟩ (.int .u8 0)).setCell ⟨AB, M * 3 + 2, none⟩ (.pointer none) = w5 at C5 F5 R5 Z5 ⊢
    clear u0 u1 u2 v0 v1 v2
    replace g0 := (cellB (F5.out X T2.out.XA) 0).trans g0
    replace g2 := (cellB (F5.out X T2.out.XA) 2).trans g2
    replace k0 := (cellB (F5.out KB NE.out.2.2.1) 0).trans k0
    replace k1 := (cellB (F5.out KB NE.out.2.2.1) 1).trans k1
    have fX5 : w5.frozen? ⟨X, 2, none⟩ = false := (World.frozen?_of_block (w := w4) (a := ⟨X, 2, none⟩) (F5.out X T2.out.XA)).trans ((World.frozen?_of_block (w := w3) (a := ⟨X, 2, none⟩) (F4.out X XL.out.1)).trans ((World.frozen?_of_block (w := w2) (a := ⟨X, 2, none⟩) (F3.out X T2.out.XA)).trans T2.out.fX))
    -- all = all[:len-1]
    have hcap' : (M : Int) ≤ cap := by omega
    refine wp_seq_k (fun K hK => ?_)
    refine wp_region_last (l := [_, _, _, _, _, _, _, _, _, _, _, _, _, _]) (o := _) rfl (by kernel_rfl) (by kernel_rfl) (by kernel_rfl) (by kernel_rfl) (by kernel_rfl) ?_
    repeat (go_big_quiet_step (fail))
    refine wpQuiet_nil ?_
    rintro _ ⟨nq, rfl⟩
    go_simp
    refine hK _ _ ?_
    clear hK K
    have F6 : Hid (∀ j, j ≠ X → ((w5.drewN nq).setCell ⟨X, 2, none⟩ (.slice (some ⟨AB, 0, none⟩) M cap)).heap[j]? = w5.heap[j]?) := fun j hj => Below.heap_setCell _ _ _ _ hj
    have R6 : Hid (Ring b1 b2 w2 ((w5.drewN nq).setCell ⟨X, 2, none⟩ (.slice (some ⟨AB, 0, none⟩) M cap))) := (R5.out.drewN nq).setCell _ _ T2.out.zX
    have g1 : w5.cell? ⟨X, 1, none⟩ = some (.map (some BS)) := (cellB (F5.out X T2.out.XA) 1).trans ((cellB (F4.out X XL.out.1) 1).trans ((cellB (F3.out X T2.out.XA) 1).trans T2.out.c1))
    replace g0 := (World.cell?_setCell_other (w5.drewN nq) ⟨X, 2, none⟩ ⟨X, 0, none⟩ (.slice (some ⟨AB, 0, none⟩) M cap) (by intro h; injection h; omega)).trans g0
    replace g1 := (World.cell?_setCell_other (w5.drewN nq) ⟨X, 2, none⟩ ⟨X, 1, none⟩ (.slice (some ⟨AB, 0, none⟩) M cap) (by intro h; injection h; omega)).trans g1
    replace g2 := World.cell?_setCell_same (w5.drewN nq) ⟨X, 2, none⟩ (.slice (some ⟨AB, 0, none⟩) M cap) g2
    have fX : ((w5.drewN nq).setCell ⟨X, 2, none⟩ (.slice (some ⟨AB, 0, none⟩) M cap)).frozen? ⟨X, 2, none⟩ = false := by simpa using fX5
    generalize (w5.drewN nq).setCell ⟨X, 2, none⟩ (.slice (some ⟨AB, 0, none⟩) M cap) = w6 at F6 R6 g0 g1 g2 fX ⊢
    replace k0 := (cellB (F6.out KB NE.out.2.2.2.1) 0).trans k0
    replace k1 := (cellB (F6.out KB NE.out.2.2.2.1) 1).trans k1
    have C6 : Hid (Ce w6 AB SB (drop A (M + 1) i0) M) := C5.out.block (F6.out AB T2.out.XA.symm)
    have Z6 : Hid (∀ j, w6.frozen? ⟨AB, j, none⟩ = false) := fun j => (World.frozen?_of_block (w := w5) (a := ⟨AB, j, none⟩) (F6.out AB T2.out.XA.symm)).trans (Z5.out j)
    have S6 : Hid (Sess w6 SB) := S4.out.same fun i => (F6.out _ (hSB i).1).trans (F5.out _ (hSB i).2)
    -- the blocks that have not turned
    have FF : Hid (∀ j, j ≠ AB → j ≠ X → j ≠ IK (p', d') → w6.heap[j]? = w2.heap[j]?) := fun j h1 h2 h3 => (F6.out j h2).trans ((F5.out j h1).trans ((F4.out j h3).trans (F3.out j h1)))
    have BKn : Hid (BK ≠ AB ∧ BK ≠ X ∧ BK ≠ IK (p', d')) := by
      obtain ⟨l, c, hm, _⟩ := T2.out.mK
      exact ⟨map_ne hm (T2.out.ce M (by omega)).1, map_ne hm T2.out.c0, XL.out.2.2.2.2⟩
    have MK6 : Hid (RM.IsMap kvK w6 BK lK cK) := (F6.out BK BKn.out.2.1).trans ((F5.out BK BKn.out.1).trans ((F4.out BK BKn.out.2.2).trans MK.out.1))
    obtain ⟨lN, HN⟩ : ∃ lN, Hid (RM.IsMap (kvS SB) w6 (IK (p, d)) lN cI ∧ ISpec (drop A (M + 1) i0) M (p, d) (RM.del lN s) ∧ RM.Stamps lN cI ∧ ∀ e ∈ lN, ∃ e' ∈ lI, e'.k = e.k ∧ e'.n = e.n) := by
      have n1 : IK (p, d) ≠ AB := map_ne I2.out (T2.out.ce M (by omega)).1
      have n2 : IK (p, d) ≠ X := map_ne I2.out T2.out.c0
      by_cases hk : (p, d) = (p', d')
      · obtain ⟨rfl, rfl⟩ := Prod.mk.inj hk
        obtain ⟨e1, e2⟩ := isMap_inj S3.out.inj ((F3.out _ n1).trans I2.out) ML.out.1
        subst e1 e2
        refine ⟨_, (F6.out _ n2).trans ((F5.out _ n1).trans M4.out), ?_, ?_, fun e he => mem_ins gs' he⟩
        · have := HIS.out.1.both (i0 := i0) (c := cI) T2.out.inj hi (by rw [HA.out]) (by show _ = (A M).1; rw [hlst.out])
          rw [HA.out, show M + 1 - 1 = M from rfl, hlst.out] at this
          exact this
        · have := RM.stamps_ins HIS.out.2 s' (.int .i64 (i0 : Int))
          rwa [hins] at this
      · have n3 : IK (p, d) ≠ IK (p', d') := fun e => by
          have x := T2.out.rI i0 hi
          have y := T2.out.rI M (by omega)
          rw [HA.out] at x
          rw [hlst.out] at y
          rw [e, y] at x
          injection x with x
          exact hk x.symm
        refine ⟨lI, (FF.out _ n1 n2 n3).trans I2.out, ?_, HIS.out.2, fun e he => ⟨e, he, rfl, rfl⟩⟩
        have := HIS.out.1.taken (i0 := i0) T2.out.inj hi (by rw [HA.out]) (by show _ ≠ (A M).1; rw [hlst.out]; exact hk)
        rw [HA.out] at this
        exact this
    -- delete(byKey[k], sess)
    have L6 : ∀ n, (Instr.lookup 64 (.map (some BK)) (.agg #[.string p, .int .u8 (d : Int)]) false).run Ybad.prog (w6.drewN n) = .ok (.map (some (IK (p, d)))) (w6.drewN n) := fun n => by
      have := RM.run_lookup Ybad.underlying64 (watchKeys (w6.drewN n)) (w := w6.drewN n) MK6.out (zero63 _) (p, d)
      rw [(MK.out.2.2 (p, d) _).2 ⟨⟨i0, hi, by rw [HA.out]⟩, rfl⟩] at this
      exact this
    have D6 : ∀ n, (Builtin.delete_ #[63, 25] 0 #[.map (some (IK (p, d))), .pointer (some ⟨SB s, 0, none⟩)]).run Ybad.prog (w6.drewN n) = .ok (.tuple #[]) (setBlock (w6.drewN n) (IK (p, d)) (.map ((RM.del lN s).map (RM.Ent.raw (kvS SB))).toArray cI)) := fun n =>
      RM.run_delete Ybad.underlying63 (sessKeys (w := w6.drewN n) ⟨S6.out.blk, S6.out.inj⟩) (w := w6.drewN n) HN.out.1 s 0 25
    refine wp_seq_k (fun K hK => ?_)
    refine wp_region_last (l := [_, _, _, _, _, _, _]) (o := _) rfl (by kernel_rfl) (by kernel_rfl) (by kernel_rfl) (by kernel_rfl) (by kernel_rfl) ?_
    repeat (go_big_quiet_step (fail))
    refine wpQuiet_nil ?_
    rintro _ ⟨nq, rfl⟩
    go_simp
    refine hK _ _ ?_
    clear hK K
    have M7 : Hid (RM.IsMap (kvS SB) (setBlock (w6.drewN nq) (IK (p, d)) (.map ((RM.del lN s).map (RM.Ent.raw (kvS SB))).toArray cI)) (IK (p, d)) (RM.del lN s) cI) := RM.isMap_set (w := w6.drewN nq) HN.out.1
    have F7 : Hid (∀ j, j ≠ IK (p, d) → (setBlock (w6.drewN nq) (IK (p, d)) (.map ((RM.del lN s).map (RM.Ent.raw (kvS SB))).toArray cI)).heap[j]? = w6.heap[j]?) := fun j hj => RM.heap_set_other _ hj
    have R7 : Hid (Ring b1 b2 w2 (setBlock (w6.drewN nq) (IK (p, d)) (.map ((RM.del lN s).map (RM.Ent.raw (kvS SB))).toArray cI))) := (R6.out.drewN nq).setBlock _ _ (by have := T2.out.zI i0 hi; rw [HA.out] at this; exact this)
    generalize setBlock (w6.drewN nq) (IK (p, d)) (.map ((RM.del lN s).map (RM.Ent.raw (kvS SB))).toArray cI) = w7 at M7 F7 R7 ⊢
    clear L6 D6
    have XI : Hid (X ≠ IK (p, d) ∧ AB ≠ IK (p, d) ∧ KB ≠ IK (p, d) ∧ BK ≠ IK (p, d)) := ⟨Ne.symm (map_ne I2.out T2.out.c0), Ne.symm (map_ne I2.out (T2.out.ce M (by omega)).1), Ne.symm (map_ne HN.out.1 k0), fun e => by have a := T2.out.rI i0 hi; rw [HA.out, ← e, T2.out.rK] at a; cases a⟩
    replace g0 := (cellB (F7.out X XI.out.1) 0).trans g0
    replace g1 := (cellB (F7.out X XI.out.1) 1).trans g1
    replace g2 := (cellB (F7.out X XI.out.1) 2).trans g2
    replace k0 := (cellB (F7.out KB XI.out.2.2.1) 0).trans k0
    replace k1 := (cellB (F7.out KB XI.out.2.2.1) 1).trans k1
    replace fX := (World.frozen?_of_block (w := w6) (a := ⟨X, 2, none⟩) (F7.out X XI.out.1)).trans fX
    have C7 : Hid (Ce w7 AB SB (drop A (M + 1) i0) M) := C6.out.block (F7.out AB XI.out.2.1)
    have Z7 : Hid (∀ j, w7.frozen? ⟨AB, j, none⟩ = false) := fun j => (World.frozen?_of_block (w := w6) (a := ⟨AB, j, none⟩) (F7.out AB XI.out.2.1)).trans (Z6.out j)
    have MK7 : Hid (RM.IsMap kvK w7 BK lK cK) := (F7.out BK XI.out.2.2.2).trans MK6.out
    have L7 : ∀ n, (Instr.lookup 64 (.map (some BK)) (.agg #[.string p, .int .u8 (d : Int)]) false).run Ybad.prog (w7.drewN n) = .ok (.map (some (IK (p, d)))) (w7.drewN n) := fun n => by
      have := RM.run_lookup Ybad.underlying64 (watchKeys (w7.drewN n)) (w := w7.drewN n) MK7.out (zero63 _) (p, d)
      rw [(MK.out.2.2 (p, d) _).2 ⟨⟨i0, hi, by rw [HA.out]⟩, rfl⟩] at this
      exact this
    have N7 : ∀ n ty, (Builtin.len_ #[63] ty #[.map (some (IK (p, d)))]).run Ybad.prog (w7.drewN n) = .ok (.int .i64 ((RM.del lN s).length : Int)) (w7.drewN n) := fun n ty => RM.run_len Ybad.underlying63 (w := w7.drewN n) M7.out ty
    have D8 : ∀ n, (Builtin.delete_ #[64, 61] 0 #[.map (some BK), .agg #[.string p, .int .u8 (d : Int)]]).run Ybad.prog (w7.drewN n) = .ok (.tuple #[]) (setBlock (w7.drewN n) BK (.map ((RM.del lK (p, d)).map (RM.Ent.raw kvK)).toArray cK)) := fun n =>
      RM.run_delete Ybad.underlying64 (watchKeys _) (w := w7.drewN n) MK7.out (p, d) 0 61
    by_cases hnil : RM.del lN s = []
    · rw [hnil] at N7
      go_wp2_with fail
      go_quiet (fail)
      go_wp2_with fail
      refine wp_region_last (l := [_, _, _, _, _]) (o := _) rfl (by kernel_rfl) (by kernel_rfl) (by kernel_rfl) (by kernel_rfl) (by kernel_rfl) ?_
      repeat (go_big_quiet_step (fail))
      refine wpQuiet_nil ?_
      rintro _ ⟨nq2, rfl⟩
      rw [World.drewN_drewN]
      go_simp
      have F8 : Hid (∀ j, j ≠ BK → (setBlock (w7.drewN (nq + nq2)) BK (.map ((RM.del lK (p, d)).map (RM.Ent.raw kvK)).toArray cK)).heap[j]? = w7.heap[j]?) := fun j hj => RM.heap_set_other _ hj
      have R8 : Hid (Ring b1 b2 w2 (setBlock (w7.drewN (nq + nq2)) BK (.map ((RM.del lK (p, d)).map (RM.Ent.raw kvK)).toArray cK))) := (R7.out.drewN (nq + nq2)).setBlock _ _ T2.out.zK
      have MK8 : Hid (∃ l c, RM.IsMap kvK (setBlock (w7.drewN (nq + nq2)) BK (.map ((RM.del lK (p, d)).map (RM.Ent.raw kvK)).toArray cK)) BK l c ∧ KSpec (drop A (M + 1) i0) M IK l) := by
        refine ⟨_, _, RM.isMap_set (w := w7.drewN (nq + nq2)) MK7.out, ?_⟩
        have hn := HN.out.2.1
        rw [hnil] at hn
        have := MK.out.2.gone (i0 := i0) T2.out.inj hi (by rw [HA.out]; exact hn)
        rw [HA.out] at this
        exact this
      generalize setBlock (w7.drewN (nq + nq2)) BK (.map ((RM.del lK (p, d)).map (RM.Ent.raw kvK)).toArray cK) = w8 at F8 R8 MK8 ⊢
      have XK : Hid (X ≠ BK ∧ AB ≠ BK ∧ KB ≠ BK) := ⟨Ne.symm BKn.out.2.1, Ne.symm BKn.out.1, Ne.symm (map_ne MK7.out k0)⟩
      replace g0 := (cellB (F8.out X XK.out.1) 0).trans g0
      replace g1 := (cellB (F8.out X XK.out.1) 1).trans g1
      replace g2 := (cellB (F8.out X XK.out.1) 2).trans g2
      replace k0 := (cellB (F8.out KB XK.out.2.2) 0).trans k0
      replace k1 := (cellB (F8.out KB XK.out.2.2) 1).trans k1
      replace fX := (World.frozen?_of_block (w := w7) (a := ⟨X, 2, none⟩) (F8.out X XK.out.1)).trans fX
      have C8 : Hid (Ce w8 AB SB (drop A (M + 1) i0) M) := C7.out.block (F8.out AB XK.out.2.1)
      have Z8 : Hid (∀ j, w8.frozen? ⟨AB, j, none⟩ = false) := fun j => (World.frozen?_of_block (w := w7) (a := ⟨AB, j, none⟩) (F8.out AB XK.out.2.1)).trans (Z7.out j)
      have S7 : Hid (Sess w7 SB) := S6.out.same fun i => F7.out _ (S6.out.ne_map HN.out.1 i)
      have S8 : Hid (Sess w8 SB) := S7.out.same fun i => F8.out _ (S7.out.ne_map MK7.out i)
      have G8 : Hid (∀ j, j ≠ AB → j ≠ X → j ≠ IK (p', d') → j ≠ IK (p, d) → j ≠ BK → w8.heap[j]? = w2.heap[j]?) := fun j h1 h2 h3 h4 h5 => (F8.out j h5).trans ((F7.out j h4).trans (FF.out j h1 h2 h3))
      clear L7 N7 D8
      go_wp2_with fail
      -- delete(bySession[sess], k)
      have nJ : Hid (JS s ≠ IK (p', d') ∧ JS s ≠ IK (p, d) ∧ JS s ≠ BK ∧ JS s ≠ BS ∧ BS ≠ IK (p', d') ∧ BS ≠ IK (p, d) ∧ BS ≠ BK) := by
        have a := T2.out.rJ i0 hi
        have b := T2.out.rI i0 hi
        have c := T2.out.rI M (by omega)
        rw [HA.out] at a b
        rw [hlst.out] at c
        refine ⟨fun e => ?_, fun e => ?_, fun e => ?_, fun e => ?_, fun e => ?_, fun e => ?_, fun e => ?_⟩
        · rw [e, c] at a; cases a
        · rw [e, b] at a; cases a
        · rw [e, T2.out.rK] at a; cases a
        · rw [e, T2.out.rS] at a; cases a
        · rw [← e, T2.out.rS] at c; cases c
        · rw [← e, T2.out.rS] at b; cases b
        · have x := T2.out.rS; rw [e, T2.out.rK] at x; cases x
      obtain ⟨lJ, cJ, mJ, sJ⟩ := T2.out.mJ i0 hi
      rw [HA.out] at mJ sJ
      have MJ : Hid (RM.IsMap kvK w8 (JS s) lJ cJ ∧ JSpec A (M + 1) s lJ) := ⟨(G8.out (JS s) (map_ne mJ (T2.out.ce M (by omega)).1) (map_ne mJ T2.out.c0) nJ.out.1 nJ.out.2.1 nJ.out.2.2.1).trans mJ, sJ⟩
      obtain ⟨lS, cS, mS, sS⟩ := T2.out.mS
      have MS : Hid (RM.IsMap (kvS SB) w8 BS lS cS ∧ SSpec A (M + 1) JS lS) := ⟨(G8.out BS (map_ne mS (T2.out.ce M (by omega)).1) (map_ne mS T2.out.c0) nJ.out.2.2.2.2.1 nJ.out.2.2.2.2.2.1 nJ.out.2.2.2.2.2.2).trans mS, sS⟩
      have DJ : Hid (JSpec (drop A (M + 1) i0) M s (RM.del lJ (p, d))) := by
        have := MJ.out.2.taken (i0 := i0) T2.out.inj hi (by rw [HA.out])
        rw [HA.out] at this
        exact this
      have XJ : Hid (X ≠ JS s ∧ AB ≠ JS s) := ⟨Ne.symm (map_ne mJ T2.out.c0), Ne.symm (map_ne mJ (T2.out.ce M (by omega)).1)⟩
      have XS : Hid (X ≠ BS ∧ AB ≠ BS) := ⟨Ne.symm (map_ne mS T2.out.c0), Ne.symm (map_ne mS (T2.out.ce M (by omega)).1)⟩
      clear mJ sJ mS sS
      have L9 : ∀ n, (Instr.lookup 65 (.map (some BS)) (.pointer (some ⟨SB s, 0, none⟩)) false).run Ybad.prog (w8.drewN n) = .ok (.map (some (JS s))) (w8.drewN n) := fun n => by
        have := RM.run_lookup Ybad.underlying65 (sessKeys (w := w8.drewN n) ⟨S8.out.blk, S8.out.inj⟩) (w := w8.drewN n) MS.out.1 (zero71 _) s
        rw [(MS.out.2.2 s _).2 ⟨⟨i0, hi, by rw [HA.out]⟩, rfl⟩] at this
        exact this
      have D9 : ∀ n, (Builtin.delete_ #[71, 61] 0 #[.map (some (JS s)), .agg #[.string p, .int .u8 (d : Int)]]).run Ybad.prog (w8.drewN n) = .ok (.tuple #[]) (setBlock (w8.drewN n) (JS s) (.map ((RM.del lJ (p, d)).map (RM.Ent.raw kvK)).toArray cJ)) := fun n =>
        RM.run_delete Ybad.underlying71 (watchKeys _) (w := w8.drewN n) MJ.out.1 (p, d) 0 61
      refine wp_region_last (l := [_, _, _, _, _, _, _]) (o := _) rfl (by kernel_rfl) (by kernel_rfl) (by kernel_rfl) (by kernel_rfl) (by kernel_rfl) ?_
      repeat (go_big_quiet_step (fail))
      refine wpQuiet_nil ?_
      rintro _ ⟨nq, rfl⟩
      go_simp
      have M9 : Hid (RM.IsMap kvK (setBlock (w8.drewN nq) (JS s) (.map ((RM.del lJ (p, d)).map (RM.Ent.raw kvK)).toArray cJ)) (JS s) (RM.del lJ (p, d)) cJ) := RM.isMap_set (w := w8.drewN nq) MJ.out.1
      have F9 : Hid (∀ j, j ≠ JS s → (setBlock (w8.drewN nq) (JS s) (.map ((RM.del lJ (p, d)).map (RM.Ent.raw kvK)).toArray cJ)).heap[j]? = w8.heap[j]?) := fun j hj => RM.heap_set_other _ hj
      have R9 : Hid (Ring b1 b2 w2 (setBlock (w8.drewN nq) (JS s) (.map ((RM.del lJ (p, d)).map (RM.Ent.raw kvK)).toArray cJ))) := (R8.out.drewN nq).setBlock _ _ (by have := T2.out.zJ i0 hi; rw [HA.out] at this; exact this)
      replace fX : (setBlock (w8.drewN nq) (JS s) (.map ((RM.del lJ (p, d)).map (RM.Ent.raw kvK)).toArray cJ)).frozen? ⟨X, 2, none⟩ = false := (World.frozen?_of_block (w := w8) (a := ⟨X, 2, none⟩) (F9.out X XJ.out.1)).trans fX
      generalize setBlock (w8.drewN nq) (JS s) (.map ((RM.del lJ (p, d)).map (RM.Ent.raw kvK)).toArray cJ) = w9 at M9 F9 R9 fX ⊢
      clear L9 D9
      replace g0 := (cellB (F9.out X XJ.out.1) 0).trans g0
      replace g1 := (cellB (F9.out X XJ.out.1) 1).trans g1
      replace g2 := (cellB (F9.out X XJ.out.1) 2).trans g2
      have S9 : Hid (Sess w9 SB) := S8.out.same fun i => F9.out _ (S8.out.ne_map MJ.out.1 i)
      have MS9 : Hid (RM.IsMap (kvS SB) w9 BS lS cS ∧ SSpec A (M + 1) JS lS) := ⟨(F9.out BS (Ne.symm nJ.out.2.2.2.1)).trans MS.out.1, MS.out.2⟩
      have L10 : (Instr.lookup 65 (.map (some BS)) (.pointer (some ⟨SB s, 0, none⟩)) false).run Ybad.prog w9 = .ok (.map (some (JS s))) w9 := by
        have := RM.run_lookup Ybad.underlying65 (sessKeys S9.out) MS9.out.1 (zero71 _) s
        rw [(MS9.out.2.2 s _).2 ⟨⟨i0, hi, by rw [HA.out]⟩, rfl⟩] at this
        exact this
      have N10 : ∀ ty, (Builtin.len_ #[71] ty #[.map (some (JS s))]).run Ybad.prog w9 = .ok (.int .i64 ((RM.del lJ (p, d)).length : Int)) w9 := fun ty => RM.run_len Ybad.underlying71 M9.out ty
      have D11 : (Builtin.delete_ #[65, 25] 0 #[.map (some BS), .pointer (some ⟨SB s, 0, none⟩)]).run Ybad.prog w9 = .ok (.tuple #[]) (setBlock w9 BS (.map ((RM.del lS s).map (RM.Ent.raw (kvS SB))).toArray cS)) :=
        RM.run_delete Ybad.underlying65 (sessKeys S9.out) MS9.out.1 s 0 25
      have G9 : Hid (∀ j, j ≠ AB → j ≠ X → j ≠ IK (p', d') → j ≠ IK (p, d) → j ≠ BK → j ≠ JS s → w9.heap[j]? = w2.heap[j]?) := fun j h1 h2 h3 h4 h5 h6 => (F9.out j h6).trans (G8.out j h1 h2 h3 h4 h5)
      have MI9 : Hid (RM.IsMap (kvS SB) w9 (IK (p, d)) (RM.del lN s) cI) := (F9.out _ (Ne.symm nJ.out.2.1)).trans ((F8.out _ (Ne.symm XI.out.2.2.2)).trans M7.out)
      have ML9 : Hid ((p, d) ≠ (p', d') → RM.IsMap (kvS SB) w9 (IK (p', d')) (RM.ins lL s' (.int .i64 (i0 : Int)) cL) cL) := fun hk => by
        have n3 : IK (p', d') ≠ IK (p, d) := fun e => by
          have x := T2.out.rI i0 hi
          have y := T2.out.rI M (by omega)
          rw [HA.out] at x
          rw [hlst.out] at y
          rw [← e, y] at x
          injection x with x
          exact hk x.symm
        exact (F9.out _ (Ne.symm nJ.out.1)).trans ((F8.out _ (Ne.symm BKn.out.2.2)).trans ((F7.out _ n3).trans ((F6.out _ (Ne.symm XL.out.1)).trans ((F5.out _ (Ne.symm XL.out.2.1)).trans M4.out))))
      have MK9 : Hid (∃ l c, RM.IsMap kvK w9 BK l c ∧ KSpec (drop A (M + 1) i0) M IK l) := by
        obtain ⟨l, c, h1, h2⟩ := MK8.out
        exact ⟨l, c, (F9.out _ (Ne.symm nJ.out.2.2.1)).trans h1, h2⟩
      have C9 : Hid (Ce w9 AB SB (drop A (M + 1) i0) M) := C8.out.block (F9.out AB XJ.out.2)
      have Z9 : Hid (∀ j, w9.frozen? ⟨AB, j, none⟩ = false) := fun j => (World.frozen?_of_block (w := w8) (a := ⟨AB, j, none⟩) (F9.out AB XJ.out.2)).trans (Z8.out j)
      have E9 : Hid (∀ e' ∈ RM.del lN s, ∃ e ∈ lI, e.k = e'.k ∧ e.n = e'.n) := fun e' he => HN.out.2.2.2 e' (mem_del' he)
      have SD : Hid (RM.Stamps (RM.del lN s) cI) := RM.stamps_del HN.out.2.2.1 s
      by_cases hn2 : RM.del lJ (p, d) = []
      · rw [hn2] at N10
        go_wp2
        refine bodyPost_end (results_none rfl _ _ _) rfl ?_
        have MSe : RM.IsMap (kvS SB) (setBlock w9 BS (.map ((RM.del lS s).map (RM.Ent.raw (kvS SB))).toArray cS)) BS (RM.del lS s) cS := RM.isMap_set MS9.out.1
        have Fe : ∀ j, j ≠ BS → (setBlock w9 BS (.map ((RM.del lS s).map (RM.Ent.raw (kvS SB))).toArray cS)).heap[j]? = w9.heap[j]? := fun j hj => RM.heap_set_other _ hj
        have Re : Ring b1 b2 w2 (setBlock w9 BS (.map ((RM.del lS s).map (RM.Ent.raw (kvS SB))).toArray cS)) := R9.out.setBlock _ _ T2.out.zS
        generalize setBlock w9 BS (.map ((RM.del lS s).map (RM.Ent.raw (kvS SB))).toArray cS) = we at MSe Fe Re
        have DS : SSpec (drop A (M + 1) i0) M JS (RM.del lS s) := by
          have hj := DJ.out
          rw [hn2] at hj
          have := MS.out.2.gone (i0 := i0) T2.out.inj hi (by rw [HA.out]; exact hj)
          rw [HA.out] at this
          exact this
        refine ⟨rfl, remove_end (k := (p, d)) (k' := (p', d')) (lD := RM.del lN s) (lL := lL) (lJ := RM.del lJ (p, d)) (cI := cI) (cL := cL) (cJ := cJ) T2.out hi HA.out hlst.out ((cellB (Fe X XS.out.1) 0).trans g0) ((cellB (Fe X XS.out.1) 1).trans g1) ((cellB (Fe X XS.out.1) 2).trans g2) (by omega) ((World.frozen?_of_block (w := w9) (a := ⟨X, 2, none⟩) (Fe X XS.out.1)).trans fX) (C9.out.block (Fe AB XS.out.2)) (fun j => (World.frozen?_of_block (w := w9) (a := ⟨AB, j, none⟩) (Fe AB XS.out.2)).trans (Z9.out j)) ?_ ⟨_, _, MSe, DS⟩ ⟨(Fe _ (Ne.symm nJ.out.2.2.2.2.2.1)).trans MI9.out, HN.out.2.1, SD.out⟩ (fun hk => ⟨(Fe _ (Ne.symm nJ.out.2.2.2.2.1)).trans (ML9.out hk), ML.out.2⟩) ⟨(Fe _ nJ.out.2.2.2.1).trans M9.out, DJ.out⟩ (fun j h1 h2 h3 h4 h5 h6 h7 => (Fe j h7).trans (G9.out j h1 h2 h3 h4 h5 h6)), (Ring.of_below' B2.out).trans Re, (Alien.of_below B2.out).trans (remove_alien T2.out hi HA.out hlst.out (fun j h1 h2 h3 h4 h5 h6 h7 => (Fe j h7).trans (G9.out j h1 h2 h3 h4 h5 h6))), _, (Fe _ (Ne.symm nJ.out.2.2.2.2.2.1)).trans MI9.out, HN.out.2.1, SD.out, E9.out⟩
        obtain ⟨l, c, h1, h2⟩ := MK9.out
        exact ⟨l, c, (Fe _ (Ne.symm nJ.out.2.2.2.2.2.2)).trans h1, h2⟩
      · have hl2 : ¬ ((RM.del lJ (p, d)).length : Int) = 0 := by
          intro e
          exact hn2 (List.length_eq_zero_iff.1 (by omega))
        generalize (RM.del lJ (p, d)).length = nl at N10 hl2
        go_wp2
        refine bodyPost_end (results_none rfl _ _ _) rfl ?_
        have DS : SSpec (drop A (M + 1) i0) M JS lS := MS.out.2.keep (i0 := i0) T2.out.inj hi (by rw [HA.out]; exact DJ.out) hn2
        exact ⟨rfl, remove_end (k := (p, d)) (k' := (p', d')) (lD := RM.del lN s) (lL := lL) (lJ := RM.del lJ (p, d)) (cI := cI) (cL := cL) (cJ := cJ) T2.out hi HA.out hlst.out g0 g1 g2 (by omega) fX C9.out Z9.out MK9.out ⟨_, _, MS9.out.1, DS⟩ ⟨MI9.out, HN.out.2.1, SD.out⟩ (fun hk => ⟨ML9.out hk, ML.out.2⟩) ⟨M9.out, DJ.out⟩ (fun j h1 h2 h3 h4 h5 h6 h7 => G9.out j h1 h2 h3 h4 h5 h6), (Ring.of_below' B2.out).trans R9.out, (Alien.of_below B2.out).trans (remove_alien T2.out hi HA.out hlst.out (fun j h1 h2 h3 h4 h5 h6 h7 => G9.out j h1 h2 h3 h4 h5 h6)), _, MI9.out, HN.out.2.1, SD.out, E9.out⟩
    · have hl1 : ¬ ((RM.del lN s).length : Int) = 0 := by
        intro e
        exact hnil (List.length_eq_zero_iff.1 (by omega))
      generalize (RM.del lN s).length = nl at N7 hl1
      go_wp2_with fail
      go_quiet (fail)
      go_wp2_with fail
      have F8 : Hid (∀ j, j ≠ BK → (w7.drewN nq).heap[j]? = w7.heap[j]?) := fun j hj => rfl
      have R8 : Hid (Ring b1 b2 w2 (w7.drewN nq)) := R7.out.drewN nq
      have MK8 : Hid (∃ l c, RM.IsMap kvK (w7.drewN nq) BK l c ∧ KSpec (drop A (M + 1) i0) M IK l) := ⟨_, _, MK7.out, MK.out.2.keep (i0 := i0) T2.out.inj hi (by rw [HA.out]; exact HN.out.2.1) hnil⟩
      generalize w7.drewN nq = w8 at F8 R8 MK8 ⊢
      have XK : Hid (X ≠ BK ∧ AB ≠ BK ∧ KB ≠ BK) := ⟨Ne.symm BKn.out.2.1, Ne.symm BKn.out.1, Ne.symm (map_ne MK7.out k0)⟩
      replace g0 := (cellB (F8.out X XK.out.1) 0).trans g0
      replace g1 := (cellB (F8.out X XK.out.1) 1).trans g1
      replace g2 := (cellB (F8.out X XK.out.1) 2).trans g2
      replace k0 := (cellB (F8.out KB XK.out.2.2) 0).trans k0
      replace k1 := (cellB (F8.out KB XK.out.2.2) 1).trans k1
      replace fX := (World.frozen?_of_block (w := w7) (a := ⟨X, 2, none⟩) (F8.out X XK.out.1)).trans fX
      have C8 : Hid (Ce w8 AB SB (drop A (M + 1) i0) M) := C7.out.block (F8.out AB XK.out.2.1)
      have Z8 : Hid (∀ j, w8.frozen? ⟨AB, j, none⟩ = false) := fun j => (World.frozen?_of_block (w := w7) (a := ⟨AB, j, none⟩) (F8.out AB XK.out.2.1)).trans (Z7.out j)
      have S7 : Hid (Sess w7 SB) := S6.out.same fun i => F7.out _ (S6.out.ne_map HN.out.1 i)
      have S8 : Hid (Sess w8 SB) := S7.out.same fun i => F8.out _ (S7.out.ne_map MK7.out i)
      have G8 : Hid (∀ j, j ≠ AB → j ≠ X → j ≠ IK (p', d') → j ≠ IK (p, d) → j ≠ BK → w8.heap[j]? = w2.heap[j]?) := fun j h1 h2 h3 h4 h5 => (F8.out j h5).trans ((F7.out j h4).trans (FF.out j h1 h2 h3))
      clear L7 N7 D8
      -- delete(bySession[sess], k)
      have nJ : Hid (JS s ≠ IK (p', d') ∧ JS s ≠ IK (p, d) ∧ JS s ≠ BK ∧ JS s ≠ BS ∧ BS ≠ IK (p', d') ∧ BS ≠ IK (p, d) ∧ BS ≠ BK) := by
        have a := T2.out.rJ i0 hi
        have b := T2.out.rI i0 hi
        have c := T2.out.rI M (by omega)
        rw [HA.out] at a b
        rw [hlst.out] at c
        refine ⟨fun e => ?_, fun e => ?_, fun e => ?_, fun e => ?_, fun e => ?_, fun e => ?_, fun e => ?_⟩
        · rw [e, c] at a; cases a
        · rw [e, b] at a; cases a
        · rw [e, T2.out.rK] at a; cases a
        · rw [e, T2.out.rS] at a; cases a
        · rw [← e, T2.out.rS] at c; cases c
        · rw [← e, T2.out.rS] at b; cases b
        · have x := T2.out.rS; rw [e, T2.out.rK] at x; cases x
      obtain ⟨lJ, cJ, mJ, sJ⟩ := T2.out.mJ i0 hi
      rw [HA.out] at mJ sJ
      have MJ : Hid (RM.IsMap kvK w8 (JS s) lJ cJ ∧ JSpec A (M + 1) s lJ) := ⟨(G8.out (JS s) (map_ne mJ (T2.out.ce M (by omega)).1) (map_ne mJ T2.out.c0) nJ.out.1 nJ.out.2.1 nJ.out.2.2.1).trans mJ, sJ⟩
      obtain ⟨lS, cS, mS, sS⟩ := T2.out.mS
      have MS : Hid (RM.IsMap (kvS SB) w8 BS lS cS ∧ SSpec A (M + 1) JS lS) := ⟨(G8.out BS (map_ne mS (T2.out.ce M (by omega)).1) (map_ne mS T2.out.c0) nJ.out.2.2.2.2.1 nJ.out.2.2.2.2.2.1 nJ.out.2.2.2.2.2.2).trans mS, sS⟩
      have DJ : Hid (JSpec (drop A (M + 1) i0) M s (RM.del lJ (p, d))) := by
        have := MJ.out.2.taken (i0 := i0) T2.out.inj hi (by rw [HA.out])
        rw [HA.out] at this
        exact this
      have XJ : Hid (X ≠ JS s ∧ AB ≠ JS s) := ⟨Ne.symm (map_ne mJ T2.out.c0), Ne.symm (map_ne mJ (T2.out.ce M (by omega)).1)⟩
      have XS : Hid (X ≠ BS ∧ AB ≠ BS) := ⟨Ne.symm (map_ne mS T2.out.c0), Ne.symm (map_ne mS (T2.out.ce M (by omega)).1)⟩
      clear mJ sJ mS sS
      have L9 : ∀ n, (Instr.lookup 65 (.map (some BS)) (.pointer (some ⟨SB s, 0, none⟩)) false).run Ybad.prog (w8.drewN n) = .ok (.map (some (JS s))) (w8.drewN n) := fun n => by
        have := RM.run_lookup Ybad.underlying65 (sessKeys (w := w8.drewN n) ⟨S8.out.blk, S8.out.inj⟩) (w := w8.drewN n) MS.out.1 (zero71 _) s
        rw [(MS.out.2.2 s _).2 ⟨⟨i0, hi, by rw [HA.out]⟩, rfl⟩] at this
        exact this
      have D9 : ∀ n, (Builtin.delete_ #[71, 61] 0 #[.map (some (JS s)), .agg #[.string p, .int .u8 (d : Int)]]).run Ybad.prog (w8.drewN n) = .ok (.tuple #[]) (setBlock (w8.drewN n) (JS s) (.map ((RM.del lJ (p, d)).map (RM.Ent.raw kvK)).toArray cJ)) := fun n =>
        RM.run_delete Ybad.underlying71 (watchKeys _) (w := w8.drewN n) MJ.out.1 (p, d) 0 61
      refine wp_region_last (l := [_, _, _, _, _, _, _]) (o := _) rfl (by kernel_rfl) (by kernel_rfl) (by kernel_rfl) (by kernel_rfl) (by kernel_rfl) ?_
      repeat (go_big_quiet_step (fail))
      refine wpQuiet_nil ?_
      rintro _ ⟨nq, rfl⟩
      go_simp
      have M9 : Hid (RM.IsMap kvK (setBlock (w8.drewN nq) (JS s) (.map ((RM.del lJ (p, d)).map (RM.Ent.raw kvK)).toArray cJ)) (JS s) (RM.del lJ (p, d)) cJ) := RM.isMap_set (w := w8.drewN nq) MJ.out.1
      have F9 : Hid (∀ j, j ≠ JS s → (setBlock (w8.drewN nq) (JS s) (.map ((RM.del lJ (p, d)).map (RM.Ent.raw kvK)).toArray cJ)).heap[j]? = w8.heap[j]?) := fun j hj => RM.heap_set_other _ hj
      have R9 : Hid (Ring b1 b2 w2 (setBlock (w8.drewN nq) (JS s) (.map ((RM.del lJ (p, d)).map (RM.Ent.raw kvK)).toArray cJ))) := (R8.out.drewN nq).setBlock _ _ (by have := T2.out.zJ i0 hi; rw [HA.out] at this; exact this)
      replace fX : (setBlock (w8.drewN nq) (JS s) (.map ((RM.del lJ (p, d)).map (RM.Ent.raw kvK)).toArray cJ)).frozen? ⟨X, 2, none⟩ = false := (World.frozen?_of_block (w := w8) (a := ⟨X, 2, none⟩) (F9.out X XJ.out.1)).trans fX
      generalize setBlock (w8.drewN nq) (JS s) (.map ((RM.del lJ (p, d)).map (RM.Ent.raw kvK)).toArray cJ) = w9 at M9 F9 R9 fX ⊢
      clear L9 D9
      replace g0 := (cellB (F9.out X XJ.out.1) 0).trans g0
      replace g1 := (cellB (F9.out X XJ.out.1) 1).trans g1
      replace g2 := (cellB (F9.out X XJ.out.1) 2).trans g2
      have S9 : Hid (Sess w9 SB) := S8.out.same fun i => F9.out _ (S8.out.ne_map MJ.out.1 i)
      have MS9 : Hid (RM.IsMap (kvS SB) w9 BS lS cS ∧ SSpec A (M + 1) JS lS) := ⟨(F9.out BS (Ne.symm nJ.out.2.2.2.1)).trans MS.out.1, MS.out.2⟩
      have L10 : (Instr.lookup 65 (.map (some BS)) (.pointer (some ⟨SB s, 0, none⟩)) false).run Ybad.prog w9 = .ok (.map (some (JS s))) w9 := by
        have := RM.run_lookup Ybad.underlying65 (sessKeys S9.out) MS9.out.1 (zero71 _) s
        rw [(MS9.out.2.2 s _).2 ⟨⟨i0, hi, by rw [HA.out]⟩, rfl⟩] at this
        exact this
      have N10 : ∀ ty, (Builtin.len_ #[71] ty #[.map (some (JS s))]).run Ybad.prog w9 = .ok (.int .i64 ((RM.del lJ (p, d)).length : Int)) w9 := fun ty => RM.run_len Ybad.underlying71 M9.out ty
      have D11 : (Builtin.delete_ #[65, 25] 0 #[.map (some BS), .pointer (some ⟨SB s, 0, none⟩)]).run Ybad.prog w9 = .ok (.tuple #[]) (setBlock w9 BS (.map ((RM.del lS s).map (RM.Ent.raw (kvS SB))).toArray cS)) :=
        RM.run_delete Ybad.underlying65 (sessKeys S9.out) MS9.out.1 s 0 25
      have G9 : Hid (∀ j, j ≠ AB → j ≠ X → j ≠ IK (p', d') → j ≠ IK (p, d) → j ≠ BK → j ≠ JS s → w9.heap[j]? = w2.heap[j]?) := fun j h1 h2 h3 h4 h5 h6 => (F9.out j h6).trans (G8.out j h1 h2 h3 h4 h5)
      have MI9 : Hid (RM.IsMap (kvS SB) w9 (IK (p, d)) (RM.del lN s) cI) := (F9.out _ (Ne.symm nJ.out.2.1)).trans ((F8.out _ (Ne.symm XI.out.2.2.2)).trans M7.out)
      have ML9 : Hid ((p, d) ≠ (p', d') → RM.IsMap (kvS SB) w9 (IK (p', d')) (RM.ins lL s' (.int .i64 (i0 : Int)) cL) cL) := fun hk => by
        have n3 : IK (p', d') ≠ IK (p, d) := fun e => by
          have x := T2.out.rI i0 hi
          have y := T2.out.rI M (by omega)
          rw [HA.out] at x
          rw [hlst.out] at y
          rw [← e, y] at x
          injection x with x
          exact hk x.symm
        exact (F9.out _ (Ne.symm nJ.out.1)).trans ((F8.out _ (Ne.symm BKn.out.2.2)).trans ((F7.out _ n3).trans ((F6.out _ (Ne.symm XL.out.1)).trans ((F5.out _ (Ne.symm XL.out.2.1)).trans M4.out))))
      have MK9 : Hid (∃ l c, RM.IsMap kvK w9 BK l c ∧ KSpec (drop A (M + 1) i0) M IK l) := by
        obtain ⟨l, c, h1, h2⟩ := MK8.out
        exact ⟨l, c, (F9.out _ (Ne.symm nJ.out.2.2.1)).trans h1, h2⟩
      have C9 : Hid (Ce w9 AB SB (drop A (M + 1) i0) M) := C8.out.block (F9.out AB XJ.out.2)
      have Z9 : Hid (∀ j, w9.frozen? ⟨AB, j, none⟩ = false) := fun j => (World.frozen?_of_block (w := w8) (a := ⟨AB, j, none⟩) (F9.out AB XJ.out.2)).trans (Z8.out j)
      have E9 : Hid (∀ e' ∈ RM.del lN s, ∃ e ∈ lI, e.k = e'.k ∧ e.n = e'.n) := fun e' he => HN.out.2.2.2 e' (mem_del' he)
      have SD : Hid (RM.Stamps (RM.del lN s) cI) := RM.stamps_del HN.out.2.2.1 s
      by_cases hn2 : RM.del lJ (p, d) = []
      · rw [hn2] at N10
        go_wp2
        refine bodyPost_end (results_none rfl _ _ _) rfl ?_
        have MSe : RM.IsMap (kvS SB) (setBlock w9 BS (.map ((RM.del lS s).map (RM.Ent.raw (kvS SB))).toArray cS)) BS (RM.del lS s) cS := RM.isMap_set MS9.out.1
        have Fe : ∀ j, j ≠ BS → (setBlock w9 BS (.map ((RM.del lS s).map (RM.Ent.raw (kvS SB))).toArray cS)).heap[j]? = w9.heap[j]? := fun j hj => RM.heap_set_other _ hj
        have Re : Ring b1 b2 w2 (setBlock w9 BS (.map ((RM.del lS s).map (RM.Ent.raw (kvS SB))).toArray cS)) := R9.out.setBlock _ _ T2.out.zS
        generalize setBlock w9 BS (.map ((RM.del lS s).map (RM.Ent.raw (kvS SB))).toArray cS) = we at MSe Fe Re
        have DS : SSpec (drop A (M + 1) i0) M JS (RM.del lS s) := by
          have hj := DJ.out
          rw [hn2] at hj
          have := MS.out.2.gone (i0 := i0) T2.out.inj hi (by rw [HA.out]; exact hj)
          rw [HA.out] at this
          exact this
        refine ⟨rfl, remove_end (k := (p, d)) (k' := (p', d')) (lD := RM.del lN s) (lL := lL) (lJ := RM.del lJ (p, d)) (cI := cI) (cL := cL) (cJ := cJ) T2.out hi HA.out hlst.out ((cellB (Fe X XS.out.1) 0).trans g0) ((cellB (Fe X XS.out.1) 1).trans g1) ((cellB (Fe X XS.out.1) 2).trans g2) (by omega) ((World.frozen?_of_block (w := w9) (a := ⟨X, 2, none⟩) (Fe X XS.out.1)).trans fX) (C9.out.block (Fe AB XS.out.2)) (fun j => (World.frozen?_of_block (w := w9) (a := ⟨AB, j, none⟩) (Fe AB XS.out.2)).trans (Z9.out j)) ?_ ⟨_, _, MSe, DS⟩ ⟨(Fe _ (Ne.symm nJ.out.2.2.2.2.2.1)).trans MI9.out, HN.out.2.1, SD.out⟩ (fun hk => ⟨(Fe _ (Ne.symm nJ.out.2.2.2.2.1)).trans (ML9.out hk), ML.out.2⟩) ⟨(Fe _ nJ.out.2.2.2.1).trans M9.out, DJ.out⟩ (fun j h1 h2 h3 h4 h5 h6 h7 => (Fe j h7).trans (G9.out j h1 h2 h3 h4 h5 h6)), (Ring.of_below' B2.out).trans Re, (Alien.of_below B2.out).trans (remove_alien T2.out hi HA.out hlst.out (fun j h1 h2 h3 h4 h5 h6 h7 => (Fe j h7).trans (G9.out j h1 h2 h3 h4 h5 h6))), _, (Fe _ (Ne.symm nJ.out.2.2.2.2.2.1)).trans MI9.out, HN.out.2.1, SD.out, E9.out⟩
        obtain ⟨l, c, h1, h2⟩ := MK9.out
        exact ⟨l, c, (Fe _ (Ne.symm nJ.out.2.2.2.2.2.2)).trans h1, h2⟩
      · have hl2 : ¬ ((RM.del lJ (p, d)).length : Int) = 0 := by
          intro e
          exact hn2 (List.length_eq_zero_iff.1 (by omega))
        generalize (RM.del lJ (p, d)).length = nl at N10 hl2
        go_wp2
        refine bodyPost_end (results_none rfl _ _ _) rfl ?_
        have DS : SSpec (drop A (M + 1) i0) M JS lS := MS.out.2.keep (i0 := i0) T2.out.inj hi (by rw [HA.out]; exact DJ.out) hn2
        exact ⟨rfl, remove_end (k := (p, d)) (k' := (p', d')) (lD := RM.del lN s) (lL := lL) (lJ := RM.del lJ (p, d)) (cI := cI) (cL := cL) (cJ := cJ) T2.out hi HA.out hlst.out g0 g1 g2 (by omega) fX C9.out Z9.out MK9.out ⟨_, _, MS9.out.1, DS⟩ ⟨MI9.out, HN.out.2.1, SD.out⟩ (fun hk => ⟨ML9.out hk, ML.out.2⟩) ⟨M9.out, DJ.out⟩ (fun j h1 h2 h3 h4 h5 h6 h7 => G9.out j h1 h2 h3 h4 h5 h6), (Ring.of_below' B2.out).trans R9.out, (Alien.of_below B2.out).trans (remove_alien T2.out hi HA.out hlst.out (fun j h1 h2 h3 h4 h5 h6 h7 => G9.out j h1 h2 h3 h4 h5 h6)), _, MI9.out, HN.out.2.1, SD.out, E9.out⟩
end Go.Proofs.YbulkcrxoDoor.F
