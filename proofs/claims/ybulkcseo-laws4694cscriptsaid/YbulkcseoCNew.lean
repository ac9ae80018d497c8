/-
  LawS4694CScript: 'newWindow' by a contract: its parts are made in any order.
-/
import Derived.Test.YbulkcseoCWait
import Derived.Test.YbulkcseoHear
set_option linter.unusedVariables false
namespace Go.Proofs.Ybulkcseo.C
open Go.RowKit Go.Any
open Go.Proofs.Ybulkcseo

def winCells (me M b n : Nat) : Array Value := #[.int .i64 4, .int .u64 ((2 ^ (me - 1) : Nat) : Int), .int .u64 ((18446744073709551615 / 2 ^ (64 - n) : Nat) : Int), .map (some M), .int .i64 0, .int .i64 0, .slice (some ⟨b, 0, none⟩) n n]

theorem sets_far {B j : Nat} (h : j ≠ B) : ∀ (w : World) (vs : List Value) (o : Nat), (w.setCells B o vs).heap[j]? = w.heap[j]?
  | w, [], _ => rfl
  | w, v :: r, o => (sets_far h (w.setCell ⟨B, o, none⟩ v) r (o + 1)).trans (Below.heap_setCell _ _ _ _ h)

def Z44 : Array Value := #[.int .i64 0, .int .u64 0, .int .u64 0, .map none, .int .i64 0, .int .i64 0, .slice none 0 0]

set_option maxHeartbeats 4000000 in
theorem newWindow (me n : Nat) (h1 : 1 ≤ me) (h2 : me ≤ 64) (g1 : 1 ≤ n) (g2 : n ≤ 64) (w : World) : Calls Yba.prog 10 #[.int .i64 me, .int .i64 n, .int .i64 4] w fun e w' => ∃ M b, e = .returned (.agg (winCells me M b n)) ∧
    Below w.heap.size w w' ∧ w.heap.size < M ∧ M < w'.heap.size ∧ w'.heap[M]? = some (.map #[] 0) := by
  have m1 := make24 n (by omega)
  have m2 : ∀ w : World, (Instr.makeMap 42 none).run Yba.prog w = .ok (.map (some w.heap.size)) (w.alloc (.map #[] 0)) := fun w => by kernel_rfl
  go_enter Yba.func10, Yba.ntmps10
  go_wp2_with fail
  refine wp_region_inv (fun l a w' => l.size = 10 ∧ Below w.heap.size w w' ∧ w.heap.size < w'.heap.size ∧
    ∃ M b v7 v8 v9 v10 v11 v12 v13 v14 v15, a = ⟨#[.int .i64 me, .int .i64 n, .int .i64 4, undef, undef, undef, .pointer (some ⟨w.heap.size, 0, none⟩), v7, v8, v9, v10, v11, v12, v13, v14, v15], []⟩ ∧
      (On l 0 → v7 = .int .i64 4) ∧ (On l 1 → v8 = .int .i64 me) ∧ (On l 2 → v9 = .int .u64 ((2 ^ (me - 1) : Nat) : Int)) ∧ (On l 3 → v10 = .int .i64 n) ∧ (On l 4 → v11 = .int .u64 ((18446744073709551615 / 2 ^ (64 - n) : Nat) : Int)) ∧
      (On l 5 → v12 = .map (some M) ∧ w.heap.size < M ∧ M < w'.heap.size ∧ w'.heap[M]? = some (.map #[] 0)) ∧ (On l 6 → v13 = .int .i64 n) ∧ (On l 7 → v14 = .slice (some ⟨b, 0, none⟩) n n) ∧ w'.there w.heap.size 0 7 ∧
      (On l 8 → On l 0 ∧ On l 2 ∧ On l 4 ∧ On l 5 ∧ On l 7 ∧ v15 = .agg (winCells me M b n)) ∧
      (On l 9 → On l 8 ∧ w'.rangeAt w.heap.size 0 (winCells me M b n).toList))
    (by kernel_rfl) (by kernel_rfl) (fun l a w' h => h.1) ?first ?step ?last
  case first =>
    refine ⟨by simp, ((Below.refl _ _).alloc (Nat.le_refl _) _).drew, by simp, 0, 0, undef, undef, undef, undef, undef, undef, undef, undef, undef, rfl, ?_⟩
    refine ⟨fun h => (not_on h).elim, fun h => (not_on h).elim, fun h => (not_on h).elim, fun h => (not_on h).elim, fun h => (not_on h).elim, fun h => (not_on h).elim, fun h => (not_on h).elim, fun h => (not_on h).elim, ?_, fun h => (not_on h).elim, fun h => (not_on h).elim⟩
    intro j hj
    show ((w.alloc (.cells Z44 44)).cell? ⟨w.heap.size, 0 + j, none⟩).isSome = true ∧ (w.alloc (.cells Z44 44)).frozen? ⟨w.heap.size, 0 + j, none⟩ = false
    rw [alloc_new, alloc_fro]
    simp [Z44]; omega
  case step =>
    rintro l a w' i o ⟨hs, hB, hlt, M, b, v7, v8, v9, v10, v11, v12, v13, v14, v15, rfl, c0, c1, c2, c3, c4, c5, c6, c7, th, c8, c9⟩ ho hl hdep K hK
    rcases i with _ | _ | _ | _ | _ | _ | _ | _ | _ | _ | i
    · obtain rfl := Option.some.inj ho
      go_simp
      refine hK _ _ ⟨by simp [hs], hB, hlt, M, b, _, v8, v9, v10, v11, v12, v13, v14, v15, rfl, fun _ => rfl, fun h => c1 (h.of_set (by decide)), fun h => c2 (h.of_set (by decide)), fun h => c3 (h.of_set (by decide)), fun h => c4 (h.of_set (by decide)), fun h => c5 (h.of_set (by decide)), fun h => c6 (h.of_set (by decide)), fun h => c7 (h.of_set (by decide)), th, fun h => by obtain ⟨e1, e2, e3, e4, e5, e6⟩ := c8 (h.of_set (by decide)); exact ⟨e1.set _, e2.set _, e3.set _, e4.set _, e5.set _, e6⟩, fun h => by obtain ⟨e1, e2⟩ := c9 (h.of_set (by decide)); exact ⟨e1.set _, e2⟩⟩
    · obtain rfl := Option.some.inj ho
      go_simp
      refine hK _ _ ⟨by simp [hs], hB, hlt, M, b, v7, _, v9, v10, v11, v12, v13, v14, v15, rfl, fun h => c0 (h.of_set (by decide)), fun _ => rfl, fun h => c2 (h.of_set (by decide)), fun h => c3 (h.of_set (by decide)), fun h => c4 (h.of_set (by decide)), fun h => c5 (h.of_set (by decide)), fun h => c6 (h.of_set (by decide)), fun h => c7 (h.of_set (by decide)), th, fun h => by obtain ⟨e1, e2, e3, e4, e5, e6⟩ := c8 (h.of_set (by decide)); exact ⟨e1.set _, e2.set _, e3.set _, e4.set _, e5.set _, e6⟩, fun h => by obtain ⟨e1, e2⟩ := c9 (h.of_set (by decide)); exact ⟨e1.set _, e2⟩⟩
    · obtain rfl := Option.some.inj ho
      have hd := c1 (hdep ⟨1, .data⟩ (by simp) rfl)
      subst hd
      go_simp
      refine (bit me h1 h2 _).mono ?_
      rintro e w2 ⟨rfl, rfl⟩
      refine hK _ _ ⟨by simp [hs], hB, hlt, M, b, v7, _, _, v10, v11, v12, v13, v14, v15, rfl, fun h => c0 (h.of_set (by decide)), fun h => c1 (h.of_set (by decide)), fun _ => rfl, fun h => c3 (h.of_set (by decide)), fun h => c4 (h.of_set (by decide)), fun h => c5 (h.of_set (by decide)), fun h => c6 (h.of_set (by decide)), fun h => c7 (h.of_set (by decide)), th, fun h => by obtain ⟨e1, e2, e3, e4, e5, e6⟩ := c8 (h.of_set (by decide)); exact ⟨e1.set _, e2.set _, e3.set _, e4.set _, e5.set _, e6⟩, fun h => by obtain ⟨e1, e2⟩ := c9 (h.of_set (by decide)); exact ⟨e1.set _, e2⟩⟩
    · obtain rfl := Option.some.inj ho
      go_simp
      refine hK _ _ ⟨by simp [hs], hB, hlt, M, b, v7, v8, v9, _, v11, v12, v13, v14, v15, rfl, fun h => c0 (h.of_set (by decide)), fun h => c1 (h.of_set (by decide)), fun h => c2 (h.of_set (by decide)), fun _ => rfl, fun h => c4 (h.of_set (by decide)), fun h => c5 (h.of_set (by decide)), fun h => c6 (h.of_set (by decide)), fun h => c7 (h.of_set (by decide)), th, fun h => by obtain ⟨e1, e2, e3, e4, e5, e6⟩ := c8 (h.of_set (by decide)); exact ⟨e1.set _, e2.set _, e3.set _, e4.set _, e5.set _, e6⟩, fun h => by obtain ⟨e1, e2⟩ := c9 (h.of_set (by decide)); exact ⟨e1.set _, e2⟩⟩
    · obtain rfl := Option.some.inj ho
      have hd := c3 (hdep ⟨3, .data⟩ (by simp) rfl)
      subst hd
      go_simp
      refine (everyone n g1 g2 _).mono ?_
      rintro e w2 ⟨rfl, rfl⟩
      refine hK _ _ ⟨by simp [hs], hB, hlt, M, b, v7, v8, v9, _, _, v12, v13, v14, v15, rfl, fun h => c0 (h.of_set (by decide)), fun h => c1 (h.of_set (by decide)), fun h => c2 (h.of_set (by decide)), fun h => c3 (h.of_set (by decide)), fun _ => rfl, fun h => c5 (h.of_set (by decide)), fun h => c6 (h.of_set (by decide)), fun h => c7 (h.of_set (by decide)), th, fun h => by obtain ⟨e1, e2, e3, e4, e5, e6⟩ := c8 (h.of_set (by decide)); exact ⟨e1.set _, e2.set _, e3.set _, e4.set _, e5.set _, e6⟩, fun h => by obtain ⟨e1, e2⟩ := c9 (h.of_set (by decide)); exact ⟨e1.set _, e2⟩⟩
    · obtain rfl := Option.some.inj ho
      have k := (Below.refl w'.heap.size w').alloc (Nat.le_refl _) (Obj.map #[] 0)
      go_simp
      refine hK _ _ ⟨by simp [hs], hB.alloc (Nat.le_of_lt hlt) _, by simp; omega, w'.heap.size, b, v7, v8, v9, v10, v11, _, v13, v14, v15, rfl, fun h => c0 (h.of_set (by decide)), fun h => c1 (h.of_set (by decide)), fun h => c2 (h.of_set (by decide)), fun h => c3 (h.of_set (by decide)), fun h => c4 (h.of_set (by decide)), fun _ => ⟨rfl, hlt, by simp, heap_alloc_new w' _⟩, fun h => c6 (h.of_set (by decide)), fun h => c7 (h.of_set (by decide)), there_below th hlt k, fun h => (off hl (c8 (h.of_set (by decide))).2.2.2.1).elim, fun h => (off hl (c8 (c9 (h.of_set (by decide))).1).2.2.2.1).elim⟩
    · obtain rfl := Option.some.inj ho
      go_simp
      refine hK _ _ ⟨by simp [hs], hB, hlt, M, b, v7, v8, v9, v10, v11, v12, _, v14, v15, rfl, fun h => c0 (h.of_set (by decide)), fun h => c1 (h.of_set (by decide)), fun h => c2 (h.of_set (by decide)), fun h => c3 (h.of_set (by decide)), fun h => c4 (h.of_set (by decide)), fun h => c5 (h.of_set (by decide)), fun _ => rfl, fun h => c7 (h.of_set (by decide)), th, fun h => by obtain ⟨e1, e2, e3, e4, e5, e6⟩ := c8 (h.of_set (by decide)); exact ⟨e1.set _, e2.set _, e3.set _, e4.set _, e5.set _, e6⟩, fun h => by obtain ⟨e1, e2⟩ := c9 (h.of_set (by decide)); exact ⟨e1.set _, e2⟩⟩
    · obtain rfl := Option.some.inj ho
      have hd := c6 (hdep ⟨6, .data⟩ (by simp) rfl)
      subst hd
      have k := (Below.refl w'.heap.size w').alloc (Nat.le_refl _) (Obj.cells (madeCells #[.int .i64 0] n) 3)
      go_simp
      refine hK _ _ ⟨by simp [hs], hB.alloc (Nat.le_of_lt hlt) _, by simp; omega, M, w'.heap.size, v7, v8, v9, v10, v11, v12, _, _, v15, rfl, fun h => c0 (h.of_set (by decide)), fun h => c1 (h.of_set (by decide)), fun h => c2 (h.of_set (by decide)), fun h => c3 (h.of_set (by decide)), fun h => c4 (h.of_set (by decide)), fun h => by obtain ⟨e1, e2, e3, e4⟩ := c5 (h.of_set (by decide)); exact ⟨e1, e2, Nat.lt_of_lt_of_le e3 k.size, (k.block _ e3).trans e4⟩, fun h => c6 (h.of_set (by decide)), fun _ => rfl, there_below th hlt k, fun h => (off hl (c8 (h.of_set (by decide))).2.2.2.2.1).elim, fun h => (off hl (c8 (c9 (h.of_set (by decide))).1).2.2.2.2.1).elim⟩
    · obtain rfl := Option.some.inj ho
      have h0' : On l 0 := hdep ⟨0, .data⟩ (by simp) rfl
      have h2' : On l 2 := hdep ⟨2, .data⟩ (by simp) rfl
      have h4' : On l 4 := hdep ⟨4, .data⟩ (by simp) rfl
      have h5' : On l 5 := hdep ⟨5, .data⟩ (by simp) rfl
      have h7' : On l 7 := hdep ⟨7, .data⟩ (by simp) rfl
      have x0 := c0 h0'
      subst x0
      have x2 := c2 h2'
      subst x2
      have x4 := c4 h4'
      subst x4
      have x7 := c7 h7'
      subst x7
      obtain ⟨rfl, rk⟩ := c5 h5'
      go_simp
      refine hK _ _ ⟨by simp [hs], hB, hlt, M, b, _, v8, _, v10, _, _, v13, _, _, rfl, fun h => c0 (h.of_set (by decide)), fun h => c1 (h.of_set (by decide)), fun h => c2 (h.of_set (by decide)), fun h => c3 (h.of_set (by decide)), fun h => c4 (h.of_set (by decide)), fun h => c5 (h.of_set (by decide)), fun h => c6 (h.of_set (by decide)), fun h => c7 (h.of_set (by decide)), th, fun _ => ⟨h0'.set _, h2'.set _, h4'.set _, h5'.set _, h7'.set _, rfl⟩, fun h => by obtain ⟨e1, e2⟩ := c9 (h.of_set (by decide)); exact ⟨e1.set _, e2⟩⟩
    · obtain rfl := Option.some.inj ho
      have h8' : On l 8 := hdep ⟨8, .data⟩ (by simp) rfl
      obtain ⟨h0', h2', h4', h5', h7', rfl⟩ := c8 h8'
      rw [if_pos (by rfl)]
      refine wp_store_mid 44 (.tmp 6) (.tmp 15) rfl w.heap.size 0 (winCells me M b n) rfl rfl (fun j hj => th j (by simpa [winCells] using hj)) (by kernel_rfl) (by simp [winCells, Value.oneCell']) ?_
      refine hK _ _ ⟨by simp [hs], sets_below hB (Nat.le_refl _) _ _, by rw [sets_size]; exact hlt, M, b, v7, v8, v9, v10, v11, v12, v13, v14, _, rfl, fun h => c0 (h.of_set (by decide)), fun h => c1 (h.of_set (by decide)), fun h => c2 (h.of_set (by decide)), fun h => c3 (h.of_set (by decide)), fun h => c4 (h.of_set (by decide)), fun h => by obtain ⟨e1, e2, e3, e4⟩ := c5 (h.of_set (by decide)); exact ⟨e1, e2, by rw [sets_size]; exact e3, (sets_far (Nat.ne_of_gt e2) _ _ _).trans e4⟩, fun h => c6 (h.of_set (by decide)), fun h => c7 (h.of_set (by decide)), there_sets th _ _ _, fun _ => ⟨h0'.set _, h2'.set _, h4'.set _, h5'.set _, h7'.set _, rfl⟩, fun _ => ⟨h8'.set _, World.rangeAt_setCells_same _ _ _ _ (fun j hj => th j (by simpa [winCells] using hj))⟩⟩
    · simp at ho
  case last =>
    rintro l a w' ⟨hs, hB, hlt, M, b, v7, v8, v9, v10, v11, v12, v13, v14, v15, rfl, c0, c1, c2, c3, c4, c5, c6, c7, th, c8, c9⟩ hall
    obtain ⟨rfl, rk1, rk2, rk3⟩ := c5 (hall 5 (by decide))
    obtain ⟨h14, hr⟩ := c9 (hall 9 (by decide))
    clear c0 c1 c2 c3 c4 c5 c6 c7 c8 c9 hall hs m1 m2 th h14
    rename_i K hK
    refine hK _ _ ?_
    clear hK K
    go_wp2
    refine bodyPost_ret (v := .agg (winCells me M b n)) ?_ rfl ⟨M, b, rfl, hB, rk1, rk2, rk3⟩
    have := run_loadVar_mid (P := Yba.prog) w' w.heap.size 0 44 _ _ hr Yba.underlying44 rfl (by kernel_rfl)
    simp [results, Yba.results10, asAddr]
    simpa using this
end Go.Proofs.Ybulkcseo.C
