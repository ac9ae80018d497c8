/-
  LawS4681AFires, LawS4681BFire: the encoder's methods by contracts; a watch event's frame.
-/
import Derived.Test.YbulkcrxoDoorFEnc
set_option linter.unusedVariables false
namespace Go.Proofs.YbulkcrxoDoor.F
open Go.RowKit Go.Any

/-- The encoder at E has written bs into block B. -/
structure Enc (w : World) (E B : Nat) (bs : List UInt8) : Prop where
  c : w.cell? ⟨E, 0, none⟩ = some (.slice (some ⟨B, 0, none⟩) bs.length 64)
  f : w.frozen? ⟨E, 0, none⟩ = false
  b : Buf w B 64 bs
  ne : E ≠ B
  lE : E < w.heap.size
  lB : B < w.heap.size
theorem Enc.below {w w' : World} {E B : Nat} {bs : List UInt8} (h : Enc w E B bs) (k : Below w.heap.size w w') : Enc w' E B bs :=
  ⟨(k.cell (p := ⟨E, 0, none⟩) h.lE).trans h.c, (k.frozen (p := ⟨E, 0, none⟩) h.lE).trans h.f, h.b.below k h.lB, h.ne, Nat.lt_of_lt_of_le h.lE k.size, Nat.lt_of_lt_of_le h.lB k.size⟩
def EncP (w w' : World) (E B : Nat) (bs : List UInt8) : Prop := Enc w' E B bs ∧ Tw E B w w'
structure MidE (w w' : World) (E B n : Nat) (bs : List UInt8) : Prop where
  c : w'.cell? ⟨E, 0, none⟩ = some (.slice (some ⟨B, 0, none⟩) n 64)
  f : w'.frozen? ⟨E, 0, none⟩ = false
  b : Buf w' B 64 bs
  tw : Tw E B w w'
  ne : E ≠ B
  lE : E < w'.heap.size
  lB : B < w'.heap.size
theorem midE {w w2 : World} {E B n : Nat} {bs bs2 : List UInt8} (h : Enc w E B bs) (hn : bs.length = n) (hb : Buf w2 B 64 bs2) (ht : Tw B B w.drew w2) : MidE w w2 E B n bs2 :=
  ⟨(cellB (ht.block E h.lE h.ne h.ne) 0).trans (hn ▸ h.c), (World.frozen?_of_block (w := w.drew) (a := ⟨E, 0, none⟩) (ht.block E h.lE h.ne h.ne)).trans h.f, hb, ⟨ht.os, ht.tape, ht.output, ht.size, fun j h1 _ h3 => ht.block j h1 h3 h3⟩, h.ne, Nat.lt_of_lt_of_le h.lE ht.size, Nat.lt_of_lt_of_le h.lB ht.size⟩
theorem encP {w w' : World} {E B n m : Nat} {bs : List UInt8} (h : MidE w w' E B n bs) (hn : bs.length = m) : EncP w (w'.setCell ⟨E, 0, none⟩ (.slice (some ⟨B, 0, none⟩) m 64)) E B bs := by
  refine ⟨⟨?_, by simpa using h.f, h.b.block (Below.heap_setCell _ _ _ _ (Ne.symm h.ne)), h.ne, by simpa using h.lE, by simpa using h.lB⟩, h.tw.setCell _ _⟩
  rw [hn]
  exact World.cell?_setCell_same _ _ _ h.c

set_option maxHeartbeats 4000000 in
set_option maxRecDepth 20000 in
theorem int32 (E B : Nat) (bs : List UInt8) (v : Int) (u : Nat) (w : World) (h : Enc w E B bs) (hroom : bs.length + 4 ≤ 64) (hwr : IntKind.u32.wrap v = (u : Int)) (hu : u < 4294967296) :
    Calls Ybad.prog 91 #[.pointer (some ⟨E, 0, none⟩), .int .i32 v] w fun e w' => e = .returned (.tuple #[]) ∧ EncP w w' E B (bs ++ be32 u) := by
  have HE : Hid (Enc w E B bs) := h
  have gE := h.c
  clear h
  generalize hn : bs.length = n at gE hroom
  have HN : Hid (bs.length = n) := hn
  clear hn
  go_enter Ybad.func91, Ybad.ntmps91
  go_wp2_with fail
  refine wp_region_inv (fun l a w' => l.size = 12 ∧ ∃ v4 v5 v6 v7 v8 v9 v10 v11 v12 v13 v14, a = ⟨#[.pointer (some ⟨E, 0, none⟩), .int .i32 v, undef, undef, v4, v5, v6, v7, v8, v9, v10, v11, v12, v13, v14], []⟩ ∧ (On l 0 → v4 = .pointer (some ⟨E, 0, none⟩)) ∧ (On l 1 → v5 = .agg #[]) ∧ (On l 2 → v6 = .pointer (some ⟨E, 0, none⟩)) ∧ (On l 3 → v7 = .pointer (some ⟨E, 0, none⟩)) ∧ (On l 4 → v8 = .pointer (some ⟨E, 0, none⟩)) ∧ (On l 5 → v9 = .slice (some ⟨B, 0, none⟩) n 64) ∧ (On l 6 → v10 = .int .i32 v) ∧ (On l 7 → v11 = .int .u32 (u : Int)) ∧ (On l 8 → v12 = .slice (some ⟨B, 0, none⟩) (n + 4) 64) ∧ (On l 9 → v13 = .pointer (some ⟨E, 0, none⟩)) ∧ (On l 10 → v14 = .pointer (some ⟨E, 0, none⟩)) ∧ (On l 8 → ¬ On l 11 → MidE w w' E B n (bs ++ be32 u)) ∧ (On l 11 → EncP w w' E B (bs ++ be32 u)) ∧ (¬ On l 8 → w' = w.drew) ∧ (On l 8 → On l 5) ∧ (On l 11 → On l 8))
    (by kernel_rfl) (by kernel_rfl) (fun l a w' h => h.1) ?first ?step ?last
  case first =>
    refine ⟨by simp, undef, undef, undef, undef, undef, undef, undef, undef, undef, undef, undef, rfl, fun h => (not_on h).elim, fun h => (not_on h).elim, fun h => (not_on h).elim, fun h => (not_on h).elim, fun h => (not_on h).elim, fun h => (not_on h).elim, fun h => (not_on h).elim, fun h => (not_on h).elim, fun h => (not_on h).elim, fun h => (not_on h).elim, fun h => (not_on h).elim, fun h => (not_on h).elim, fun h => (not_on h).elim, fun _ => rfl, fun h => (not_on h).elim, fun h => (not_on h).elim⟩
  case step =>
    rintro l a w' i o ⟨hs, v4, v5, v6, v7, v8, v9, v10, v11, v12, v13, v14, rfl, c0, c1, c2, c3, c4, c5, c6, c7, c8, c9, c10, cM, cF, cW, c85, c118⟩ ho hl hdep K hK
    rcases i with _ | _ | _ | _ | _ | _ | _ | _ | _ | _ | _ | _ | i
    · obtain rfl := Option.some.inj ho
      go_simp
      refine hK _ _ ⟨by simp [hs], _, _, _, _, _, _, _, _, _, _, _, rfl, fun _ => rfl, fun h => c1 (h.of_set (by decide)), fun h => c2 (h.of_set (by decide)), fun h => c3 (h.of_set (by decide)), fun h => c4 (h.of_set (by decide)), fun h => c5 (h.of_set (by decide)), fun h => c6 (h.of_set (by decide)), fun h => c7 (h.of_set (by decide)), fun h => c8 (h.of_set (by decide)), fun h => c9 (h.of_set (by decide)), fun h => c10 (h.of_set (by decide)), fun h k => cM (h.of_set (by decide)) (fun q => k (q.set _)), fun h => cF (h.of_set (by decide)), fun h => cW (fun k => h (k.set _)), fun h => (c85 (h.of_set (by decide))).set _, fun h => (c118 (h.of_set (by decide))).set _⟩
    · obtain rfl := Option.some.inj ho
      go_simp
      refine hK _ _ ⟨by simp [hs], _, _, _, _, _, _, _, _, _, _, _, rfl, fun h => c0 (h.of_set (by decide)), fun _ => rfl, fun h => c2 (h.of_set (by decide)), fun h => c3 (h.of_set (by decide)), fun h => c4 (h.of_set (by decide)), fun h => c5 (h.of_set (by decide)), fun h => c6 (h.of_set (by decide)), fun h => c7 (h.of_set (by decide)), fun h => c8 (h.of_set (by decide)), fun h => c9 (h.of_set (by decide)), fun h => c10 (h.of_set (by decide)), fun h k => cM (h.of_set (by decide)) (fun q => k (q.set _)), fun h => cF (h.of_set (by decide)), fun h => cW (fun k => h (k.set _)), fun h => (c85 (h.of_set (by decide))).set _, fun h => (c118 (h.of_set (by decide))).set _⟩
    · obtain rfl := Option.some.inj ho
      go_simp
      refine hK _ _ ⟨by simp [hs], _, _, _, _, _, _, _, _, _, _, _, rfl, fun h => c0 (h.of_set (by decide)), fun h => c1 (h.of_set (by decide)), fun _ => rfl, fun h => c3 (h.of_set (by decide)), fun h => c4 (h.of_set (by decide)), fun h => c5 (h.of_set (by decide)), fun h => c6 (h.of_set (by decide)), fun h => c7 (h.of_set (by decide)), fun h => c8 (h.of_set (by decide)), fun h => c9 (h.of_set (by decide)), fun h => c10 (h.of_set (by decide)), fun h k => cM (h.of_set (by decide)) (fun q => k (q.set _)), fun h => cF (h.of_set (by decide)), fun h => cW (fun k => h (k.set _)), fun h => (c85 (h.of_set (by decide))).set _, fun h => (c118 (h.of_set (by decide))).set _⟩
    · obtain rfl := Option.some.inj ho
      have x2 := c2 (hdep ⟨2, .data⟩ (by simp) rfl)
      subst x2
      go_simp
      refine hK _ _ ⟨by simp [hs], _, _, _, _, _, _, _, _, _, _, _, rfl, fun h => c0 (h.of_set (by decide)), fun h => c1 (h.of_set (by decide)), fun h => c2 (h.of_set (by decide)), fun _ => rfl, fun h => c4 (h.of_set (by decide)), fun h => c5 (h.of_set (by decide)), fun h => c6 (h.of_set (by decide)), fun h => c7 (h.of_set (by decide)), fun h => c8 (h.of_set (by decide)), fun h => c9 (h.of_set (by decide)), fun h => c10 (h.of_set (by decide)), fun h k => cM (h.of_set (by decide)) (fun q => k (q.set _)), fun h => cF (h.of_set (by decide)), fun h => cW (fun k => h (k.set _)), fun h => (c85 (h.of_set (by decide))).set _, fun h => (c118 (h.of_set (by decide))).set _⟩
    · obtain rfl := Option.some.inj ho
      have x3 := c3 (hdep ⟨3, .data⟩ (by simp) rfl)
      subst x3
      go_simp
      refine hK _ _ ⟨by simp [hs], _, _, _, _, _, _, _, _, _, _, _, rfl, fun h => c0 (h.of_set (by decide)), fun h => c1 (h.of_set (by decide)), fun h => c2 (h.of_set (by decide)), fun h => c3 (h.of_set (by decide)), fun _ => rfl, fun h => c5 (h.of_set (by decide)), fun h => c6 (h.of_set (by decide)), fun h => c7 (h.of_set (by decide)), fun h => c8 (h.of_set (by decide)), fun h => c9 (h.of_set (by decide)), fun h => c10 (h.of_set (by decide)), fun h k => cM (h.of_set (by decide)) (fun q => k (q.set _)), fun h => cF (h.of_set (by decide)), fun h => cW (fun k => h (k.set _)), fun h => (c85 (h.of_set (by decide))).set _, fun h => (c118 (h.of_set (by decide))).set _⟩
    · obtain rfl := Option.some.inj ho
      have x4 := c4 (hdep ⟨4, .data⟩ (by simp) rfl)
      subst x4
      have y : w'.cell? ⟨E, 0, none⟩ = some (.slice (some ⟨B, 0, none⟩) n 64) := by
        by_cases k8 : On l 8
        · exact (off hl (c85 k8)).elim
        · rw [cW k8]; exact gE
      go_simp
      refine hK _ _ ⟨by simp [hs], _, _, _, _, _, _, _, _, _, _, _, rfl, fun h => c0 (h.of_set (by decide)), fun h => c1 (h.of_set (by decide)), fun h => c2 (h.of_set (by decide)), fun h => c3 (h.of_set (by decide)), fun h => c4 (h.of_set (by decide)), fun _ => rfl, fun h => c6 (h.of_set (by decide)), fun h => c7 (h.of_set (by decide)), fun h => c8 (h.of_set (by decide)), fun h => c9 (h.of_set (by decide)), fun h => c10 (h.of_set (by decide)), fun h k => cM (h.of_set (by decide)) (fun q => k (q.set _)), fun h => cF (h.of_set (by decide)), fun h => cW (fun k => h (k.set _)), fun h => (c85 (h.of_set (by decide))).set _, fun h => (c118 (h.of_set (by decide))).set _⟩
    · obtain rfl := Option.some.inj ho
      go_simp
      refine hK _ _ ⟨by simp [hs], _, _, _, _, _, _, _, _, _, _, _, rfl, fun h => c0 (h.of_set (by decide)), fun h => c1 (h.of_set (by decide)), fun h => c2 (h.of_set (by decide)), fun h => c3 (h.of_set (by decide)), fun h => c4 (h.of_set (by decide)), fun h => c5 (h.of_set (by decide)), fun _ => rfl, fun h => c7 (h.of_set (by decide)), fun h => c8 (h.of_set (by decide)), fun h => c9 (h.of_set (by decide)), fun h => c10 (h.of_set (by decide)), fun h k => cM (h.of_set (by decide)) (fun q => k (q.set _)), fun h => cF (h.of_set (by decide)), fun h => cW (fun k => h (k.set _)), fun h => (c85 (h.of_set (by decide))).set _, fun h => (c118 (h.of_set (by decide))).set _⟩
    · obtain rfl := Option.some.inj ho
      have x6 := c6 (hdep ⟨6, .data⟩ (by simp) rfl)
      subst x6
      have y := hwr
      go_simp
      refine hK _ _ ⟨by simp [hs], _, _, _, _, _, _, _, _, _, _, _, rfl, fun h => c0 (h.of_set (by decide)), fun h => c1 (h.of_set (by decide)), fun h => c2 (h.of_set (by decide)), fun h => c3 (h.of_set (by decide)), fun h => c4 (h.of_set (by decide)), fun h => c5 (h.of_set (by decide)), fun h => c6 (h.of_set (by decide)), fun _ => rfl, fun h => c8 (h.of_set (by decide)), fun h => c9 (h.of_set (by decide)), fun h => c10 (h.of_set (by decide)), fun h k => cM (h.of_set (by decide)) (fun q => k (q.set _)), fun h => cF (h.of_set (by decide)), fun h => cW (fun k => h (k.set _)), fun h => (c85 (h.of_set (by decide))).set _, fun h => (c118 (h.of_set (by decide))).set _⟩
    · obtain rfl := Option.some.inj ho
      have x1 := c1 (hdep ⟨1, .data⟩ (by simp) rfl)
      subst x1
      have x5 := c5 (hdep ⟨5, .data⟩ (by simp) rfl)
      subst x5
      have x7 := c7 (hdep ⟨7, .data⟩ (by simp) rfl)
      subst x7
      have hw : w' = w.drew := cW (fun k => off hl k)
      subst hw
      go_simp
      have AA := app32 B bs 64 u w.drew hu (HE.out.b.block rfl) (by have := HN.out; omega) HE.out.lB
      rw [HN.out] at AA
      refine AA.mono ?_
      rintro e w2 ⟨he, hb2, ht2⟩
      subst he
      refine hK _ _ ⟨by simp [hs], _, _, _, _, _, _, _, _, _, _, _, rfl, fun h => c0 (h.of_set (by decide)), fun h => c1 (h.of_set (by decide)), fun h => c2 (h.of_set (by decide)), fun h => c3 (h.of_set (by decide)), fun h => c4 (h.of_set (by decide)), fun h => c5 (h.of_set (by decide)), fun h => c6 (h.of_set (by decide)), fun h => c7 (h.of_set (by decide)), fun _ => rfl, fun h => c9 (h.of_set (by decide)), fun h => c10 (h.of_set (by decide)), fun _ _ => midE HE.out HN.out hb2 ht2, fun h => (off hl (c118 (h.of_set (by decide)))).elim, fun h => (h (on_set (by omega))).elim, fun _ => On.set _ (hdep ⟨5, .data⟩ (by simp) rfl), fun h => (c118 (h.of_set (by decide))).set _⟩
    · obtain rfl := Option.some.inj ho
      have x0 := c0 (hdep ⟨0, .data⟩ (by simp) rfl)
      subst x0
      go_simp
      refine hK _ _ ⟨by simp [hs], _, _, _, _, _, _, _, _, _, _, _, rfl, fun h => c0 (h.of_set (by decide)), fun h => c1 (h.of_set (by decide)), fun h => c2 (h.of_set (by decide)), fun h => c3 (h.of_set (by decide)), fun h => c4 (h.of_set (by decide)), fun h => c5 (h.of_set (by decide)), fun h => c6 (h.of_set (by decide)), fun h => c7 (h.of_set (by decide)), fun h => c8 (h.of_set (by decide)), fun _ => rfl, fun h => c10 (h.of_set (by decide)), fun h k => cM (h.of_set (by decide)) (fun q => k (q.set _)), fun h => cF (h.of_set (by decide)), fun h => cW (fun k => h (k.set _)), fun h => (c85 (h.of_set (by decide))).set _, fun h => (c118 (h.of_set (by decide))).set _⟩
    · obtain rfl := Option.some.inj ho
      have x9 := c9 (hdep ⟨9, .data⟩ (by simp) rfl)
      subst x9
      go_simp
      refine hK _ _ ⟨by simp [hs], _, _, _, _, _, _, _, _, _, _, _, rfl, fun h => c0 (h.of_set (by decide)), fun h => c1 (h.of_set (by decide)), fun h => c2 (h.of_set (by decide)), fun h => c3 (h.of_set (by decide)), fun h => c4 (h.of_set (by decide)), fun h => c5 (h.of_set (by decide)), fun h => c6 (h.of_set (by decide)), fun h => c7 (h.of_set (by decide)), fun h => c8 (h.of_set (by decide)), fun h => c9 (h.of_set (by decide)), fun _ => rfl, fun h k => cM (h.of_set (by decide)) (fun q => k (q.set _)), fun h => cF (h.of_set (by decide)), fun h => cW (fun k => h (k.set _)), fun h => (c85 (h.of_set (by decide))).set _, fun h => (c118 (h.of_set (by decide))).set _⟩
    · obtain rfl := Option.some.inj ho
      have h8 : On l 8 := hdep ⟨8, .data⟩ (by simp) rfl
      have x10 := c10 (hdep ⟨10, .data⟩ (by simp) rfl)
      subst x10
      have x8 := c8 (hdep ⟨8, .data⟩ (by simp) rfl)
      subst x8
      have hm := cM h8 (fun k => off hl k)
      have y := hm.c
      have y' := hm.f
      go_simp
      refine hK _ _ ⟨by simp [hs], _, _, _, _, _, _, _, _, _, _, _, rfl, fun h => c0 (h.of_set (by decide)), fun h => c1 (h.of_set (by decide)), fun h => c2 (h.of_set (by decide)), fun h => c3 (h.of_set (by decide)), fun h => c4 (h.of_set (by decide)), fun _ => rfl, fun h => c6 (h.of_set (by decide)), fun h => c7 (h.of_set (by decide)), fun h => c8 (h.of_set (by decide)), fun h => c9 (h.of_set (by decide)), fun h => c10 (h.of_set (by decide)), fun _ k => (k (on_set (by omega))).elim, fun _ => encP hm (by simp [HN.out, be32_len]), fun h => (h (h8.set _)).elim, fun h => (c85 (h.of_set (by decide))).set _, fun _ => h8.set _⟩
    · simp at ho
  case last =>
    rintro l a w2 ⟨hs, v4, v5, v6, v7, v8, v9, v10, v11, v12, v13, v14, rfl, c0, c1, c2, c3, c4, c5, c6, c7, c8, c9, c10, cM, cF, cW, c85, c118⟩ hall
    have x0 := c0 (hall 0 (by decide))
    subst x0
    have x1 := c1 (hall 1 (by decide))
    subst x1
    have x2 := c2 (hall 2 (by decide))
    subst x2
    have x3 := c3 (hall 3 (by decide))
    subst x3
    have x4 := c4 (hall 4 (by decide))
    subst x4
    have x5 := c5 (hall 5 (by decide))
    subst x5
    have x6 := c6 (hall 6 (by decide))
    subst x6
    have x7 := c7 (hall 7 (by decide))
    subst x7
    have x8 := c8 (hall 8 (by decide))
    subst x8
    have x9 := c9 (hall 9 (by decide))
    subst x9
    have x10 := c10 (hall 10 (by decide))
    subst x10
    have hf := cF (hall 11 (by decide))
    clear c0 c1 c2 c3 c4 c5 c6 c7 c8 c9 c10 cM cF cW c85 c118 hall hs
    go_wp2
    refine bodyPost_end (results_none rfl _ _ _) rfl ?_
    exact ⟨rfl, hf⟩

set_option maxHeartbeats 4000000 in
set_option maxRecDepth 20000 in
theorem int64 (E B : Nat) (bs : List UInt8) (w : World) (h : Enc w E B bs) (hroom : bs.length + 8 ≤ 64) :
    Calls Ybad.prog 90 #[.pointer (some ⟨E, 0, none⟩), .int .i64 (-1)] w fun e w' => e = .returned (.tuple #[]) ∧ EncP w w' E B (bs ++ ff8) := by
  have HE : Hid (Enc w E B bs) := h
  have gE := h.c
  clear h
  generalize hn : bs.length = n at gE hroom
  have HN : Hid (bs.length = n) := hn
  clear hn
  go_enter Ybad.func90, Ybad.ntmps90
  go_wp2_with fail
  refine wp_region_inv (fun l a w' => l.size = 12 ∧ ∃ v4 v5 v6 v7 v8 v9 v10 v11 v12 v13 v14, a = ⟨#[.pointer (some ⟨E, 0, none⟩), .int .i64 (-1), undef, undef, v4, v5, v6, v7, v8, v9, v10, v11, v12, v13, v14], []⟩ ∧ (On l 0 → v4 = .pointer (some ⟨E, 0, none⟩)) ∧ (On l 1 → v5 = .agg #[]) ∧ (On l 2 → v6 = .pointer (some ⟨E, 0, none⟩)) ∧ (On l 3 → v7 = .pointer (some ⟨E, 0, none⟩)) ∧ (On l 4 → v8 = .pointer (some ⟨E, 0, none⟩)) ∧ (On l 5 → v9 = .slice (some ⟨B, 0, none⟩) n 64) ∧ (On l 6 → v10 = .int .i64 (-1)) ∧ (On l 7 → v11 = .int .u64 18446744073709551615) ∧ (On l 8 → v12 = .slice (some ⟨B, 0, none⟩) (n + 8) 64) ∧ (On l 9 → v13 = .pointer (some ⟨E, 0, none⟩)) ∧ (On l 10 → v14 = .pointer (some ⟨E, 0, none⟩)) ∧ (On l 8 → ¬ On l 11 → MidE w w' E B n (bs ++ ff8)) ∧ (On l 11 → EncP w w' E B (bs ++ ff8)) ∧ (¬ On l 8 → w' = w.drew) ∧ (On l 8 → On l 5) ∧ (On l 11 → On l 8))
    (by kernel_rfl) (by kernel_rfl) (fun l a w' h => h.1) ?first ?step ?last
  case first =>
    refine ⟨by simp, undef, undef, undef, undef, undef, undef, undef, undef, undef, undef, undef, rfl, fun h => (not_on h).elim, fun h => (not_on h).elim, fun h => (not_on h).elim, fun h => (not_on h).elim, fun h => (not_on h).elim, fun h => (not_on h).elim, fun h => (not_on h).elim, fun h => (not_on h).elim, fun h => (not_on h).elim, fun h => (not_on h).elim, fun h => (not_on h).elim, fun h => (not_on h).elim, fun h => (not_on h).elim, fun _ => rfl, fun h => (not_on h).elim, fun h => (not_on h).elim⟩
  case step =>
    rintro l a w' i o ⟨hs, v4, v5, v6, v7, v8, v9, v10, v11, v12, v13, v14, rfl, c0, c1, c2, c3, c4, c5, c6, c7, c8, c9, c10, cM, cF, cW, c85, c118⟩ ho hl hdep K hK
    rcases i with _ | _ | _ | _ | _ | _ | _ | _ | _ | _ | _ | _ | i
    · obtain rfl := Option.some.inj ho
      go_simp
      refine hK _ _ ⟨by simp [hs], _, _, _, _, _, _, _, _, _, _, _, rfl, fun _ => rfl, fun h => c1 (h.of_set (by decide)), fun h => c2 (h.of_set (by decide)), fun h => c3 (h.of_set (by decide)), fun h => c4 (h.of_set (by decide)), fun h => c5 (h.of_set (by decide)), fun h => c6 (h.of_set (by decide)), fun h => c7 (h.of_set (by decide)), fun h => c8 (h.of_set (by decide)), fun h => c9 (h.of_set (by decide)), fun h => c10 (h.of_set (by decide)), fun h k => cM (h.of_set (by decide)) (fun q => k (q.set _)), fun h => cF (h.of_set (by decide)), fun h => cW (fun k => h (k.set _)), fun h => (c85 (h.of_set (by decide))).set _, fun h => (c118 (h.of_set (by decide))).set _⟩
    · obtain rfl := Option.some.inj ho
      go_simp
      refine hK _ _ ⟨by simp [hs], _, _, _, _, _, _, _, _, _, _, _, rfl, fun h => c0 (h.of_set (by decide)), fun _ => rfl, fun h => c2 (h.of_set (by decide)), fun h => c3 (h.of_set (by decide)), fun h => c4 (h.of_set (by decide)), fun h => c5 (h.of_set (by decide)), fun h => c6 (h.of_set (by decide)), fun h => c7 (h.of_set (by decide)), fun h => c8 (h.of_set (by decide)), fun h => c9 (h.of_set (by decide)), fun h => c10 (h.of_set (by decide)), fun h k => cM (h.of_set (by decide)) (fun q => k (q.set _)), fun h => cF (h.of_set (by decide)), fun h => cW (fun k => h (k.set _)), fun h => (c85 (h.of_set (by decide))).set _, fun h => (c118 (h.of_set (by decide))).set _⟩
    · obtain rfl := Option.some.inj ho
      go_simp
      refine hK _ _ ⟨by simp [hs], _, _, _, _, _, _, _, _, _, _, _, rfl, fun h => c0 (h.of_set (by decide)), fun h => c1 (h.of_set (by decide)), fun _ => rfl, fun h => c3 (h.of_set (by decide)), fun h => c4 (h.of_set (by decide)), fun h => c5 (h.of_set (by decide)), fun h => c6 (h.of_set (by decide)), fun h => c7 (h.of_set (by decide)), fun h => c8 (h.of_set (by decide)), fun h => c9 (h.of_set (by decide)), fun h => c10 (h.of_set (by decide)), fun h k => cM (h.of_set (by decide)) (fun q => k (q.set _)), fun h => cF (h.of_set (by decide)), fun h => cW (fun k => h (k.set _)), fun h => (c85 (h.of_set (by decide))).set _, fun h => (c118 (h.of_set (by decide))).set _⟩
    · obtain rfl := Option.some.inj ho
      have x2 := c2 (hdep ⟨2, .data⟩ (by simp) rfl)
      subst x2
      go_simp
      refine hK _ _ ⟨by simp [hs], _, _, _, _, _, _, _, _, _, _, _, rfl, fun h => c0 (h.of_set (by decide)), fun h => c1 (h.of_set (by decide)), fun h => c2 (h.of_set (by decide)), fun _ => rfl, fun h => c4 (h.of_set (by decide)), fun h => c5 (h.of_set (by decide)), fun h => c6 (h.of_set (by decide)), fun h => c7 (h.of_set (by decide)), fun h => c8 (h.of_set (by decide)), fun h => c9 (h.of_set (by decide)), fun h => c10 (h.of_set (by decide)), fun h k => cM (h.of_set (by decide)) (fun q => k (q.set _)), fun h => cF (h.of_set (by decide)), fun h => cW (fun k => h (k.set _)), fun h => (c85 (h.of_set (by decide))).set _, fun h => (c118 (h.of_set (by decide))).set _⟩
    · obtain rfl := Option.some.inj ho
      have x3 := c3 (hdep ⟨3, .data⟩ (by simp) rfl)
      subst x3
      go_simp
      refine hK _ _ ⟨by simp [hs], _, _, _, _, _, _, _, _, _, _, _, rfl, fun h => c0 (h.of_set (by decide)), fun h => c1 (h.of_set (by decide)), fun h => c2 (h.of_set (by decide)), fun h => c3 (h.of_set (by decide)), fun _ => rfl, fun h => c5 (h.of_set (by decide)), fun h => c6 (h.of_set (by decide)), fun h => c7 (h.of_set (by decide)), fun h => c8 (h.of_set (by decide)), fun h => c9 (h.of_set (by decide)), fun h => c10 (h.of_set (by decide)), fun h k => cM (h.of_set (by decide)) (fun q => k (q.set _)), fun h => cF (h.of_set (by decide)), fun h => cW (fun k => h (k.set _)), fun h => (c85 (h.of_set (by decide))).set _, fun h => (c118 (h.of_set (by decide))).set _⟩
    · obtain rfl := Option.some.inj ho
      have x4 := c4 (hdep ⟨4, .data⟩ (by simp) rfl)
      subst x4
      have y : w'.cell? ⟨E, 0, none⟩ = some (.slice (some ⟨B, 0, none⟩) n 64) := by
        by_cases k8 : On l 8
        · exact (off hl (c85 k8)).elim
        · rw [cW k8]; exact gE
      go_simp
      refine hK _ _ ⟨by simp [hs], _, _, _, _, _, _, _, _, _, _, _, rfl, fun h => c0 (h.of_set (by decide)), fun h => c1 (h.of_set (by decide)), fun h => c2 (h.of_set (by decide)), fun h => c3 (h.of_set (by decide)), fun h => c4 (h.of_set (by decide)), fun _ => rfl, fun h => c6 (h.of_set (by decide)), fun h => c7 (h.of_set (by decide)), fun h => c8 (h.of_set (by decide)), fun h => c9 (h.of_set (by decide)), fun h => c10 (h.of_set (by decide)), fun h k => cM (h.of_set (by decide)) (fun q => k (q.set _)), fun h => cF (h.of_set (by decide)), fun h => cW (fun k => h (k.set _)), fun h => (c85 (h.of_set (by decide))).set _, fun h => (c118 (h.of_set (by decide))).set _⟩
    · obtain rfl := Option.some.inj ho
      go_simp
      refine hK _ _ ⟨by simp [hs], _, _, _, _, _, _, _, _, _, _, _, rfl, fun h => c0 (h.of_set (by decide)), fun h => c1 (h.of_set (by decide)), fun h => c2 (h.of_set (by decide)), fun h => c3 (h.of_set (by decide)), fun h => c4 (h.of_set (by decide)), fun h => c5 (h.of_set (by decide)), fun _ => rfl, fun h => c7 (h.of_set (by decide)), fun h => c8 (h.of_set (by decide)), fun h => c9 (h.of_set (by decide)), fun h => c10 (h.of_set (by decide)), fun h k => cM (h.of_set (by decide)) (fun q => k (q.set _)), fun h => cF (h.of_set (by decide)), fun h => cW (fun k => h (k.set _)), fun h => (c85 (h.of_set (by decide))).set _, fun h => (c118 (h.of_set (by decide))).set _⟩
    · obtain rfl := Option.some.inj ho
      have x6 := c6 (hdep ⟨6, .data⟩ (by simp) rfl)
      subst x6
      go_simp
      refine hK _ _ ⟨by simp [hs], _, _, _, _, _, _, _, _, _, _, _, rfl, fun h => c0 (h.of_set (by decide)), fun h => c1 (h.of_set (by decide)), fun h => c2 (h.of_set (by decide)), fun h => c3 (h.of_set (by decide)), fun h => c4 (h.of_set (by decide)), fun h => c5 (h.of_set (by decide)), fun h => c6 (h.of_set (by decide)), fun _ => rfl, fun h => c8 (h.of_set (by decide)), fun h => c9 (h.of_set (by decide)), fun h => c10 (h.of_set (by decide)), fun h k => cM (h.of_set (by decide)) (fun q => k (q.set _)), fun h => cF (h.of_set (by decide)), fun h => cW (fun k => h (k.set _)), fun h => (c85 (h.of_set (by decide))).set _, fun h => (c118 (h.of_set (by decide))).set _⟩
    · obtain rfl := Option.some.inj ho
      have x1 := c1 (hdep ⟨1, .data⟩ (by simp) rfl)
      subst x1
      have x5 := c5 (hdep ⟨5, .data⟩ (by simp) rfl)
      subst x5
      have x7 := c7 (hdep ⟨7, .data⟩ (by simp) rfl)
      subst x7
      have hw : w' = w.drew := cW (fun k => off hl k)
      subst hw
      go_simp
      have AA := app64 B bs 64 w.drew (HE.out.b.block rfl) (by have := HN.out; omega) HE.out.lB
      rw [HN.out] at AA
      refine AA.mono ?_
      rintro e w2 ⟨he, hb2, ht2⟩
      subst he
      refine hK _ _ ⟨by simp [hs], _, _, _, _, _, _, _, _, _, _, _, rfl, fun h => c0 (h.of_set (by decide)), fun h => c1 (h.of_set (by decide)), fun h => c2 (h.of_set (by decide)), fun h => c3 (h.of_set (by decide)), fun h => c4 (h.of_set (by decide)), fun h => c5 (h.of_set (by decide)), fun h => c6 (h.of_set (by decide)), fun h => c7 (h.of_set (by decide)), fun _ => rfl, fun h => c9 (h.of_set (by decide)), fun h => c10 (h.of_set (by decide)), fun _ _ => midE HE.out HN.out hb2 ht2, fun h => (off hl (c118 (h.of_set (by decide)))).elim, fun h => (h (on_set (by omega))).elim, fun _ => On.set _ (hdep ⟨5, .data⟩ (by simp) rfl), fun h => (c118 (h.of_set (by decide))).set _⟩
    · obtain rfl := Option.some.inj ho
      have x0 := c0 (hdep ⟨0, .data⟩ (by simp) rfl)
      subst x0
      go_simp
      refine hK _ _ ⟨by simp [hs], _, _, _, _, _, _, _, _, _, _, _, rfl, fun h => c0 (h.of_set (by decide)), fun h => c1 (h.of_set (by decide)), fun h => c2 (h.of_set (by decide)), fun h => c3 (h.of_set (by decide)), fun h => c4 (h.of_set (by decide)), fun h => c5 (h.of_set (by decide)), fun h => c6 (h.of_set (by decide)), fun h => c7 (h.of_set (by decide)), fun h => c8 (h.of_set (by decide)), fun _ => rfl, fun h => c10 (h.of_set (by decide)), fun h k => cM (h.of_set (by decide)) (fun q => k (q.set _)), fun h => cF (h.of_set (by decide)), fun h => cW (fun k => h (k.set _)), fun h => (c85 (h.of_set (by decide))).set _, fun h => (c118 (h.of_set (by decide))).set _⟩
    · obtain rfl := Option.some.inj ho
      have x9 := c9 (hdep ⟨9, .data⟩ (by simp) rfl)
      subst x9
      go_simp
      refine hK _ _ ⟨by simp [hs], _, _, _, _, _, _, _, _, _, _, _, rfl, fun h => c0 (h.of_set (by decide)), fun h => c1 (h.of_set (by decide)), fun h => c2 (h.of_set (by decide)), fun h => c3 (h.of_set (by decide)), fun h => c4 (h.of_set (by decide)), fun h => c5 (h.of_set (by decide)), fun h => c6 (h.of_set (by decide)), fun h => c7 (h.of_set (by decide)), fun h => c8 (h.of_set (by decide)), fun h => c9 (h.of_set (by decide)), fun _ => rfl, fun h k => cM (h.of_set (by decide)) (fun q => k (q.set _)), fun h => cF (h.of_set (by decide)), fun h => cW (fun k => h (k.set _)), fun h => (c85 (h.of_set (by decide))).set _, fun h => (c118 (h.of_set (by decide))).set _⟩
    · obtain rfl := Option.some.inj ho
      have h8 : On l 8 := hdep ⟨8, .data⟩ (by simp) rfl
      have x10 := c10 (hdep ⟨10, .data⟩ (by simp) rfl)
      subst x10
      have x8 := c8 (hdep ⟨8, .data⟩ (by simp) rfl)
      subst x8
      have hm := cM h8 (fun k => off hl k)
      have y := hm.c
      have y' := hm.f
      go_simp
      refine hK _ _ ⟨by simp [hs], _, _, _, _, _, _, _, _, _, _, _, rfl, fun h => c0 (h.of_set (by decide)), fun h => c1 (h.of_set (by decide)), fun h => c2 (h.of_set (by decide)), fun h => c3 (h.of_set (by decide)), fun h => c4 (h.of_set (by decide)), fun _ => rfl, fun h => c6 (h.of_set (by decide)), fun h => c7 (h.of_set (by decide)), fun h => c8 (h.of_set (by decide)), fun h => c9 (h.of_set (by decide)), fun h => c10 (h.of_set (by decide)), fun _ k => (k (on_set (by omega))).elim, fun _ => encP hm (by simp [HN.out, ff8]), fun h => (h (h8.set _)).elim, fun h => (c85 (h.of_set (by decide))).set _, fun _ => h8.set _⟩
    · simp at ho
  case last =>
    rintro l a w2 ⟨hs, v4, v5, v6, v7, v8, v9, v10, v11, v12, v13, v14, rfl, c0, c1, c2, c3, c4, c5, c6, c7, c8, c9, c10, cM, cF, cW, c85, c118⟩ hall
    have x0 := c0 (hall 0 (by decide))
    subst x0
    have x1 := c1 (hall 1 (by decide))
    subst x1
    have x2 := c2 (hall 2 (by decide))
    subst x2
    have x3 := c3 (hall 3 (by decide))
    subst x3
    have x4 := c4 (hall 4 (by decide))
    subst x4
    have x5 := c5 (hall 5 (by decide))
    subst x5
    have x6 := c6 (hall 6 (by decide))
    subst x6
    have x7 := c7 (hall 7 (by decide))
    subst x7
    have x8 := c8 (hall 8 (by decide))
    subst x8
    have x9 := c9 (hall 9 (by decide))
    subst x9
    have x10 := c10 (hall 10 (by decide))
    subst x10
    have hf := cF (hall 11 (by decide))
    clear c0 c1 c2 c3 c4 c5 c6 c7 c8 c9 c10 cM cF cW c85 c118 hall hs
    go_wp2
    refine bodyPost_end (results_none rfl _ _ _) rfl ?_
    exact ⟨rfl, hf⟩
end Go.Proofs.YbulkcrxoDoor.F
