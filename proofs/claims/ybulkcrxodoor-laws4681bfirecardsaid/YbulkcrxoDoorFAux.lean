/-
  LawS4681AFires: the law's own helpers by contracts: 'zzs4681apath', 'zzs4681aframe', 'zzs4681aeq', 'newWatchTable'.
-/
import Derived.Test.YbulkcrxoDoorFNot
set_option linter.unusedVariables false
namespace Go.Proofs.YbulkcrxoDoor.F
open Go.RowKit Go.Any

def pth (i : Nat) : ByteArray := if i % 3 = 0 then ⟨#[47, 97]⟩ else if i % 3 = 1 then ⟨#[47, 98]⟩ else ⟨#[47, 97, 47, 98]⟩
theorem pth_size (i : Nat) : (pth i).size ≤ 8 := by
  unfold pth
  split
  · decide
  · split <;> decide

set_option maxHeartbeats 1000000 in
theorem apath (i : Nat) (hi : i < 256) (w : World) : Calls Ybad.prog 8 #[.int .u8 (i : Int)] w fun e w' => e = .returned (.string (pth i)) ∧ w' = w := by
  obtain ⟨r, hr⟩ : ∃ r, Hid (r = i % 3) := ⟨_, rfl⟩
  have e1 : Int.tmod (i : Int) 3 = (r : Int) := by rw [Int.tmod_eq_emod_of_nonneg (by omega)]; have := hr.out; omega
  have hr3 : r < 3 := by have := hr.out; omega
  by_cases h0 : r = 0
  · subst h0
    have hp : Hid (pth i = ⟨#[47, 97]⟩) := by show _ = _; unfold pth; rw [if_pos hr.out.symm]
    go_enter Ybad.func8, Ybad.ntmps8
    go_wp2
    go_ret
    exact ⟨by rw [hp.out]; rfl, rfl⟩
  · by_cases h1 : r = 1
    · subst h1
      have hp : Hid (pth i = ⟨#[47, 98]⟩) := by show _ = _; unfold pth; rw [if_neg (by rw [← hr.out]; decide), if_pos hr.out.symm]
      go_enter Ybad.func8, Ybad.ntmps8
      go_wp2
      go_ret
      exact ⟨by rw [hp.out]; rfl, rfl⟩
    · obtain rfl : r = 2 := by omega
      have hp : Hid (pth i = ⟨#[47, 97, 47, 98]⟩) := by show _ = _; unfold pth; rw [if_neg (by rw [← hr.out]; decide), if_neg (by rw [← hr.out]; decide)]
      go_enter Ybad.func8, Ybad.ntmps8
      go_wp2
      go_ret
      exact ⟨by rw [hp.out]; rfl, rfl⟩

set_option maxHeartbeats 1000000 in
theorem newTable (w : World) : Calls Ybad.prog 7 #[] w fun e w' => e = .returned (.pointer (some ⟨w.heap.size + 2, 0, none⟩)) ∧ w' = ((w.alloc (.map #[] 0)).alloc (.map #[] 0)).alloc (.cells #[.map (some w.heap.size), .map (some (w.heap.size + 1)), .slice none 0 0] 68) := by
  have m1 : ∀ w : World, (Instr.makeMap 64 none).run Ybad.prog w = .ok (.map (some w.heap.size)) (w.alloc (.map #[] 0)) := fun w => by kernel_rfl
  have m2 : ∀ w : World, (Instr.makeMap 65 none).run Ybad.prog w = .ok (.map (some w.heap.size)) (w.alloc (.map #[] 0)) := fun w => by kernel_rfl
  go_enter Ybad.func7, Ybad.ntmps7
  go_wp2
  go_ret
  exact ⟨by simp, by simp⟩

/-- A slice of the bytes bs. -/
def Rd (w : World) (B : Nat) (bs : List UInt8) : Prop := ∀ j u, bs[j]? = some u → w.cell? ⟨B, j, none⟩ = some (.int .u8 (u.toNat : Int))

set_option maxHeartbeats 2000000 in
theorem aeq (B B' n c c' : Nat) (bs : List UInt8) (w : World) (hn : bs.length = n) (hs : n ≤ 1000) (h : Rd w B bs) (h' : Rd w B' bs) :
    Calls Ybad.prog 11 #[.slice (some ⟨B, 0, none⟩) n c, .slice (some ⟨B', 0, none⟩) n c'] w fun e w' => e = .returned (.bool true) ∧ ∃ k, w' = w.drewN k := by
  have HN : Hid (bs.length = n) := hn
  have H : Hid (Rd w B bs) := h
  have H' : Hid (Rd w B' bs) := h'
  clear hn h h'
  go_enter Ybad.func11, Ybad.ntmps11
  go_wp2_with fail
  go_loopw [5] (fun v wr => ∃ i q : Nat, i ≤ n ∧ v = .int .i64 i ∧ wr = w.drewN q) (fun v _ => n - (intOf v).toNat)
  case atStart => exact ⟨0, 0, Nat.zero_le _, rfl, rfl⟩
  case round =>
    obtain ⟨i, q, hi, rfl, rfl⟩ := hrel
    by_cases hlt : i < n
    · have hlt' : i < bs.length := by rw [HN.out]; exact hlt
      obtain ⟨u, hu⟩ : ∃ u, bs[i]? = some u := ⟨_, List.getElem?_eq_getElem hlt'⟩
      have y := H.out i u hu
      have y' := H'.out i u hu
      clear hu hlt'
      go_wp2_with fail
      go_quiet (fail)
      go_wp2
      exact ⟨⟨i + 1, _, hlt, rfl, rfl⟩, by simp [intOf]; omega⟩
    · obtain rfl : i = n := by omega
      go_wp2
      go_ret
      exact ⟨rfl, q, rfl⟩

theorem makeN (n : Nat) (hn : n ≤ 1000) : ∀ w : World, (Instr.makeSlice 24 (.int .i64 0) (.int .i64 n)).run Ybad.prog w = .ok (.slice (some ⟨w.heap.size, 0, none⟩) 0 n) (w.alloc (.cells (madeCells #[.int .u8 0] n) 5)) := by
  intro w
  have h : (Ybad.prog.info? 5).map (fun i => (i.zero, i.size, i.bytes)) = some (some (.int .u8 0), 1, 1) := by kernel_rfl
  obtain ⟨i, h1, h2, h3, h4⟩ : ∃ i, Ybad.prog.info? 5 = some i ∧ i.zero = some (.int .u8 0) ∧ i.size = 1 ∧ i.bytes = 1 := by
    cases hi : Ybad.prog.info? 5 with
    | none => simp [hi] at h
    | some i => simp [hi] at h; exact ⟨i, rfl, h.1, h.2.1, h.2.2⟩
  have := run_make (P := Ybad.prog) w 24 5 i _ Ybad.underlying24 h1 h2 .i64 .i64 0 n (by omega) (by omega) (by rw [h4]; omega) (by omega)
  simpa [h3, Value.cells] using this

set_option maxHeartbeats 1000000 in
set_option maxRecDepth 20000 in
theorem aframe (H : Nat) (v : Int) (u : Nat) (p : ByteArray) (w : World) (hp : p.size ≤ 8) (hwr : IntKind.u32.wrap v = (u : Int)) (hu : u < 4294967296) (hh : ∀ j x, (bv hdr)[j]? = some x → w.cell? ((⟨H, 0, none⟩ : Addr).add j) = some x) :
    Calls Ybad.prog 10 #[.slice (some ⟨H, 0, none⟩) 16 16, .int .i32 v, .string p] w fun e w' => ∃ B, e = .returned (.slice (some ⟨B, 0, none⟩) (32 + p.size) (32 + p.size)) ∧ Buf w' B (32 + p.size) (frm u p) ∧ Below w.heap.size w w' ∧ w.heap.size ≤ B := by
  have HH : Hid (∀ j x, (bv hdr)[j]? = some x → w.cell? ((⟨H, 0, none⟩ : Addr).add j) = some x) := hh
  have lH : H < w.heap.size := by
    have := hh 0 (.int .u8 255) rfl
    rw [add0] at this
    exact World.block_lt_of_cell? _ _ this
  clear hh
  generalize hps : p.size = ps at hp ⊢
  have HP : Hid (p.size = ps) := hps
  have m := makeN (32 + ps) (by omega)
  have ec : (16 : Int) + 16 + ps = ((32 + ps : Nat) : Int) := by omega
  have e0 : ((32 + ps : Nat) : Int) = 32 + (ps : Int) := by omega
  have hw1 : IntKind.u32.wrap (28 + (ps : Int)) = ((28 + ps : Nat) : Int) := by rw [IntKind.wrap_u32]; omega
  have hw2 : IntKind.u32.wrap (ps : Int) = (ps : Int) := by rw [IntKind.wrap_u32]; omega
  rw [e0] at m
  go_enter Ybad.func10, Ybad.ntmps10
  obtain ⟨i5, j1, j2⟩ := info5
  have I5 : Hid (Ybad.prog.info? 5 = some i5 ∧ i5.size = 1) := ⟨j1, j2⟩
  clear j1 j2
  go_wp2_with fail
  have b0 : Buf (w.alloc (Obj.cells (madeCells #[.int .u8 0] (32 + ps)) 5)) w.heap.size (32 + ps) [] := ⟨fun j hj => by rw [alloc_new, alloc_fro, made_at _ _ _ hj]; exact ⟨rfl, rfl⟩, fun j u hu => (by cases hu), Nat.zero_le _⟩
  have A1 := aput w.heap.size [] (32 + ps) (28 + ps) _ (by omega) b0 (by simp; omega) (by simp)
  simp only [List.length_nil, Nat.zero_add, List.nil_append] at A1
  rw [show ((28 + ps : Nat) : Int) = 28 + (ps : Int) by omega] at A1
  refine A1.mono ?_
  clear A1
  rintro e w2 ⟨rfl, hb2, ht2⟩
  have H2 : Hid (Buf w2 w.heap.size (32 + ps) (be32 (28 + ps)) ∧ Tw w.heap.size w.heap.size (w.alloc (Obj.cells (madeCells #[.int .u8 0] (32 + ps)) 5)) w2) := ⟨hb2, ht2⟩
  have hd : ∀ j x, (bv hdr)[j]? = some x → w2.cell? ((⟨H, 0, none⟩ : Addr).add j) = some x := fun j x hx => by
    have := HH.out j x hx
    rw [add0] at this ⊢
    exact (cellB (ht2.block H (by simp; omega) (by omega) (by omega)) j).trans ((World.cell?_alloc_lt _ _ _ lH).trans this)
  have HD : Hid (∀ j x, (bv hdr)[j]? = some x → w2.cell? ((⟨H, 0, none⟩ : Addr).add j) = some x) := hd
  clear hb2 ht2 hd m b0
  go_wp2_with (with_reducible (show wpList _ _ _ _ _ _); refine wpList_append_rooms rfl _ _ 24 rfl 5 i5 Ybad.underlying24 I5.out.1 I5.out.2 w.heap.size 4 (32 + ps) rfl ⟨H, 0, none⟩ 16 16 (bv hdr) rfl rfl HD.out (by simp [bv, hdr, Value.oneCell']) (by omega) H2.out.1.th ?_)
  have b3 := H2.out.1.push (us := hdr) (by rw [be32_len]; show 4 + 16 ≤ _; omega)
  rw [be32_len] at b3
  have s2 := H2.out.2.size
  simp at s2
  have s3 : (w2.setCells w.heap.size 4 (bv hdr)).heap.size = w2.heap.size := sets_size _ _ _
  have A2 := aput w.heap.size _ (32 + ps) u _ hu b3 (by show 4 + 16 + 4 ≤ _; omega) (by rw [s3]; omega)
  have T3 : Hid (Tw w.heap.size w.heap.size (w.alloc (Obj.cells (madeCells #[.int .u8 0] (32 + ps)) 5)) (w2.setCells w.heap.size 4 (bv hdr))) := H2.out.2.setCells _ _
  rw [show (be32 (28 + ps) ++ hdr).length = 20 from rfl] at A2
  refine A2.mono ?_
  clear A2 b3
  rintro e w4 ⟨rfl, hb4, ht4⟩
  have H4 : Hid (Buf w4 w.heap.size (32 + ps) (be32 (28 + ps) ++ hdr ++ be32 u) ∧ Tw w.heap.size w.heap.size (w.alloc (Obj.cells (madeCells #[.int .u8 0] (32 + ps)) 5)) w4) := ⟨hb4, T3.out.trans ht4⟩
  clear hb4 ht4 s3
  go_wp2_with fail
  have s4 := H4.out.2.size
  simp at s4
  have A3 := aput w.heap.size _ (32 + ps) 3 w4 (by omega) H4.out.1 (by show 4 + 16 + 4 + 4 ≤ _; omega) (by omega)
  rw [show (be32 (28 + ps) ++ hdr ++ be32 u).length = 24 from rfl] at A3
  refine A3.mono ?_
  clear A3
  rintro e w5 ⟨rfl, hb5, ht5⟩
  have H5 : Hid (Buf w5 w.heap.size (32 + ps) (be32 (28 + ps) ++ hdr ++ be32 u ++ be32 3) ∧ Tw w.heap.size w.heap.size (w.alloc (Obj.cells (madeCells #[.int .u8 0] (32 + ps)) 5)) w5) := ⟨hb5, H4.out.2.trans ht5⟩
  clear hb5 ht5 s4
  go_wp2_with fail
  have s5 := H5.out.2.size
  simp at s5
  have A4 := aput w.heap.size _ (32 + ps) ps w5 (by omega) H5.out.1 (by show 4 + 16 + 4 + 4 + 4 ≤ _; omega) (by omega)
  rw [show (be32 (28 + ps) ++ hdr ++ be32 u ++ be32 3).length = 28 from rfl] at A4
  refine A4.mono ?_
  clear A4
  rintro e w6 ⟨rfl, hb6, ht6⟩
  have H6 : Hid (Buf w6 w.heap.size (32 + ps) (be32 (28 + ps) ++ hdr ++ be32 u ++ be32 3 ++ be32 ps) ∧ Tw w.heap.size w.heap.size (w.alloc (Obj.cells (madeCells #[.int .u8 0] (32 + ps)) 5)) w6) := ⟨hb6, H5.out.2.trans ht6⟩
  clear hb6 ht6 s5
  have hroom : 32 + p.size ≤ 32 + ps := by rw [HP.out]; omega
  go_wp2_with (with_reducible (show wpList _ _ _ _ _ _); refine wpList_append_str rfl _ _ 24 9 rfl 5 i5 Ybad.underlying24 Ybad.underlying9 I5.out.1 I5.out.2 w.heap.size 32 (32 + ps) rfl p rfl hroom H6.out.1.th ?_)
  go_ret
  have hpl : p.data.toList.length = p.size := Array.length_toList
  have b7 := H6.out.1.push (us := p.data.toList) (by rw [hpl, HP.out]; show 4 + 16 + 4 + 4 + 4 + ps ≤ _; omega)
  have e7 : be32 (28 + ps) ++ hdr ++ be32 u ++ be32 3 ++ be32 ps ++ p.data.toList = frm u p := by unfold frm; rw [HP.out]
  rw [e7] at b7
  have t7 := H6.out.2.setCells (bv p.data.toList) 32
  exact ⟨w.heap.size, rfl, b7, t7.below ((Below.refl _ _).alloc (Nat.le_refl _) _) (Nat.le_refl _) (Nat.le_refl _) (by simp), Nat.le_refl _⟩
end Go.Proofs.YbulkcrxoDoor.F
