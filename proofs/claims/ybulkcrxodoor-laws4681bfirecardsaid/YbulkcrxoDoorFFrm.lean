/-
  LawS4681AFires, LawS4681BFire: a watch event's frame, by 'wire.Encode'.
-/
import Derived.Test.YbulkcrxoDoorFMet
set_option linter.unusedVariables false
namespace Go.Proofs.YbulkcrxoDoor.F
open Go.RowKit Go.Any

theorem EncP.trans {a b c : World} {E B : Nat} {x y : List UInt8} (h : EncP a b E B x) (k : EncP b c E B y) : EncP a c E B y := ⟨k.1, h.2.trans k.2⟩
theorem EncP.pre {a b c : World} {E B : Nat} {y : List UInt8} (h : Below a.heap.size a b) (k : EncP b c E B y) : EncP a c E B y := ⟨k.1, (Tw.of_below h).trans k.2⟩

set_option maxHeartbeats 2000000 in
set_option maxRecDepth 20000 in
theorem str_ (E B : Nat) (bs : List UInt8) (p : ByteArray) (w : World) (h : Enc w E B bs) (hroom : bs.length + 4 + p.size ≤ 64) :
    Calls Ybad.prog 98 #[.pointer (some ⟨E, 0, none⟩), .string p] w fun e w' => e = .returned (.tuple #[]) ∧ EncP w w' E B (bs ++ be32 p.size ++ p.data.toList) := by
  have HE : Hid (Enc w E B bs) := h
  clear h
  generalize hps : p.size = ps at hroom
  have HP : Hid (p.size = ps) := hps
  have hw1 : IntKind.i32.wrap (ps : Int) = (ps : Int) := by rw [IntKind.wrap_i32]; omega
  have hw2 : IntKind.u32.wrap (ps : Int) = (ps : Int) := by rw [IntKind.wrap_u32]; omega
  obtain ⟨i5, j1, j2⟩ := info5
  have I5 : Hid (Ybad.prog.info? 5 = some i5 ∧ i5.size = 1) := ⟨j1, j2⟩
  clear j1 j2
  go_enter Ybad.func98, Ybad.ntmps98
  go_wp2_with fail
  refine (int32 E B bs (ps : Int) ps w HE.out (by omega) hw2 (by omega)).mono ?_
  rintro e w2 ⟨rfl, hP⟩
  have H2 : Hid (EncP w w2 E B (bs ++ be32 ps)) := hP
  have cE := hP.1.c
  have fE := hP.1.f
  obtain ⟨n, hn⟩ : ∃ n, Hid ((bs ++ be32 ps).length = n) := ⟨_, rfl⟩
  rw [hn.out] at cE
  have hn4 : n = bs.length + 4 := by rw [← hn.out]; simp [be32_len]
  clear hP
  have hroom2 : n + p.size ≤ 64 := by omega
  clear hn4
  have cE' : (w2.setCells B n (bv p.data.toList)).cell? ⟨E, 0, none⟩ = some (.slice (some ⟨B, 0, none⟩) n 64) := (World.cell?_setCells_out B _ n w2 ⟨E, 0, none⟩ (fun q => absurd q H2.out.1.ne)).trans cE
  have fE' : (w2.setCells B n (bv p.data.toList)).frozen? ⟨E, 0, none⟩ = false := by rw [World.frozen?_setCells]; exact fE
  go_wp2_with (refine wpList_append_str rfl _ _ 24 9 rfl 5 i5 Ybad.underlying24 Ybad.underlying9 I5.out.1 I5.out.2 B n 64 rfl p rfl hroom2 H2.out.1.b.th ?_)
  refine bodyPost_end (results_none rfl _ _ _) rfl ?_
  have hpl : p.data.toList.length = p.size := Array.length_toList
  have hbp := H2.out.1.b.push (us := p.data.toList) (by rw [hn.out, hpl]; exact hroom2)
  rw [hn.out] at hbp
  have tw := H2.out.2.setCells (bv p.data.toList) n
  have hm : MidE w (w2.setCells B n (bv p.data.toList)) E B n (bs ++ be32 ps ++ p.data.toList) := ⟨cE', fE', hbp, tw, H2.out.1.ne, Nat.lt_of_lt_of_le HE.out.lE tw.size, Nat.lt_of_lt_of_le HE.out.lB tw.size⟩
  exact ⟨rfl, encP hm (by rw [List.length_append, hn.out, hpl, HP.out])⟩

/-- The event header: -1, -1, 0. -/
def hdr : List UInt8 := [255, 255, 255, 255, 255, 255, 255, 255, 255, 255, 255, 255, 0, 0, 0, 0]

set_option maxHeartbeats 2000000 in
set_option maxRecDepth 20000 in
theorem hdrEnc (E B : Nat) (bs : List UInt8) (w : World) (h : Enc w E B bs) (hroom : bs.length + 16 ≤ 64) :
    Calls Ybad.prog 96 #[.agg #[.int .i32 (-1), .int .i64 (-1), .int .i32 0], .pointer (some ⟨E, 0, none⟩)] w fun e w' => e = .returned (.tuple #[]) ∧ EncP w w' E B (bs ++ hdr) := by
  have hB1 : Below w.heap.size w (w.alloc (Obj.cells #[.int .i32 (-1), .int .i64 (-1), .int .i32 0] 133)) := (Below.refl _ _).alloc (Nat.le_refl _) _
  have H1 : Hid (Enc (w.alloc (Obj.cells #[.int .i32 (-1), .int .i64 (-1), .int .i32 0] 133)) E B bs ∧ Below w.heap.size w (w.alloc (Obj.cells #[.int .i32 (-1), .int .i64 (-1), .int .i32 0] 133))) := ⟨h.below hB1, hB1⟩
  have lE := h.lE
  have lB := h.lB
  clear h hB1
  go_enter Ybad.func96, Ybad.ntmps96
  go_wp2_with fail
  refine (int32 E B bs (-1) 4294967295 _ H1.out.1 (by omega) (by decide) (by omega)).mono ?_
  rintro e w2 ⟨rfl, hP⟩
  have H2 : Hid (EncP (w.alloc (Obj.cells #[.int .i32 (-1), .int .i64 (-1), .int .i32 0] 133)) w2 E B (bs ++ be32 4294967295)) := hP
  have k1 : w2.cell? ⟨w.heap.size, 1, none⟩ = some (.int .i64 (-1)) := (cellB (hP.2.block w.heap.size (by simp) (by omega) (by omega)) 1).trans (by rw [alloc_new]; rfl)
  have k2 : w2.cell? ⟨w.heap.size, 2, none⟩ = some (.int .i32 0) := (cellB (hP.2.block w.heap.size (by simp) (by omega) (by omega)) 2).trans (by rw [alloc_new]; rfl)
  have lt2 : Hid (w.heap.size < w2.heap.size) := by have := hP.2.size; simp at this; show _ < _; omega
  clear hP
  go_wp2_with fail
  refine (int64 E B (bs ++ be32 4294967295) w2 H2.out.1 (by simp [be32_len]; omega)).mono ?_
  rintro e w3 ⟨rfl, hP⟩
  have H3 : Hid (EncP w2 w3 E B (bs ++ be32 4294967295 ++ ff8)) := hP
  replace k2 := (cellB (hP.2.block w.heap.size lt2.out (by omega) (by omega)) 2).trans k2
  clear hP k1
  go_wp2_with fail
  refine (int32 E B (bs ++ be32 4294967295 ++ ff8) 0 0 w3 H3.out.1 (by simp [be32_len, ff8]; omega) (by decide) (by omega)).mono ?_
  rintro e w4 ⟨rfl, hP⟩
  go_wp2
  refine bodyPost_end (results_none rfl _ _ _) rfl ?_
  refine ⟨rfl, ?_⟩
  have := (EncP.pre H1.out.2 (H2.out.trans (H3.out.trans hP)))
  have e : bs ++ be32 4294967295 ++ ff8 ++ be32 0 = bs ++ hdr := by
    simp only [List.append_assoc]
    congr 1
  rw [e] at this
  exact this

set_option maxHeartbeats 2000000 in
set_option maxRecDepth 20000 in
theorem evEnc (E B : Nat) (bs : List UInt8) (v : Int) (u : Nat) (p : ByteArray) (w : World) (h : Enc w E B bs) (hroom : bs.length + 12 + p.size ≤ 64) (hwr : IntKind.u32.wrap v = (u : Int)) (hu : u < 4294967296) :
    Calls Ybad.prog 97 #[.agg #[.int .i32 v, .int .i32 3, .string p], .pointer (some ⟨E, 0, none⟩)] w fun e w' => e = .returned (.tuple #[]) ∧ EncP w w' E B (bs ++ be32 u ++ be32 3 ++ be32 p.size ++ p.data.toList) := by
  have hB1 : Below w.heap.size w (w.alloc (Obj.cells #[.int .i32 v, .int .i32 3, .string p] 135)) := (Below.refl _ _).alloc (Nat.le_refl _) _
  have H1 : Hid (Enc (w.alloc (Obj.cells #[.int .i32 v, .int .i32 3, .string p] 135)) E B bs ∧ Below w.heap.size w (w.alloc (Obj.cells #[.int .i32 v, .int .i32 3, .string p] 135))) := ⟨h.below hB1, hB1⟩
  have lE := h.lE
  have lB := h.lB
  clear h hB1
  go_enter Ybad.func97, Ybad.ntmps97
  go_wp2_with fail
  refine (int32 E B bs v u _ H1.out.1 (by omega) hwr hu).mono ?_
  rintro e w2 ⟨rfl, hP⟩
  have H2 : Hid (EncP (w.alloc (Obj.cells #[.int .i32 v, .int .i32 3, .string p] 135)) w2 E B (bs ++ be32 u)) := hP
  have k1 : w2.cell? ⟨w.heap.size, 1, none⟩ = some (.int .i32 3) := (cellB (hP.2.block w.heap.size (by simp) (by omega) (by omega)) 1).trans (by rw [alloc_new]; rfl)
  have k2 : w2.cell? ⟨w.heap.size, 2, none⟩ = some (.string p) := (cellB (hP.2.block w.heap.size (by simp) (by omega) (by omega)) 2).trans (by rw [alloc_new]; rfl)
  have lt2 : Hid (w.heap.size < w2.heap.size) := by have := hP.2.size; simp at this; show _ < _; omega
  clear hP
  go_wp2_with fail
  refine (int32 E B (bs ++ be32 u) 3 3 w2 H2.out.1 (by simp [be32_len]; omega) (by decide) (by omega)).mono ?_
  rintro e w3 ⟨rfl, hP⟩
  have H3 : Hid (EncP w2 w3 E B (bs ++ be32 u ++ be32 3)) := hP
  replace k2 := (cellB (hP.2.block w.heap.size lt2.out (by omega) (by omega)) 2).trans k2
  clear hP k1
  go_wp2_with fail
  refine (str_ E B (bs ++ be32 u ++ be32 3) p w3 H3.out.1 (by simp [be32_len]; omega)).mono ?_
  rintro e w4 ⟨rfl, hP⟩
  go_wp2
  refine bodyPost_end (results_none rfl _ _ _) rfl ?_
  exact ⟨rfl, EncP.pre H1.out.2 (H2.out.trans (H3.out.trans hP))⟩

set_option maxHeartbeats 2000000 in
set_option maxRecDepth 20000 in
theorem put32 (B : Nat) (bs : List UInt8) (n cap v : Nat) (w : World) (hv : v < 4294967296) (hb : Buf w B cap bs) (hn : bs.length = n) (h4 : 4 ≤ n) (hB : B < w.heap.size) :
    Calls Ybad.prog 37 #[.agg #[], .slice (some ⟨B, 0, none⟩) n cap, .int .u32 (v : Int)] w fun e w' => e = .returned (.tuple #[]) ∧ Buf w' B cap (be32 v ++ bs.drop 4) ∧ Tw B B w w' := by
  have HV : Hid (bv (be32 v) = [.int .u8 ((v : Int) / 16777216), .int .u8 ((v : Int) / 65536 % 256), .int .u8 ((v : Int) / 256 % 256), .int .u8 ((v : Int) % 256)]) := bv_be32 v hv
  have k : Below w.heap.size w (w.alloc (.cells #[] 140)) := (Below.refl _ _).alloc (Nat.le_refl _) _
  have hb1 := hb.below k hB
  have HT : Hid (Buf (w.alloc (.cells #[] 140)) B cap bs ∧ Below w.heap.size w (w.alloc (.cells #[] 140))) := ⟨hb1, k⟩
  have HN : Hid (bs.length = n) := hn
  have hcap := hb.len
  obtain ⟨x0, f0⟩ := hb1.th 0 (by omega)
  obtain ⟨x1, f1⟩ := hb1.th 1 (by omega)
  obtain ⟨x2, f2⟩ := hb1.th 2 (by omega)
  obtain ⟨x3, f3⟩ := hb1.th 3 (by omega)
  obtain ⟨u0, e0⟩ := Option.isSome_iff_exists.1 x0
  obtain ⟨u1, e1⟩ := Option.isSome_iff_exists.1 x1
  obtain ⟨u2, e2⟩ := Option.isSome_iff_exists.1 x2
  obtain ⟨u3, e3⟩ : ∃ u3 : UInt8, (w.alloc (.cells #[] 140)).cell? ⟨B, 3, none⟩ = some (.int .u8 (u3.toNat : Int)) := ⟨_, hb1.cs 3 (bs[3]'(by omega)) (List.getElem?_eq_getElem (by omega))⟩
  have n1 : (1 : Int) < n := by omega
  have n2 : (2 : Int) < n := by omega
  have n3 : (3 : Int) < n := by omega
  have n0 : (0 : Int) < n := by omega
  clear hb hb1 k x0 x1 x2 x3 hn hB
  go_enter Ybad.func37, Ybad.ntmps37
  go_wp2
  refine bodyPost_end (results_none rfl _ _ _) rfl ?_
  have h1 := HT.out.1.over (us := be32 v) (by rw [be32_len, HN.out]; exact h4)
  rw [HV.out, be32_len] at h1
  exact ⟨rfl, h1, (Tw.of_below HT.out.2).setCells [.int .u8 ((v : Int) / 16777216), .int .u8 ((v : Int) / 65536 % 256), .int .u8 ((v : Int) / 256 % 256), .int .u8 ((v : Int) % 256)] 0⟩

set_option maxHeartbeats 2000000 in
set_option maxRecDepth 20000 in
theorem frame_ (E B : Nat) (bs : List UInt8) (n : Nat) (w : World) (h : Enc w E B bs) (hn : bs.length = n + 4) :
    Calls Ybad.prog 32 #[.pointer (some ⟨E, 0, none⟩)] w fun e w' => e = .returned (.slice (some ⟨B, 0, none⟩) (n + 4) 64) ∧ Buf w' B 64 (be32 n ++ bs.drop 4) ∧ Tw E B w w' := by
  have HE : Hid (Enc w E B bs) := h
  have HN : Hid (bs.length = n + 4) := hn
  have gE := h.c
  rw [hn] at gE
  have hcap := h.b.len
  have lB := h.lB
  have y : IntKind.i64.wrap (n : Int) = n := by rw [IntKind.wrap_i64]; omega
  have y' : IntKind.u32.wrap (n : Int) = n := by rw [IntKind.wrap_u32]; omega
  have hn60 : n ≤ 60 := by omega
  clear h hn hcap
  go_enter Ybad.func32, Ybad.ntmps32
  go_wp2_with fail
  refine wp_region_last (l := [_, _, _, _, _, _, _, _, _, _, _, _]) (o := _) rfl (by kernel_rfl) (by kernel_rfl) (by kernel_rfl) (by kernel_rfl) (by kernel_rfl) ?_
  repeat (go_big_quiet_step (fail))
  refine wpQuiet_nil ?_
  rintro _ ⟨nq, rfl⟩
  go_simp
  refine (put32 B bs (n + 4) 64 n (w.drewN nq) (by omega) (HE.out.b.block rfl) HN.out (by omega) lB).mono ?_
  rintro e w2 ⟨rfl, hb2, ht2⟩
  have H2 : Hid (Buf w2 B 64 (be32 n ++ bs.drop 4) ∧ Tw B B (w.drewN nq) w2) := ⟨hb2, ht2⟩
  replace gE := (cellB (ht2.block E HE.out.lE HE.out.ne HE.out.ne) 0).trans gE
  clear hb2 ht2
  go_wp2
  go_ret
  exact ⟨rfl, H2.out.1, ⟨H2.out.2.os, H2.out.2.tape, H2.out.2.output, H2.out.2.size, fun j h1 _ h3 => H2.out.2.block j h1 h3 h3⟩⟩

theorem make64 : ∀ w : World, (Instr.makeSlice 24 (.int .i64 4) (.int .i64 64)).run Ybad.prog w = .ok (.slice (some ⟨w.heap.size, 0, none⟩) 4 64) (w.alloc (.cells (madeCells #[.int .u8 0] 64) 5)) := by
  intro w
  have h : (Ybad.prog.info? 5).map (fun i => (i.zero, i.size, i.bytes)) = some (some (.int .u8 0), 1, 1) := by kernel_rfl
  obtain ⟨i, h1, h2, h3, h4⟩ : ∃ i, Ybad.prog.info? 5 = some i ∧ i.zero = some (.int .u8 0) ∧ i.size = 1 ∧ i.bytes = 1 := by
    cases hi : Ybad.prog.info? 5 with
    | none => simp [hi] at h
    | some i => simp [hi] at h; exact ⟨i, rfl, h.1, h.2.1, h.2.2⟩
  have := run_make (P := Ybad.prog) w 24 5 i _ Ybad.underlying24 h1 h2 .i64 .i64 4 64 (by omega) (by omega) (by rw [h4]; omega) (by omega)
  simpa [h3, Value.cells] using this
theorem made_at (z : Value) (n j : Nat) (h : j < n) : (madeCells #[z] n)[j]? = some z := by
  rw [← Array.getElem?_toList, toList_madeCells_one, List.getElem?_replicate, if_pos h]

set_option maxHeartbeats 2000000 in
theorem newEncoder (w : World) : Calls Ybad.prog 31 #[] w fun e w' => e = .returned (.pointer (some ⟨w.heap.size + 1, 0, none⟩)) ∧ Enc w' (w.heap.size + 1) w.heap.size [0, 0, 0, 0] ∧ Below w.heap.size w w' := by
  have m := make64
  go_enter Ybad.func31, Ybad.ntmps31
  go_wp2
  go_ret
  have e : (w.alloc (.cells (madeCells #[.int .u8 0] 64) 5)).heap.size = w.heap.size + 1 := by simp
  have hbl : ((w.alloc (.cells (madeCells #[.int .u8 0] 64) 5)).alloc (.cells #[.slice (some ⟨w.heap.size, 0, none⟩) 4 64] 160)).heap[w.heap.size]? = (w.alloc (.cells (madeCells #[.int .u8 0] 64) 5)).heap[w.heap.size]? := Below.heap_alloc _ _ _ (by simp)
  refine ⟨rfl, ⟨?_, ?_, ⟨fun j hj => ?_, fun j u hu => ?_, by simp⟩, by omega, by simp, by simp; omega⟩, ((Below.refl _ _).alloc (Nat.le_refl _) _).alloc (by simp) _⟩
  · rw [← e, alloc_new]; rfl
  · rw [← e, alloc_fro]
  · rw [cellB hbl, World.frozen?_of_block (w := w.alloc (.cells (madeCells #[.int .u8 0] 64) 5)) (a := ⟨w.heap.size, j, none⟩) hbl, alloc_new, alloc_fro, made_at _ _ _ hj]
    exact ⟨rfl, rfl⟩
  · rw [cellB hbl, alloc_new]
    have hj : j < 4 := by
      rcases Nat.lt_or_ge j 4 with h | h
      · exact h
      · rw [List.getElem?_eq_none (by simpa using h)] at hu; cases hu
    rw [made_at _ _ _ (by omega)]
    match j, hj, hu with
    | 0, _, hu => cases hu; rfl
    | 1, _, hu => cases hu; rfl
    | 2, _, hu => cases hu; rfl
    | 3, _, hu => cases hu; rfl

/-- The frame of a watch event. -/
def frm (u : Nat) (p : ByteArray) : List UInt8 := be32 (28 + p.size) ++ hdr ++ be32 u ++ be32 3 ++ be32 p.size ++ p.data.toList
theorem frm_len (u : Nat) (p : ByteArray) : (frm u p).length = 32 + p.size := by
  have hpl : p.data.toList.length = p.size := Array.length_toList
  simp only [frm, List.length_append, be32_len, hpl]
  show 4 + 16 + 4 + 4 + 4 + p.size = _
  omega

set_option maxHeartbeats 4000000 in
set_option maxRecDepth 20000 in
theorem encode (R : Nat) (v : Int) (u : Nat) (p : ByteArray) (w : World) (hp : p.size ≤ 8) (hwr : IntKind.u32.wrap v = (u : Int)) (hu : u < 4294967296)
    (r0 : w.cell? ⟨R, 0, none⟩ = some (.iface 133 (.agg #[.int .i32 (-1), .int .i64 (-1), .int .i32 0]))) (r1 : w.cell? ⟨R, 1, none⟩ = some (.iface 135 (.agg #[.int .i32 v, .int .i32 3, .string p]))) :
    Calls Ybad.prog 22 #[.slice (some ⟨R, 0, none⟩) 2 2] w fun e w' => ∃ B, e = .returned (.slice (some ⟨B, 0, none⟩) (32 + p.size) 64) ∧ Buf w' B 64 (frm u p) ∧ Below w.heap.size w w' ∧ w.heap.size ≤ B ∧ B < w'.heap.size := by
  have lR : R < w.heap.size := World.block_lt_of_cell? _ _ r0
  go_enter Ybad.func22, Ybad.ntmps22
  go_wp2_with (refine (newEncoder w).mono ?_; rintro e w1 ⟨rfl, hE, hB⟩)
  have HE : Hid (Enc w1 (w.heap.size + 1) w.heap.size [0, 0, 0, 0]) := hE
  have HB : Hid (Below w.heap.size w w1) := hB
  clear hE hB
  generalize hEB : w.heap.size + 1 = E at HE ⊢
  generalize hBB : w.heap.size = B at HE
  have NN : Hid (w.heap.size + 1 = E ∧ w.heap.size = B) := ⟨hEB, hBB⟩
  have nR : Hid (R ≠ E ∧ R ≠ B) := ⟨by omega, by omega⟩
  clear hEB hBB
  go_loopw [9] (fun v wr => Hid (Tw E B w1 wr) ∧ ((v = .int .i64 0 ∧ Hid (Enc wr E B [0, 0, 0, 0])) ∨ (v = .int .i64 1 ∧ Hid (Enc wr E B ([0, 0, 0, 0] ++ hdr))) ∨ (v = .int .i64 2 ∧ Hid (Enc wr E B ([0, 0, 0, 0] ++ hdr ++ be32 u ++ be32 3 ++ be32 p.size ++ p.data.toList))))) (fun v _ => 2 - (intOf v).toNat)
  case atStart => exact ⟨Tw.refl _ _ _, .inl ⟨rfl, HE⟩⟩
  case round =>
    obtain ⟨T1, hcase⟩ := hrel
    have lR1 : R < w1.heap.size := Nat.lt_of_lt_of_le lR HB.out.size
    have y0 := (cellB (T1.out.block R lR1 nR.out.1 nR.out.2) 0).trans ((HB.out.cell (p := ⟨R, 0, none⟩) lR).trans r0)
    have y1 := (cellB (T1.out.block R lR1 nR.out.1 nR.out.2) 1).trans ((HB.out.cell (p := ⟨R, 1, none⟩) lR).trans r1)
    rcases hcase with ⟨rfl, H1⟩ | ⟨rfl, H1⟩ | ⟨rfl, H1⟩
    · go_wp2_with (refine (hdrEnc E B _ _ H1.out (by simp)).mono ?_; rintro e w3 ⟨rfl, hP⟩)
      exact ⟨⟨T1.out.trans (by rename_i hP; exact hP.2), .inr (.inl ⟨rfl, by rename_i hP; exact hP.1⟩)⟩, by simp [intOf]⟩
    · go_wp2_with (refine (evEnc E B _ v u p _ H1.out (by simp [hdr]; omega) hwr hu).mono ?_; rintro e w3 ⟨rfl, hP⟩)
      exact ⟨⟨T1.out.trans (by rename_i hP; exact hP.2), .inr (.inr ⟨rfl, by rename_i hP; exact hP.1⟩)⟩, by simp [intOf]⟩
    · have hpl : p.data.toList.length = p.size := Array.length_toList
      have hlen : ([0, 0, 0, 0] ++ hdr ++ be32 u ++ be32 3 ++ be32 p.size ++ p.data.toList).length = 28 + p.size + 4 := by
        simp only [List.length_append, be32_len, hpl]
        show 4 + 16 + 4 + 4 + 4 + p.size = _
        omega
      have HL : Hid (_ = _) := hlen
      clear hlen hpl
      go_wp2_with fail
      refine (frame_ E B _ (28 + p.size) _ H1.out HL.out).mono ?_
      rintro e w3 ⟨rfl, hb3, ht3⟩
      go_wp2
      go_ret
      have tw := T1.out.trans ht3
      have hbel : Below w.heap.size w w3 := tw.below HB.out (by have := NN.out; omega) (by have := NN.out; omega) HB.out.size
      have e1 : be32 (28 + p.size) ++ List.drop 4 ([0, 0, 0, 0] ++ hdr ++ be32 u ++ be32 3 ++ be32 p.size ++ p.data.toList) = frm u p := by
        unfold frm
        simp only [List.append_assoc]
        rfl
      rw [e1] at hb3
      refine ⟨B, ?_, hb3, hbel, by have := NN.out; omega, Nat.lt_of_lt_of_le H1.out.lB ht3.size⟩
      rw [show 28 + p.size + 4 = 32 + p.size by omega]
      rfl
end Go.Proofs.YbulkcrxoDoor.F
