/-
  LawS4681AFires, LawS4681BFire: bytes in a buffer with room: the encoder's appends by contracts.
-/
import Derived.Test.YbulkcrxoDoorFMem
import Derived.ArgAppend
import Derived.Lib.AppendStr
import Derived.Laws.BitsAllLaws
set_option linter.unusedVariables false
namespace Go.Proofs.YbulkcrxoDoor.F
open Go.RowKit Go.Any
open Go.Lib (strCells strCells_length strCells_oneCell run_firstCells_string)

/-- Of the old blocks none but X and M has turned. -/
structure Tw (X M : Nat) (w w' : World) : Prop where
  os : w'.os = w.os
  tape : w'.tape = w.tape
  output : w'.output = w.output
  size : w.heap.size ≤ w'.heap.size
  block : ∀ j, j < w.heap.size → j ≠ X → j ≠ M → w'.heap[j]? = w.heap[j]?
theorem Tw.refl (X M : Nat) (w : World) : Tw X M w w := ⟨rfl, rfl, rfl, Nat.le_refl _, fun _ _ _ _ => rfl⟩
theorem Tw.trans {X M : Nat} {a b c : World} (h : Tw X M a b) (k : Tw X M b c) : Tw X M a c := ⟨k.os.trans h.os, k.tape.trans h.tape, k.output.trans h.output, Nat.le_trans h.size k.size, fun j h1 h2 h3 => (k.block j (Nat.lt_of_lt_of_le h1 h.size) h2 h3).trans (h.block j h1 h2 h3)⟩
theorem Tw.of_below {X M : Nat} {a b : World} (h : Below a.heap.size a b) : Tw X M a b := ⟨h.os, h.tape, h.output, h.size, fun j h1 _ _ => h.block j h1⟩
theorem Tw.setCell {X M : Nat} {a b : World} (h : Tw X M a b) (o : Nat) (v : Value) : Tw X M a (b.setCell ⟨X, o, none⟩ v) := ⟨h.os, h.tape, h.output, by simpa using h.size, fun j h1 h2 h3 => (Below.heap_setCell _ _ _ _ h2).trans (h.block j h1 h2 h3)⟩
theorem Tw.setCellM {X M : Nat} {a b : World} (h : Tw X M a b) (o : Nat) (v : Value) : Tw X M a (b.setCell ⟨M, o, none⟩ v) := ⟨h.os, h.tape, h.output, by simpa using h.size, fun j h1 h2 h3 => (Below.heap_setCell _ _ _ _ h3).trans (h.block j h1 h2 h3)⟩
theorem Tw.setCells {X M : Nat} {a : World} : ∀ {b : World} (_ : Tw X M a b) (vs : List Value) (o : Nat), Tw X M a (b.setCells M o vs)
  | b, h, [], o => h
  | b, h, v :: r, o => Tw.setCells (b := b.setCell ⟨M, o, none⟩ v) (h.setCellM o v) r (o + 1)
theorem Tw.drew {X M : Nat} {a b : World} (h : Tw X M a b) : Tw X M a b.drew := ⟨h.os, h.tape, h.output, h.size, h.block⟩
theorem Tw.wide {X Y M : Nat} {a b : World} (h : Tw M M a b) : Tw X M a b := ⟨h.os, h.tape, h.output, h.size, fun j h1 _ h3 => h.block j h1 h3 h3⟩
theorem Tw.below {X M B : Nat} {w w' a : World} (h : Tw X M w w') (k : Below B a w) (hX : B ≤ X) (hM : B ≤ M) (hB : B ≤ w.heap.size) : Below B a w' :=
  k.trans ⟨h.os, h.tape, h.output, h.size, fun j hj => h.block j (Nat.lt_of_lt_of_le hj hB) (by omega) (by omega)⟩

def bv (bs : List UInt8) : List Value := bs.map fun u => .int .u8 (u.toNat : Int)

/-- Block B has room for cap bytes; the first are bs. -/
structure Buf (w : World) (B cap : Nat) (bs : List UInt8) : Prop where
  th : ∀ j, j < cap → (w.cell? ⟨B, j, none⟩).isSome = true ∧ w.frozen? ⟨B, j, none⟩ = false
  cs : ∀ j u, bs[j]? = some u → w.cell? ⟨B, j, none⟩ = some (.int .u8 (u.toNat : Int))
  len : bs.length ≤ cap
theorem Buf.block {w w' : World} {B cap : Nat} {bs : List UInt8} (h : Buf w B cap bs) (hb : w'.heap[B]? = w.heap[B]?) : Buf w' B cap bs :=
  ⟨fun j hj => by rw [cellB hb, World.frozen?_of_block (w := w) (a := ⟨B, j, none⟩) hb]; exact h.th j hj, fun j u hu => (cellB hb j).trans (h.cs j u hu), h.len⟩
theorem Buf.below {w w' : World} {B cap : Nat} {bs : List UInt8} (h : Buf w B cap bs) (k : Below w.heap.size w w') (hB : B < w.heap.size) : Buf w' B cap bs := h.block (k.block B hB)
theorem Buf.push {w : World} {B cap : Nat} {bs us : List UInt8} (h : Buf w B cap bs) (hl : bs.length + us.length ≤ cap) : Buf (w.setCells B bs.length (bv us)) B cap (bs ++ us) := by
  have hlen : (bv us).length = us.length := by simp [bv]
  have hin : ∀ j, j < (bv us).length → (w.cell? ⟨B, bs.length + j, none⟩).isSome = true := fun j hj => (h.th _ (by omega)).1
  have key : ∀ j, (∃ u, us[j - bs.length]? = some u ∧ bs.length ≤ j ∧ (w.setCells B bs.length (bv us)).cell? ⟨B, j, none⟩ = some (.int .u8 (u.toNat : Int))) ∨ ((j < bs.length ∨ bs.length + us.length ≤ j) ∧ (w.setCells B bs.length (bv us)).cell? ⟨B, j, none⟩ = w.cell? ⟨B, j, none⟩) := fun j => by
    by_cases hj : bs.length ≤ j ∧ j < bs.length + us.length
    · obtain ⟨h1, h2⟩ := hj
      have hx : j - bs.length < us.length := by omega
      refine .inl ⟨us[j - bs.length], List.getElem?_eq_getElem hx, h1, ?_⟩
      have := World.cell?_setCells_in B (bv us) bs.length w hin (j - bs.length) (by omega)
      rw [show bs.length + (j - bs.length) = j by omega] at this
      rw [this]
      simp [bv]
    · exact .inr ⟨by omega, World.cell?_setCells_out B (bv us) bs.length w ⟨B, j, none⟩ (fun _ _ => by show j < _ ∨ _ ≤ j; rw [hlen]; omega)⟩
  refine ⟨fun j hj => ?_, fun j u hu => ?_, by simp; omega⟩
  · rw [World.frozen?_setCells]
    refine ⟨?_, (h.th j hj).2⟩
    rcases key j with ⟨u, _, _, e⟩ | ⟨_, e⟩
    · rw [e]; rfl
    · rw [e]; exact (h.th j hj).1
  · rcases key j with ⟨u', h1, h2, e⟩ | ⟨h1, e⟩
    · rw [List.getElem?_append_right h2, h1] at hu
      cases hu
      exact e
    · rw [e]
      rcases h1 with h1 | h1
      · rw [List.getElem?_append_left h1] at hu
        exact h.cs j u hu
      · rw [List.getElem?_eq_none (by simp; omega)] at hu
        cases hu
/-- The first bytes are written anew. -/
theorem Buf.over {w : World} {B cap : Nat} {bs us : List UInt8} (h : Buf w B cap bs) (hl : us.length ≤ bs.length) : Buf (w.setCells B 0 (bv us)) B cap (us ++ bs.drop us.length) := by
  have hlen : (bv us).length = us.length := by simp [bv]
  have hcap := h.len
  have hin : ∀ j, j < (bv us).length → (w.cell? ⟨B, 0 + j, none⟩).isSome = true := fun j hj => (h.th _ (by omega)).1
  have key : ∀ j, (∃ u, us[j]? = some u ∧ (w.setCells B 0 (bv us)).cell? ⟨B, j, none⟩ = some (.int .u8 (u.toNat : Int))) ∨ (us.length ≤ j ∧ (w.setCells B 0 (bv us)).cell? ⟨B, j, none⟩ = w.cell? ⟨B, j, none⟩) := fun j => by
    by_cases hj : j < us.length
    · refine .inl ⟨us[j], List.getElem?_eq_getElem hj, ?_⟩
      have := World.cell?_setCells_in B (bv us) 0 w hin j (by omega)
      rw [Nat.zero_add] at this
      rw [this]
      simp [bv]
    · exact .inr ⟨by omega, World.cell?_setCells_out B (bv us) 0 w ⟨B, j, none⟩ (fun _ _ => by show j < _ ∨ _ ≤ j; rw [hlen]; omega)⟩
  refine ⟨fun j hj => ?_, fun j u hu => ?_, by simp; omega⟩
  · rw [World.frozen?_setCells]
    refine ⟨?_, (h.th j hj).2⟩
    rcases key j with ⟨u, _, e⟩ | ⟨_, e⟩
    · rw [e]; rfl
    · rw [e]; exact (h.th j hj).1
  · rcases key j with ⟨u', h1, e⟩ | ⟨h1, e⟩
    · rw [List.getElem?_append_left (by
        rcases Nat.lt_or_ge j us.length with q | q
        · exact q
        · rw [List.getElem?_eq_none q] at h1; cases h1), h1] at hu
      cases hu
      exact e
    · rw [e]
      rw [List.getElem?_append_right h1, List.getElem?_drop] at hu
      rw [show us.length + (j - us.length) = j by omega] at hu
      exact h.cs j u hu

/-- Four bytes, eight bytes, the greatest first. -/
def be32 (v : Nat) : List UInt8 := [UInt8.ofNat (v / 16777216), UInt8.ofNat (v / 65536), UInt8.ofNat (v / 256), UInt8.ofNat v]
theorem be32_len (v : Nat) : (be32 v).length = 4 := rfl
theorem bv_be32 (v : Nat) (hv : v < 4294967296) : bv (be32 v) = [.int .u8 ((v : Int) / 16777216), .int .u8 ((v : Int) / 65536 % 256), .int .u8 ((v : Int) / 256 % 256), .int .u8 ((v : Int) % 256)] := by
  unfold bv be32
  simp only [List.map_cons, List.map_nil, UInt8.toNat_ofNat']
  refine List.cons_eq_cons.2 ⟨?_, List.cons_eq_cons.2 ⟨?_, List.cons_eq_cons.2 ⟨?_, List.cons_eq_cons.2 ⟨?_, rfl⟩⟩⟩⟩ <;> congr 1 <;> omega
def ff8 : List UInt8 := [255, 255, 255, 255, 255, 255, 255, 255]

section
variable {P : Program} {ops : Array Oper} {rest : List Oper} {o : Oper} {a : Act} {w : World} {Q : Exit → Act → World → Prop}
theorem wpList_append_rooms (hg : o.guard = none) (s x : Operand) (t : TypeId) (hop : o.op = Op.call { callee := Callee.builtin Builtin.append, args := #[s, x], argTypes := #[t, t] })
    (e : TypeId) (i : TypeInfo) (h1 : P.underlying t = some (.slice e)) (h2 : P.info? e = some i) (h4 : i.size = 1)
    (b n cap : Nat) (hs : a.eval s = .slice (some ⟨b, 0, none⟩) n cap)
    (ad : Addr) (m c : Nat) (us : List Value) (hm : us.length = m) (hx : a.eval x = .slice (some ad) m c) (hc : ∀ j u, us[j]? = some u → w.cell? (ad.add j) = some u) (h1c : ∀ u ∈ us, u.oneCell' = true)
    (hroom : n + m ≤ cap) (hth : ∀ j, j < cap → (w.cell? ⟨b, j, none⟩).isSome = true ∧ w.frozen? ⟨b, j, none⟩ = false)
    (hK : wpList P ops Q rest (a.put o.dst (.slice (some ⟨b, 0, none⟩) (n + m) cap)) (w.setCells b n us)) : wpList P ops Q (o :: rest) a w := by
  refine wpList_plain hg fun K hK' => ?_
  have hrun := run_append_room_cells (P := P) w t o.type e i h1 h2 b 0 n cap ad m c us (by simp [h4, hm]) hc h1c hroom (fun j hj => by rw [h4, Nat.zero_add, Nat.mul_one]; exact (hth _ (by omega)).1) (fun j hj => by rw [h4, Nat.zero_add, Nat.mul_one]; exact (hth _ (by omega)).2)
  rw [h4, Nat.zero_add, Nat.mul_one] at hrun
  unfold Oper.wp
  simp [execOp, hop, resolve, invoke, builtin, hs, hx, hrun, Result.andThen]
  exact hK' _ _ hK
theorem wpList_append_str (hg : o.guard = none) (s x : Operand) (t u : TypeId) (hop : o.op = Op.call { callee := Callee.builtin Builtin.append, args := #[s, x], argTypes := #[t, u] })
    (e : TypeId) (i : TypeInfo) (h1 : P.underlying t = some (.slice e)) (hu : P.underlying u = some .string) (h2 : P.info? e = some i) (h4 : i.size = 1)
    (b n cap : Nat) (hs : a.eval s = .slice (some ⟨b, 0, none⟩) n cap) (st : ByteArray) (hx : a.eval x = .string st)
    (hroom : n + st.size ≤ cap) (hth : ∀ j, j < cap → (w.cell? ⟨b, j, none⟩).isSome = true ∧ w.frozen? ⟨b, j, none⟩ = false)
    (hK : wpList P ops Q rest (a.put o.dst (.slice (some ⟨b, 0, none⟩) (n + st.size) cap)) (w.setCells b n (bv st.data.toList))) : wpList P ops Q (o :: rest) a w := by
  refine wpList_plain hg fun K hK' => ?_
  have hf := run_firstCells_string (P := P) w 1 st
  have hst := run_storeCells_cells (P := P) b n (strCells st) 0 w (fun j hj => by rw [strCells_length] at hj; exact (hth _ (by omega)).1) (fun j hj => by rw [strCells_length] at hj; exact (hth _ (by omega)).2) (strCells_oneCell st)
  simp only [Nat.add_zero] at hst
  have hrun : (Builtin.append_ #[t, u] o.type #[.slice (some ⟨b, 0, none⟩) n cap, .string st]).run P w = .ok (.slice (some ⟨b, 0, none⟩) (n + st.size) cap) (w.setCells b n (strCells st)) := by
    simp [Builtin.append_, run_underlying h1, run_underlying hu, sizeOf, typeInfo, h2, h4, Builtin.lenOf, hroom, hf, Addr.add_lit, hst]
  unfold Oper.wp
  simp [execOp, hop, resolve, invoke, builtin, hs, hx, hrun, Result.andThen]
  exact hK' _ _ hK
end

theorem info5 : ∃ i, Ybad.prog.info? 5 = some i ∧ i.size = 1 := by
  have h : (Ybad.prog.info? 5).map (·.size) = some 1 := by kernel_rfl
  cases hi : Ybad.prog.info? 5 with
  | none => simp [hi] at h
  | some j => simp [hi] at h; exact ⟨j, rfl, h⟩

theorem add0 (b j : Nat) : (⟨b, 0, none⟩ : Addr).add j = ⟨b, j, none⟩ := by
  unfold Addr.add; split <;> simp_all

/-- A row of bytes beside an empty struct's block: what is old is as it was, the row reads. -/
theorem two_allocs {w : World} {B cap : Nat} {bs : List UInt8} (hb : Buf w B cap bs) (hB : B < w.heap.size) (c0 : Array Value) (t0 : TypeId) (us : List Value) :
    (∀ j u, us[j]? = some u → ((w.alloc (.cells c0 t0)).alloc (.cells us.toArray 5)).cell? ((⟨w.heap.size + 1, 0, none⟩ : Addr).add j) = some u) ∧ Buf ((w.alloc (.cells c0 t0)).alloc (.cells us.toArray 5)) B cap bs ∧ Below w.heap.size w ((w.alloc (.cells c0 t0)).alloc (.cells us.toArray 5)) := by
  have k : Below w.heap.size w ((w.alloc (.cells c0 t0)).alloc (.cells us.toArray 5)) := ((Below.refl _ _).alloc (Nat.le_refl _) _).alloc (by simp) _
  refine ⟨fun j u hu => ?_, hb.below k hB, k⟩
  have e : (w.alloc (.cells c0 t0)).heap.size = w.heap.size + 1 := by simp
  rw [← e, add0, alloc_new]
  simpa using hu

set_option maxHeartbeats 2000000 in
theorem app32 (B : Nat) (bs : List UInt8) (cap v : Nat) (w : World) (hv : v < 4294967296) (hb : Buf w B cap bs) (hroom : bs.length + 4 ≤ cap) (hB : B < w.heap.size) :
    Calls Ybad.prog 93 #[.agg #[], .slice (some ⟨B, 0, none⟩) bs.length cap, .int .u32 (v : Int)] w fun e w' => e = .returned (.slice (some ⟨B, 0, none⟩) (bs.length + 4) cap) ∧ Buf w' B cap (bs ++ be32 v) ∧ Tw B B w w' := by
  have HV : Hid (bv (be32 v) = [.int .u8 ((v : Int) / 16777216), .int .u8 ((v : Int) / 65536 % 256), .int .u8 ((v : Int) / 256 % 256), .int .u8 ((v : Int) % 256)]) := bv_be32 v hv
  have TA := two_allocs hb hB #[] 140 [.int .u8 ((v : Int) / 16777216), .int .u8 ((v : Int) / 65536 % 256), .int .u8 ((v : Int) / 256 % 256), .int .u8 ((v : Int) % 256)]
  have HT : Hid (_ ∧ _ ∧ _) := TA
  clear hb TA
  obtain ⟨i5, j1, j2⟩ := info5
  have I5 : Hid (Ybad.prog.info? 5 = some i5 ∧ i5.size = 1) := ⟨j1, j2⟩
  clear j1 j2
  generalize hn : bs.length = n
  rw [hn] at hroom
  have HN : Hid (bs.length = n) := hn
  clear hn
  go_enter Ybad.func93, Ybad.ntmps93
  go_wp2_with (refine wpList_append_rooms rfl _ _ 24 rfl 5 i5 Ybad.underlying24 I5.out.1 I5.out.2 B n cap rfl ⟨w.heap.size + 1, 0, none⟩ 4 4 [.int .u8 ((v : Int) / 16777216), .int .u8 ((v : Int) / 65536 % 256), .int .u8 ((v : Int) / 256 % 256), .int .u8 ((v : Int) % 256)] rfl rfl HT.out.1 (by simp [Value.oneCell']) hroom HT.out.2.1.th ?_)
  go_ret
  refine ⟨rfl, ?_, ?_⟩
  · have := HT.out.2.1.push (us := be32 v) (by rw [HN.out, be32_len]; exact hroom)
    rw [HV.out, HN.out] at this
    exact this
  · exact (Tw.of_below HT.out.2.2).setCells _ _

set_option maxHeartbeats 2000000 in
theorem app64 (B : Nat) (bs : List UInt8) (cap : Nat) (w : World) (hb : Buf w B cap bs) (hroom : bs.length + 8 ≤ cap) (hB : B < w.heap.size) :
    Calls Ybad.prog 92 #[.agg #[], .slice (some ⟨B, 0, none⟩) bs.length cap, .int .u64 18446744073709551615] w fun e w' => e = .returned (.slice (some ⟨B, 0, none⟩) (bs.length + 8) cap) ∧ Buf w' B cap (bs ++ ff8) ∧ Tw B B w w' := by
  have TA := two_allocs hb hB #[] 140 [.int .u8 255, .int .u8 255, .int .u8 255, .int .u8 255, .int .u8 255, .int .u8 255, .int .u8 255, .int .u8 255]
  have HT : Hid (_ ∧ _ ∧ _) := TA
  clear hb TA
  obtain ⟨i5, j1, j2⟩ := info5
  have I5 : Hid (Ybad.prog.info? 5 = some i5 ∧ i5.size = 1) := ⟨j1, j2⟩
  clear j1 j2
  generalize hn : bs.length = n
  rw [hn] at hroom
  have HN : Hid (bs.length = n) := hn
  clear hn
  go_enter Ybad.func92, Ybad.ntmps92
  go_wp2_with (refine wpList_append_rooms rfl _ _ 24 rfl 5 i5 Ybad.underlying24 I5.out.1 I5.out.2 B n cap rfl ⟨w.heap.size + 1, 0, none⟩ 8 8 [.int .u8 255, .int .u8 255, .int .u8 255, .int .u8 255, .int .u8 255, .int .u8 255, .int .u8 255, .int .u8 255] rfl rfl HT.out.1 (by simp [Value.oneCell']) hroom HT.out.2.1.th ?_)
  go_ret
  refine ⟨rfl, ?_, ?_⟩
  · have := HT.out.2.1.push (us := ff8) (by rw [HN.out]; exact hroom)
    rw [HN.out] at this
    exact this
  · exact (Tw.of_below HT.out.2.2).setCells _ _

/-- The law's own four bytes. -/
theorem aput (B : Nat) (bs : List UInt8) (cap v : Nat) (w : World) (hv : v < 4294967296) (hb : Buf w B cap bs) (hroom : bs.length + 4 ≤ cap) (hB : B < w.heap.size) :
    Calls Ybad.prog 24 #[.slice (some ⟨B, 0, none⟩) bs.length cap, .int .u32 (v : Int)] w fun e w' => e = .returned (.slice (some ⟨B, 0, none⟩) (bs.length + 4) cap) ∧ Buf w' B cap (bs ++ be32 v) ∧ Tw B B w w' := by
  have HV : Hid (bv (be32 v) = [.int .u8 ((v : Int) / 16777216), .int .u8 ((v : Int) / 65536 % 256), .int .u8 ((v : Int) / 256 % 256), .int .u8 ((v : Int) % 256)]) := bv_be32 v hv
  have k : Below w.heap.size w (w.alloc (.cells #[.int .u8 ((v : Int) / 16777216), .int .u8 ((v : Int) / 65536 % 256), .int .u8 ((v : Int) / 256 % 256), .int .u8 ((v : Int) % 256)] 5)) := (Below.refl _ _).alloc (Nat.le_refl _) _
  have hc : ∀ j u, ([.int .u8 ((v : Int) / 16777216), .int .u8 ((v : Int) / 65536 % 256), .int .u8 ((v : Int) / 256 % 256), .int .u8 ((v : Int) % 256)] : List Value)[j]? = some u → (w.alloc (.cells #[.int .u8 ((v : Int) / 16777216), .int .u8 ((v : Int) / 65536 % 256), .int .u8 ((v : Int) / 256 % 256), .int .u8 ((v : Int) % 256)] 5)).cell? ((⟨w.heap.size, 0, none⟩ : Addr).add j) = some u := fun j u hu => by
    rw [add0, alloc_new]
    simpa using hu
  have HT : Hid (_ ∧ _ ∧ _) := ⟨hc, hb.below k hB, k⟩
  clear hb hc k
  obtain ⟨i5, j1, j2⟩ := info5
  have I5 : Hid (Ybad.prog.info? 5 = some i5 ∧ i5.size = 1) := ⟨j1, j2⟩
  clear j1 j2
  generalize hn : bs.length = n
  rw [hn] at hroom
  have HN : Hid (bs.length = n) := hn
  clear hn
  go_enter Ybad.func24, Ybad.ntmps24
  go_wp2_with (refine wpList_append_rooms rfl _ _ 24 rfl 5 i5 Ybad.underlying24 I5.out.1 I5.out.2 B n cap rfl ⟨w.heap.size, 0, none⟩ 4 4 [.int .u8 ((v : Int) / 16777216), .int .u8 ((v : Int) / 65536 % 256), .int .u8 ((v : Int) / 256 % 256), .int .u8 ((v : Int) % 256)] rfl rfl HT.out.1 (by simp [Value.oneCell']) hroom HT.out.2.1.th ?_)
  go_ret
  refine ⟨rfl, ?_, ?_⟩
  · have := HT.out.2.1.push (us := be32 v) (by rw [HN.out, be32_len]; exact hroom)
    rw [HV.out, HN.out] at this
    exact this
  · exact (Tw.of_below HT.out.2.2).setCells _ _
end Go.Proofs.YbulkcrxoDoor.F
