/-
  The Decoder's methods by contracts.
-/
import Derived.Test.YbulkcrxoDoorCBin
import Derived.Deep.RegionWith
namespace Go.Proofs.YbulkcrxoDoor
open Go.RowKit

/-- Of the blocks that were there those outside S are as they were. -/
structure Fr (S : Nat → Prop) (w w' : World) : Prop where
  os : w'.os = w.os
  tape : w'.tape = w.tape
  output : w'.output = w.output
  size : w.heap.size ≤ w'.heap.size
  block : ∀ k, k < w.heap.size → ¬ S k → w'.heap[k]? = w.heap[k]?

namespace Fr
variable {S : Nat → Prop} {a b c w : World}
theorem refl (S : Nat → Prop) (w : World) : Fr S w w := ⟨rfl, rfl, rfl, Nat.le_refl _, fun _ _ _ => rfl⟩
theorem trans (h : Fr S a b) (k : Fr S b c) : Fr S a c :=
  ⟨k.os.trans h.os, k.tape.trans h.tape, k.output.trans h.output, Nat.le_trans h.size k.size, fun i hi hs => (k.block i (Nat.lt_of_lt_of_le hi h.size) hs).trans (h.block i hi hs)⟩
theorem mono {S' : Nat → Prop} (h : Fr S a b) (hs : ∀ k, S k → S' k) : Fr S' a b := ⟨h.os, h.tape, h.output, h.size, fun k hk hn => h.block k hk (fun x => hn (hs k x))⟩
theorem alloc (h : Fr S a w) (o : Obj) : Fr S a (w.alloc o) :=
  h.trans ⟨rfl, rfl, rfl, by simp, fun k hk _ => Below.heap_alloc _ _ _ hk⟩
theorem setCell (h : Fr S a w) {p : Addr} (hp : S p.block) (u : Value) : Fr S a (w.setCell p u) :=
  h.trans ⟨rfl, rfl, rfl, by simp [World.setCell], fun k _ hn => Below.heap_setCell _ _ _ _ (fun e => hn (e ▸ hp))⟩
theorem drewN (h : Fr S a w) (n : Nat) : Fr S a (w.drewN n) := ⟨h.os, h.tape, h.output, h.size, h.block⟩
theorem cell (h : Fr S a w) {p : Addr} (hp : p.block < a.heap.size) (hs : ¬ S p.block) : w.cell? p = a.cell? p := World.cell?_of_block (w := a) (h.block p.block hp hs)
theorem frozen (h : Fr S a w) {p : Addr} (hp : p.block < a.heap.size) (hs : ¬ S p.block) : w.frozen? p = a.frozen? p := World.frozen?_of_block (w := a) (h.block p.block hp hs)
theorem below (h : Fr S a w) {B : Nat} (hB : B ≤ a.heap.size) (hs : ∀ k, S k → B ≤ k) : Below B a w :=
  ⟨h.os, h.tape, h.output, h.size, fun k hk => h.block k (by omega) (fun x => by have := hs k x; omega)⟩
end Fr

set_option maxHeartbeats 400000 in
theorem take_ok (D b o n c k : Nat) (w : World) (hk : k ≤ n) (hnc : n ≤ c) (_hcm : c ≤ 9223372036854775807)
    (h0 : w.cell? ⟨D, 0, none⟩ = some (.slice (some ⟨b, o, none⟩) n c)) (h1 : w.cell? ⟨D, 1, none⟩ = some .nilIface) (f0 : w.frozen? ⟨D, 0, none⟩ = false) :
    Calls Ybad.prog 35 #[.pointer (some ⟨D, 0, none⟩), .int .i64 k] w fun e w' => e = .returned (.slice (some ⟨b, o, none⟩) k k) ∧ ∃ ao, (k < c → ao = some ⟨b, o + k, none⟩) ∧ w' = w.setCell ⟨D, 0, none⟩ (.slice ao (n - k) (c - k)) := by
  go_enter Ybad.func35, Ybad.ntmps35
  go_wp2
  · go_ret
    exact ⟨rfl, some ⟨b, o, none⟩, rfl⟩
  · go_ret
    exact ⟨rfl, some ⟨b, o + k, none⟩, fun _ => rfl, rfl⟩
set_option maxHeartbeats 400000 in
theorem take_short (D n c k : Nat) (ao : Option Addr) (ev : Value) (t : TypeId) (w : World) (hk : n < k) (_hkm : k ≤ 100)
    (h0 : w.cell? ⟨D, 0, none⟩ = some (.slice ao n c)) (h1 : w.cell? ⟨D, 1, none⟩ = some .nilIface) (f0 : w.frozen? ⟨D, 0, none⟩ = false) (f1 : w.frozen? ⟨D, 1, none⟩ = false)
    (he : w.cell? ⟨0, 0, none⟩ = some (.iface t ev)) :
    Calls Ybad.prog 35 #[.pointer (some ⟨D, 0, none⟩), .int .i64 k] w fun e w' => e = .returned (.slice none 0 0) ∧ w' = (w.setCell ⟨D, 1, none⟩ (.iface t ev)).setCell ⟨D, 0, none⟩ (.slice none 0 0) := by
  go_enter Ybad.func35, Ybad.ntmps35
  go_wp2
  go_ret
  exact ⟨rfl, rfl⟩
set_option maxHeartbeats 400000 in
theorem take_failed (D k : Nat) (ev : Value) (t : TypeId) (w : World)
    (h1 : w.cell? ⟨D, 1, none⟩ = some (.iface t ev)) :
    Calls Ybad.prog 35 #[.pointer (some ⟨D, 0, none⟩), .int .i64 k] w fun e w' => e = .returned (.slice none 0 0) ∧ w' = w := by
  go_enter Ybad.func35, Ybad.ntmps35
  go_wp2
  go_ret
  exact ⟨rfl, rfl⟩

/-- The Decoder behind D when p bytes have been asked for: at place p of the n bytes, or failed. -/
structure Dec (w : World) (D b off n c : Nat) (t : TypeId) (ev : Value) (p : Nat) : Prop where
  f0 : w.frozen? ⟨D, 0, none⟩ = false
  f1 : w.frozen? ⟨D, 1, none⟩ = false
  live : p ≤ n → ∃ ao, w.cell? ⟨D, 0, none⟩ = some (.slice ao (n - p) (c - p)) ∧ (p < n → ao = some ⟨b, off + p, none⟩) ∧ w.cell? ⟨D, 1, none⟩ = some .nilIface
  dead : n < p → w.cell? ⟨D, 0, none⟩ = some (.slice none 0 0) ∧ w.cell? ⟨D, 1, none⟩ = some (.iface t ev)

/-- The bytes, and ErrShort's variable, lie apart from the Decoder. -/
structure Src (w : World) (D b off n c : Nat) (t : TypeId) (ev : Value) (z : Nat → Int) : Prop where
  hnc : n ≤ c
  hcm : c ≤ 9223372036854775807
  hz : ∀ j, 0 ≤ z j ∧ z j ≤ 255
  hbD : 0 < n → b ≠ D
  hbs : 0 < n → b < w.heap.size
  hD : D < w.heap.size
  hD0 : D ≠ 0
  bytes : ∀ j, j < n → w.cell? ⟨b, off + j, none⟩ = some (.int .u8 (z j))
  err : w.cell? ⟨0, 0, none⟩ = some (.iface t ev)

theorem Src.fr {w w' : World} {D b off n c : Nat} {t : TypeId} {ev : Value} {z : Nat → Int} {S : Nat → Prop} (h : Src w D b off n c t ev z) (k : Fr S w w') (hb : 0 < n → ¬ S b) (h0 : ¬ S 0) : Src w' D b off n c t ev z :=
  ⟨h.hnc, h.hcm, h.hz, h.hbD, fun x => Nat.lt_of_lt_of_le (h.hbs x) k.size, Nat.lt_of_lt_of_le h.hD k.size, h.hD0,
    fun j hj => (k.cell (p := ⟨b, off + j, none⟩) (h.hbs (by omega)) (hb (by omega))).trans (h.bytes j hj), (k.cell (p := ⟨0, 0, none⟩) (World.block_lt_of_cell? _ _ h.err) h0).trans h.err⟩

theorem Dec.fr {w w' : World} {D b off n c p : Nat} {t : TypeId} {ev : Value} {S : Nat → Prop} (h : Dec w D b off n c t ev p) (hD : D < w.heap.size) (k : Fr S w w') (hs : ¬ S D) : Dec w' D b off n c t ev p := by
  have e0 := k.cell (p := ⟨D, 0, none⟩) hD hs
  have e1 := k.cell (p := ⟨D, 1, none⟩) hD hs
  exact ⟨(k.frozen (p := ⟨D, 0, none⟩) hD hs).trans h.f0, (k.frozen (p := ⟨D, 1, none⟩) hD hs).trans h.f1, by rw [e0, e1]; exact h.live, by rw [e0, e1]; exact h.dead⟩

theorem wrap32_0 : wrap32 0 = 0 := by unfold wrap32; decide
theorem wrap64_0 : wrap64 0 = 0 := by unfold wrap64; decide

/-- The Decoder behind a take that went well. -/
theorem Dec.step {w w' : World} {D b off n c p k : Nat} {t : TypeId} {ev : Value} {ao : Option Addr} (hd : Dec w D b off n c t ev p) (hD : D < w.heap.size) (hle : p + k ≤ n) (hnc : n ≤ c)
    (hao : k < c - p → ao = some ⟨b, off + p + k, none⟩) (hw : Fr (fun _ => False) (w.setCell ⟨D, 0, none⟩ (.slice ao (n - p - k) (c - p - k))) w') : Dec w' D b off n c t ev (p + k) ∧ Fr (· = D) w w' := by
  obtain ⟨ao0, g0, _, g1⟩ := hd.live (by omega)
  refine ⟨Dec.fr (S := fun _ => False) (w := w.setCell ⟨D, 0, none⟩ (.slice ao (n - p - k) (c - p - k))) ⟨?_, ?_, fun _ => ⟨ao, ?_, ?_, ?_⟩, fun h => by omega⟩ (by simpa using hD) hw (fun h => h), ((Fr.refl (· = D) _).setCell (p := ⟨D, 0, none⟩) rfl _).trans (hw.mono (fun _ h => h.elim))⟩
  · simpa using hd.f0
  · simpa using hd.f1
  · have e1 : n - (p + k) = n - p - k := by omega
    have e2 : c - (p + k) = c - p - k := by omega
    rw [e1, e2]
    exact World.cell?_setCell_same _ _ _ g0
  · intro h
    rw [hao (by omega)]
    simp [Nat.add_assoc]
  · rw [World.cell?_setCell_other]
    · exact g1
    · simp

/-- .. behind one that fell short. -/
theorem Dec.fall {w : World} {D b off n c p q : Nat} {t : TypeId} {ev : Value} (hd : Dec w D b off n c t ev p) (hp : p ≤ n) (hq : n < q) :
    Dec ((w.setCell ⟨D, 1, none⟩ (.iface t ev)).setCell ⟨D, 0, none⟩ (.slice none 0 0)) D b off n c t ev q := by
  obtain ⟨ao0, g0, _, g1⟩ := hd.live hp
  refine ⟨by simpa using hd.f0, by simpa using hd.f1, fun h => by omega, fun _ => ⟨?_, ?_⟩⟩
  · refine World.cell?_setCell_same _ _ _ (u := .slice ao0 (n - p) (c - p)) ?_
    rw [World.cell?_setCell_other]
    · exact g0
    · simp
  · rw [World.cell?_setCell_other]
    · exact World.cell?_setCell_same _ _ _ g1
    · simp

/-- .. and what has failed stays so. -/
theorem Dec.stay {w : World} {D b off n c p q : Nat} {t : TypeId} {ev : Value} (hd : Dec w D b off n c t ev p) (hp : n < p) (hq : n < q) : Dec w D b off n c t ev q :=
  ⟨hd.f0, hd.f1, fun h => by omega, fun _ => hd.dead hp⟩

set_option maxHeartbeats 1000000 in
set_option maxRecDepth 100000 in
theorem int64_any (D b off n c p : Nat) (t : TypeId) (ev : Value) (z : Nat → Int) (w : World) (hp : p ≤ 4096) (hd : Dec w D b off n c t ev p) (hs : Src w D b off n c t ev z) :
    Calls Ybad.prog 27 #[.pointer (some ⟨D, 0, none⟩)] w fun e w' => e = .returned (.int .i64 (wrap64 (fld z n p 8))) ∧ Dec w' D b off n c t ev (p + 8) ∧ Fr (· = D) w w' := by
  have hnil := fun (w : World) (a : Option Addr) (n c : Nat) => Lib.run_eql_slice_nil (P := Ybad.prog) w 24 5 a n c 0 0 Ybad.underlying24
  by_cases hle : p + 8 ≤ n
  · obtain ⟨ao, g0, ga, g1⟩ := hd.live (by omega)
    obtain rfl := ga (by omega)
    have ht := take_ok D b (off + p) (n - p) (c - p) 8 w (by omega) (by have := hs.hnc; omega) (by have := hs.hcm; omega) g0 g1 hd.f0
    have hbd := beK_bd z p hs.hz 8
    rw [fld, if_pos hle]
    go_enter Ybad.func27, Ybad.ntmps27
    go_wp2_with fail
    refine ht.mono ?_
    rintro e w1 ⟨rfl, ao', hao, rfl⟩
    clear ht g0 g1
    have HA : Hid (8 < c - p → ao' = some ⟨b, off + p + 8, none⟩) := hao
    clear hao
    have hu := uint64_any b (off + p) 8 8 z p (w.setCell ⟨D, 0, none⟩ (.slice ao' (n - p - 8) (c - p - 8))) (by omega) hs.hz (fun j hj => by
      rw [World.cell?_setCell_other]
      · rw [Nat.add_assoc]; exact hs.bytes (p + j) (by omega)
      · exact fun h => hs.hbD (by omega) (congrArg Addr.block h).symm)
    go_wp2_with fail
    refine hu.mono ?_
    rintro e w1 ⟨rfl, m, rfl⟩
    go_wp2
    go_ret
    exact ⟨rfl, hd.step hs.hD hle hs.hnc HA.out (((Fr.refl _ _).alloc _).drewN _)⟩
  · rw [fld, if_neg hle]
    by_cases hpn : p ≤ n
    · obtain ⟨ao, g0, ga, g1⟩ := hd.live hpn
      have ht := take_short D (n - p) (c - p) 8 ao ev t w (by omega) (by omega) g0 g1 hd.f0 hd.f1 hs.err
      go_enter Ybad.func27, Ybad.ntmps27
      go_wp2_with fail
      refine ht.mono ?_
      rintro e w1 ⟨rfl, rfl⟩
      go_wp2
      go_ret
      exact ⟨ret_int wrap64_0.symm, hd.fall hpn (by omega), ((Fr.refl (· = D) _).setCell (p := ⟨D, 1, none⟩) rfl _).setCell (p := ⟨D, 0, none⟩) rfl _⟩
    · have g := hd.dead (by omega)
      have ht := take_failed D 8 ev t w g.2
      go_enter Ybad.func27, Ybad.ntmps27
      go_wp2_with fail
      refine ht.mono ?_
      rintro e w1 ⟨rfl, rfl⟩
      go_wp2
      go_ret
      exact ⟨ret_int wrap64_0.symm, hd.stay (by omega) (by omega), Fr.refl _ _⟩
set_option maxHeartbeats 1000000 in
set_option maxRecDepth 100000 in
theorem int32_any (D b off n c p : Nat) (t : TypeId) (ev : Value) (z : Nat → Int) (w : World) (hp : p ≤ 4096) (hd : Dec w D b off n c t ev p) (hs : Src w D b off n c t ev z) :
    Calls Ybad.prog 28 #[.pointer (some ⟨D, 0, none⟩)] w fun e w' => e = .returned (.int .i32 (wrap32 (fld z n p 4))) ∧ Dec w' D b off n c t ev (p + 4) ∧ Fr (· = D) w w' := by
  have hnil := fun (w : World) (a : Option Addr) (n c : Nat) => Lib.run_eql_slice_nil (P := Ybad.prog) w 24 5 a n c 0 0 Ybad.underlying24
  by_cases hle : p + 4 ≤ n
  · obtain ⟨ao, g0, ga, g1⟩ := hd.live (by omega)
    obtain rfl := ga (by omega)
    have ht := take_ok D b (off + p) (n - p) (c - p) 4 w (by omega) (by have := hs.hnc; omega) (by have := hs.hcm; omega) g0 g1 hd.f0
    have hbd := beK_bd z p hs.hz 4
    rw [fld, if_pos hle]
    go_enter Ybad.func28, Ybad.ntmps28
    go_wp2_with fail
    refine ht.mono ?_
    rintro e w1 ⟨rfl, ao', hao, rfl⟩
    clear ht g0 g1
    have HA : Hid (4 < c - p → ao' = some ⟨b, off + p + 4, none⟩) := hao
    clear hao
    have hu := uint32_any b (off + p) 4 4 z p (w.setCell ⟨D, 0, none⟩ (.slice ao' (n - p - 4) (c - p - 4))) (by omega) hs.hz (fun j hj => by
      rw [World.cell?_setCell_other]
      · rw [Nat.add_assoc]; exact hs.bytes (p + j) (by omega)
      · exact fun h => hs.hbD (by omega) (congrArg Addr.block h).symm)
    go_wp2_with fail
    refine hu.mono ?_
    rintro e w1 ⟨rfl, m, rfl⟩
    go_wp2
    go_ret
    exact ⟨rfl, hd.step hs.hD hle hs.hnc HA.out (((Fr.refl _ _).alloc _).drewN _)⟩
  · rw [fld, if_neg hle]
    by_cases hpn : p ≤ n
    · obtain ⟨ao, g0, ga, g1⟩ := hd.live hpn
      have ht := take_short D (n - p) (c - p) 4 ao ev t w (by omega) (by omega) g0 g1 hd.f0 hd.f1 hs.err
      go_enter Ybad.func28, Ybad.ntmps28
      go_wp2_with fail
      refine ht.mono ?_
      rintro e w1 ⟨rfl, rfl⟩
      go_wp2
      go_ret
      exact ⟨ret_int wrap32_0.symm, hd.fall hpn (by omega), ((Fr.refl (· = D) _).setCell (p := ⟨D, 1, none⟩) rfl _).setCell (p := ⟨D, 0, none⟩) rfl _⟩
    · have g := hd.dead (by omega)
      have ht := take_failed D 4 ev t w g.2
      go_enter Ybad.func28, Ybad.ntmps28
      go_wp2_with fail
      refine ht.mono ?_
      rintro e w1 ⟨rfl, rfl⟩
      go_wp2
      go_ret
      exact ⟨ret_int wrap32_0.symm, hd.stay (by omega) (by omega), Fr.refl _ _⟩
end Go.Proofs.YbulkcrxoDoor
