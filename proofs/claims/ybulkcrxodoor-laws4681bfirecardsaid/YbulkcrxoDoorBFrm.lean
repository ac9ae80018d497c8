/-
  LawS4681BFire: 'zzs4681bframe' by a contract: it knows its own frame.
-/
import Derived.Test.YbulkcrxoDoorCBin
import Derived.Test.YbulkcrxoDoorBFir
import Derived.Deep.RegionWith
import Derived.Laws.IdiomStrings
set_option linter.unusedVariables false
namespace Go.Proofs.YbulkcrxoDoor.F
open Go.RowKit Go.Any

theorem u32 (B off n c v : Nat) (w : World) (hn : 4 ≤ n) (hv : v < 4294967296) (hc : ∀ j u, (be32 v)[j]? = some u → w.cell? ⟨B, off + j, none⟩ = some (.int .u8 (u.toNat : Int))) :
    Calls Ybad.prog 26 #[.agg #[], .slice (some ⟨B, off, none⟩) n c] w fun e w' => e = .returned (.int .u32 (v : Int)) ∧ Below w.heap.size w w' := by
  have key := uint32_any B off n c (fun j => (((be32 v).getD j 0).toNat : Int)) 0 w hn (fun j => by
    have := ((be32 v).getD j 0).toNat_lt
    omega) (fun j hj => by
    rw [Nat.zero_add]
    refine hc j ((be32 v).getD j 0) ?_
    rcases (show j = 0 ∨ j = 1 ∨ j = 2 ∨ j = 3 by omega) with rfl | rfl | rfl | rfl <;> rfl)
  refine key.mono ?_
  rintro e w' ⟨rfl, m, rfl⟩
  refine ⟨ret_int ?_, Below.same ((Below.refl _ _).alloc (Nat.le_refl _) _) rfl ⟨rfl, rfl, rfl⟩⟩
  have e0 : ((be32 v).getD 0 0).toNat = v / 16777216 % 256 := by show (UInt8.ofNat (v / 16777216)).toNat = _; rw [UInt8.toNat_ofNat']
  have e1 : ((be32 v).getD 1 0).toNat = v / 65536 % 256 := by show (UInt8.ofNat (v / 65536)).toNat = _; rw [UInt8.toNat_ofNat']
  have e2 : ((be32 v).getD 2 0).toNat = v / 256 % 256 := by show (UInt8.ofNat (v / 256)).toNat = _; rw [UInt8.toNat_ofNat']
  have e3 : ((be32 v).getD 3 0).toNat = v % 256 := by show (UInt8.ofNat v).toNat = _; rw [UInt8.toNat_ofNat']
  simp only [beK, Nat.zero_add, e0, e1, e2, e3]
  omega

/-- Where the frame's numbers stand. -/
theorem frm_at {u : Nat} {p : ByteArray} {w : World} {B : Nat} (h : Rd w B (frm u p)) :
    (∀ j x, (be32 (28 + p.size))[j]? = some x → w.cell? ⟨B, 0 + j, none⟩ = some (.int .u8 (x.toNat : Int))) ∧ (∀ j x, (be32 u)[j]? = some x → w.cell? ⟨B, 20 + j, none⟩ = some (.int .u8 (x.toNat : Int))) ∧
    (∀ j x, (be32 3)[j]? = some x → w.cell? ⟨B, 24 + j, none⟩ = some (.int .u8 (x.toNat : Int))) ∧ (∀ j x, (be32 p.size)[j]? = some x → w.cell? ⟨B, 28 + j, none⟩ = some (.int .u8 (x.toNat : Int))) ∧
    (∀ j x, p.data.toList[j]? = some x → w.cell? ⟨B, 32 + j, none⟩ = some (.int .u8 (x.toNat : Int))) := by
  have mid : ∀ (a b c : List UInt8) (k : Nat), a.length = k → ∀ j x, b[j]? = some x → (a ++ b ++ c)[k + j]? = some x := fun a b c k hk j x hx => by
    have hj : j < b.length := by
      rcases List.getElem?_eq_some_iff.1 hx with ⟨h, _⟩
      exact h
    rw [List.append_assoc, List.getElem?_append_right (by omega), hk, Nat.add_sub_cancel_left, List.getElem?_append_left hj]
    exact hx
  have f1 : frm u p = [] ++ be32 (28 + p.size) ++ (hdr ++ be32 u ++ be32 3 ++ be32 p.size ++ p.data.toList) := by simp [frm, List.append_assoc]
  have f2 : frm u p = (be32 (28 + p.size) ++ hdr) ++ be32 u ++ (be32 3 ++ be32 p.size ++ p.data.toList) := by simp [frm, List.append_assoc]
  have f3 : frm u p = (be32 (28 + p.size) ++ hdr ++ be32 u) ++ be32 3 ++ (be32 p.size ++ p.data.toList) := by simp [frm, List.append_assoc]
  have f4 : frm u p = (be32 (28 + p.size) ++ hdr ++ be32 u ++ be32 3) ++ be32 p.size ++ p.data.toList := by simp [frm, List.append_assoc]
  have f5 : frm u p = (be32 (28 + p.size) ++ hdr ++ be32 u ++ be32 3 ++ be32 p.size) ++ p.data.toList ++ [] := by simp [frm, List.append_assoc]
  refine ⟨fun j x hx => h _ _ (by rw [f1]; exact mid _ _ _ 0 rfl j x hx), fun j x hx => h _ _ (by rw [f2]; exact mid _ _ _ 20 rfl j x hx), fun j x hx => h _ _ (by rw [f3]; exact mid _ _ _ 24 rfl j x hx), fun j x hx => h _ _ (by rw [f4]; exact mid _ _ _ 28 rfl j x hx), fun j x hx => h _ _ (by rw [f5]; exact mid _ _ _ 32 rfl j x hx)⟩

theorem Rd.below {w w' : World} {B : Nat} {bs : List UInt8} (h : Rd w B bs) (k : Below w.heap.size w w') (hB : B < w.heap.size) : Rd w' B bs := fun j u hu => (k.cell (p := ⟨B, j, none⟩) hB).trans (h j u hu)

theorem undrew {w w1 : World} (k : Below w.drew.heap.size w.drew w1) : Below w.heap.size w w1 := ⟨k.os, k.tape, k.output, k.size, k.block⟩

set_option maxHeartbeats 4000000 in
set_option maxRecDepth 20000 in
theorem bframe (B u : Nat) (p : ByteArray) (w : World) (hp : p.size ≤ 8) (hu : u < 2147483648) (h : Rd w B (frm u p)) (hB : B < w.heap.size) :
    Calls Ybad.prog 15 #[.slice (some ⟨B, 0, none⟩) (32 + p.size) 64, .int .i32 (u : Int), .string p] w fun e w' => e = .returned (.bool true) ∧ Below w.heap.size w w' := by
  have HR : Hid (Rd w B (frm u p)) := h
  have HB : Hid (B < w.heap.size) := hB
  clear h hB
  have hw1 : IntKind.u32.wrap (28 + (p.size : Int)) = 28 + (p.size : Int) := by rw [IntKind.wrap_u32]; omega
  have hw2 : IntKind.u32.wrap (p.size : Int) = (p.size : Int) := by rw [IntKind.wrap_u32]; omega
  have hw3 : IntKind.u32.wrap (u : Int) = (u : Int) := by rw [IntKind.wrap_u32]; omega
  go_enter Ybad.func15, Ybad.ntmps15
  go_wp2_with fail
  have hw4 : IntKind.u32.wrap (IntKind.i64.wrap (32 + (p.size : Int) - 4)) = 28 + (p.size : Int) := by rw [IntKind.wrap_i64, IntKind.wrap_u32]; omega
  have e1 : ((28 + p.size : Nat) : Int) = 28 + (p.size : Int) := by omega
  go_region_with (go_at_call 26; refine (u32 B 0 4 _ (28 + p.size) _ (by omega) (by omega) (by exact (frm_at HR.out).1)).mono ?_; rintro e w1 ⟨rfl, k1⟩)
  replace k1 := undrew k1
  have HR1 : Hid (Rd w1 B (frm u p) ∧ B < w1.heap.size ∧ Below w.heap.size w w1) := ⟨HR.out.below k1 HB.out, Nat.lt_of_lt_of_le HB.out k1.size, k1⟩
  clear k1 hw4 e1
  go_wp2_with fail
  have s1 : 32 + p.size - 12 - p.size = 20 := by omega
  have s2 : 32 + p.size - 20 = 12 + p.size := by omega
  rw [s1, s2, show 64 - 20 = 44 from rfl]
  clear s1 s2
  go_region_with (go_at_call 26; refine (u32 B 20 4 _ u _ (by omega) (by omega) (by exact (frm_at HR1.out.1).2.1)).mono ?_; rintro e w2 ⟨rfl, k2⟩)
  replace k2 := undrew k2
  have HR2 : Hid (Rd w2 B (frm u p) ∧ B < w2.heap.size ∧ Below w.heap.size w w2) := ⟨HR1.out.1.below k2 HR1.out.2.1, Nat.lt_of_lt_of_le HR1.out.2.1 k2.size, HR1.out.2.2.trans (Below.mono k2 HR1.out.2.2.size)⟩
  clear k2 HR1
  go_wp2_with fail
  go_region_with (go_at_call 26; refine (u32 B 24 4 _ 3 _ (by omega) (by omega) (by exact (frm_at HR2.out.1).2.2.1)).mono ?_; rintro e w3 ⟨rfl, k3⟩)
  replace k3 := undrew k3
  have HR3 : Hid (Rd w3 B (frm u p) ∧ B < w3.heap.size ∧ Below w.heap.size w w3) := ⟨HR2.out.1.below k3 HR2.out.2.1, Nat.lt_of_lt_of_le HR2.out.2.1 k3.size, HR2.out.2.2.trans (Below.mono k3 HR2.out.2.2.size)⟩
  clear k3 HR2
  go_wp2_with fail
  go_region_with (go_at_call 26; refine (u32 B 28 4 _ p.size _ (by omega) (by omega) (by exact (frm_at HR3.out.1).2.2.2.1)).mono ?_; rintro e w4 ⟨rfl, k4⟩)
  replace k4 := undrew k4
  have HR4 : Hid (Rd w4 B (frm u p) ∧ B < w4.heap.size ∧ Below w.heap.size w w4) := ⟨HR3.out.1.below k4 HR3.out.2.1, Nat.lt_of_lt_of_le HR3.out.2.1 k4.size, HR3.out.2.2.trans (Below.mono k4 HR3.out.2.2.size)⟩
  clear k4 HR3
  have hl : p.data.toList.length = p.size := Array.length_toList
  have CV := run_convert_bytes_back (P := Ybad.prog) w4 24 9 5 ⟨B, 32, none⟩ 32 p.data.toList Ybad.underlying24 Ybad.underlying5 Ybad.underlying9 (fun j hj => by
    rw [Addr.add_mid]
    exact (frm_at HR4.out.1).2.2.2.2 j _ (List.getElem?_eq_getElem hj))
  rw [hl] at CV
  have ep : (⟨p.data.toList.toArray⟩ : ByteArray) = p := by cases p; simp
  rw [ep] at CV
  clear hl ep
  go_wp2
  go_ret
  exact ⟨rfl, HR4.out.2.2⟩
end Go.Proofs.YbulkcrxoDoor.F
