/-
  '(*Stat).Decode' and the law's model 'zzs4681cmodel' by contracts.
-/
import Derived.Test.YbulkcrxoDoorCDec
namespace Go.Proofs.YbulkcrxoDoor
open Go.RowKit

def upd (V : Nat → Value) (i : Nat) (v : Value) : Nat → Value := fun j => if j = i then v else V j

/-- The Decoder, its bytes and the Stat that is filled, each in a block of its own. -/
structure Stt (w0 w : World) (D S b off n c : Nat) (t : TypeId) (ev : Value) (z : Nat → Int) (p : Nat) (V : Nat → Value) : Prop where
  dec : Dec w D b off n c t ev p
  src : Src w D b off n c t ev z
  cells : ∀ i, i < 11 → w.cell? ⟨S, i, none⟩ = some (V i) ∧ w.frozen? ⟨S, i, none⟩ = false
  hSD : S ≠ D
  hS0 : S ≠ 0
  hSb : 0 < n → S ≠ b
  hS : S < w.heap.size
  fr : Fr (fun k => k = D ∨ k = S) w0 w

theorem Stt.mid {w0 w w1 : World} {D S b off n c p : Nat} {t : TypeId} {ev : Value} {z : Nat → Int} {V : Nat → Value} (h : Stt w0 w D S b off n c t ev z p V) (hf : Fr (· = D) w w1) {i : Nat} (hi : i < 11) :
    w1.cell? ⟨S, i, none⟩ = some (V i) ∧ w1.frozen? ⟨S, i, none⟩ = false :=
  ⟨(hf.cell (p := ⟨S, i, none⟩) h.hS h.hSD).trans (h.cells i hi).1, (hf.frozen (p := ⟨S, i, none⟩) h.hS h.hSD).trans (h.cells i hi).2⟩

theorem Stt.next {w0 w w1 : World} {D S b off n c p q : Nat} {t : TypeId} {ev : Value} {z : Nat → Int} {V : Nat → Value} (h : Stt w0 w D S b off n c t ev z p V) (hd : Dec w1 D b off n c t ev q) (hf : Fr (· = D) w w1) {i : Nat} (hi : i < 11) (v : Value) :
    Stt w0 (w1.setCell ⟨S, i, none⟩ v) D S b off n c t ev z q (upd V i v) := by
  have hD1 : D < w1.heap.size := Nat.lt_of_lt_of_le h.src.hD hf.size
  have k : Fr (· = S) w1 (w1.setCell ⟨S, i, none⟩ v) := (Fr.refl (· = S) _).setCell (p := ⟨S, i, none⟩) rfl v
  refine ⟨hd.fr hD1 k (fun e => h.hSD e.symm), (h.src.fr hf h.src.hbD (fun e => h.src.hD0 e.symm)).fr k (fun x e => h.hSb x e.symm) (fun e => h.hS0 e.symm), fun j hj => ?_, h.hSD, h.hS0, h.hSb, by simpa using Nat.lt_of_lt_of_le h.hS hf.size,
    h.fr.trans ((hf.mono (fun _ e => .inl e)).trans (k.mono (fun _ e => .inr e)))⟩
  have m := h.mid hf hj
  refine ⟨?_, by simpa using m.2⟩
  by_cases e : j = i
  · subst e
    rw [upd, if_pos rfl]
    exact World.cell?_setCell_same _ _ _ m.1
  · rw [upd, if_neg e, World.cell?_setCell_other]
    · exact m.1
    · intro x
      exact e (congrArg Addr.off x).symm

/-- What a Stat holds that was read off the n bytes z. -/
def statV (z : Nat → Int) (n : Nat) (V : Nat → Value) : Nat → Value :=
  upd (upd (upd (upd (upd (upd (upd (upd (upd (upd (upd V 0 (.int .i64 (wrap64 (fld z n 0 8)))) 1 (.int .i64 (wrap64 (fld z n 8 8)))) 2 (.int .i64 (wrap64 (fld z n 16 8)))) 3 (.int .i64 (wrap64 (fld z n 24 8)))) 4 (.int .i32 (wrap32 (fld z n 32 4)))) 5 (.int .i32 (wrap32 (fld z n 36 4)))) 6 (.int .i32 (wrap32 (fld z n 40 4)))) 7 (.int .i64 (wrap64 (fld z n 44 8)))) 8 (.int .i32 (wrap32 (fld z n 52 4)))) 9 (.int .i32 (wrap32 (fld z n 56 4)))) 10 (.int .i64 (wrap64 (fld z n 60 8)))

set_option maxHeartbeats 2000000 in
set_option maxRecDepth 100000 in
theorem decode_any (D S b off n c : Nat) (t : TypeId) (ev : Value) (z : Nat → Int) (V : Nat → Value) (w0 w : World) (h0 : Stt w0 w D S b off n c t ev z 0 V) :
    Calls Ybad.prog 17 #[.pointer (some ⟨S, 0, none⟩), .pointer (some ⟨D, 0, none⟩)] w fun e w' => e = .returned (.tuple #[]) ∧ Stt w0 w' D S b off n c t ev z 68 (statV z n V) := by
  go_enter Ybad.func17, Ybad.ntmps17
  go_wp2_with fail
  refine (int64_any D b off n c 0 t ev z _ (by omega) h0.dec h0.src).mono ?_
  rintro e w1 ⟨rfl, hd, hf⟩
  have g0 := (h0.mid hf (i := 0) (by omega)).1
  have g1 := (h0.mid hf (i := 0) (by omega)).2
  have h1 := h0.next hd hf (i := 0) (by omega) (.int .i64 (wrap64 (fld z n 0 8)))
  clear h0 hd hf
  go_wp2_with fail
  refine (int64_any D b off n c 8 t ev z _ (by omega) h1.dec h1.src).mono ?_
  rintro e w2 ⟨rfl, hd, hf⟩
  have g0 := (h1.mid hf (i := 1) (by omega)).1
  have g1 := (h1.mid hf (i := 1) (by omega)).2
  have h2 := h1.next hd hf (i := 1) (by omega) (.int .i64 (wrap64 (fld z n 8 8)))
  clear h1 hd hf
  go_wp2_with fail
  refine (int64_any D b off n c 16 t ev z _ (by omega) h2.dec h2.src).mono ?_
  rintro e w3 ⟨rfl, hd, hf⟩
  have g0 := (h2.mid hf (i := 2) (by omega)).1
  have g1 := (h2.mid hf (i := 2) (by omega)).2
  have h3 := h2.next hd hf (i := 2) (by omega) (.int .i64 (wrap64 (fld z n 16 8)))
  clear h2 hd hf
  go_wp2_with fail
  refine (int64_any D b off n c 24 t ev z _ (by omega) h3.dec h3.src).mono ?_
  rintro e w4 ⟨rfl, hd, hf⟩
  have g0 := (h3.mid hf (i := 3) (by omega)).1
  have g1 := (h3.mid hf (i := 3) (by omega)).2
  have h4 := h3.next hd hf (i := 3) (by omega) (.int .i64 (wrap64 (fld z n 24 8)))
  clear h3 hd hf
  go_wp2_with fail
  refine (int32_any D b off n c 32 t ev z _ (by omega) h4.dec h4.src).mono ?_
  rintro e w5 ⟨rfl, hd, hf⟩
  have g0 := (h4.mid hf (i := 4) (by omega)).1
  have g1 := (h4.mid hf (i := 4) (by omega)).2
  have h5 := h4.next hd hf (i := 4) (by omega) (.int .i32 (wrap32 (fld z n 32 4)))
  clear h4 hd hf
  go_wp2_with fail
  refine (int32_any D b off n c 36 t ev z _ (by omega) h5.dec h5.src).mono ?_
  rintro e w6 ⟨rfl, hd, hf⟩
  have g0 := (h5.mid hf (i := 5) (by omega)).1
  have g1 := (h5.mid hf (i := 5) (by omega)).2
  have h6 := h5.next hd hf (i := 5) (by omega) (.int .i32 (wrap32 (fld z n 36 4)))
  clear h5 hd hf
  go_wp2_with fail
  refine (int32_any D b off n c 40 t ev z _ (by omega) h6.dec h6.src).mono ?_
  rintro e w7 ⟨rfl, hd, hf⟩
  have g0 := (h6.mid hf (i := 6) (by omega)).1
  have g1 := (h6.mid hf (i := 6) (by omega)).2
  have h7 := h6.next hd hf (i := 6) (by omega) (.int .i32 (wrap32 (fld z n 40 4)))
  clear h6 hd hf
  go_wp2_with fail
  refine (int64_any D b off n c 44 t ev z _ (by omega) h7.dec h7.src).mono ?_
  rintro e w8 ⟨rfl, hd, hf⟩
  have g0 := (h7.mid hf (i := 7) (by omega)).1
  have g1 := (h7.mid hf (i := 7) (by omega)).2
  have h8 := h7.next hd hf (i := 7) (by omega) (.int .i64 (wrap64 (fld z n 44 8)))
  clear h7 hd hf
  go_wp2_with fail
  refine (int32_any D b off n c 52 t ev z _ (by omega) h8.dec h8.src).mono ?_
  rintro e w9 ⟨rfl, hd, hf⟩
  have g0 := (h8.mid hf (i := 8) (by omega)).1
  have g1 := (h8.mid hf (i := 8) (by omega)).2
  have h9 := h8.next hd hf (i := 8) (by omega) (.int .i32 (wrap32 (fld z n 52 4)))
  clear h8 hd hf
  go_wp2_with fail
  refine (int32_any D b off n c 56 t ev z _ (by omega) h9.dec h9.src).mono ?_
  rintro e w10 ⟨rfl, hd, hf⟩
  have g0 := (h9.mid hf (i := 9) (by omega)).1
  have g1 := (h9.mid hf (i := 9) (by omega)).2
  have h10 := h9.next hd hf (i := 9) (by omega) (.int .i32 (wrap32 (fld z n 56 4)))
  clear h9 hd hf
  go_wp2_with fail
  refine (int64_any D b off n c 60 t ev z _ (by omega) h10.dec h10.src).mono ?_
  rintro e w11 ⟨rfl, hd, hf⟩
  have g0 := (h10.mid hf (i := 10) (by omega)).1
  have g1 := (h10.mid hf (i := 10) (by omega)).2
  have h11 := h10.next hd hf (i := 10) (by omega) (.int .i64 (wrap64 (fld z n 60 8)))
  clear h10 hd hf
  go_wp2_with fail
  go_end0
  exact ⟨rfl, h11⟩
end Go.Proofs.YbulkcrxoDoor
