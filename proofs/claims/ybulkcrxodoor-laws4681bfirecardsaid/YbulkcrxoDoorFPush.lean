/-
  LawS4681AFires, LawS4681BFire: 'conn.push' of a closing conn, 'Server.push', 'Server.send' by contracts.
-/
import Derived.Test.YbulkcrxoDoorFSend
set_option linter.unusedVariables false
namespace Go.Proofs.YbulkcrxoDoor.F
open Go.RowKit Go.Any Go.MuLone

set_option maxHeartbeats 4000000 in
set_option maxRecDepth 20000 in
theorem push_closed (C : Nat) (o : Value) (q : Int) (v : Value) (w : World) (h : Cn w C true o q) :
    Calls Ybad.prog 38 #[.pointer (some ⟨C, 0, none⟩), v] w fun e w' => e = .returned (.bool false) ∧ Cn w' C true o q ∧ Fr (fun j => j = C) w w' := by
  have H : Hid (Cn w C true o q) := h
  have g3 := h.c3
  have g14 := h.c14
  have f3 := fz h.blk 3
  clear h
  go_enter_defers Ybad.func38, Ybad.ntmps38
  go_wp2_with (go_at_call 41; refine (lock_free Ybad.muLib ⟨C, 3, none⟩ _ g3 f3).mono ?_; rintro e w' ⟨rfl, rfl⟩)
  refine leaves_cons (f := 42) (args := #[.pointer (some ⟨C, 3, none⟩)]) (by simp) (by simp [go_sem]) ?_
  refine (unlock_deferred Ybad.muLib ⟨C, 3, none⟩ .returning _ (World.cell?_setCell_same _ _ _ g3) (by simpa using f3)).mono ?_
  rintro e u' w7 ⟨rfl, rfl, rfl⟩
  have E : ∀ j, j ≠ 3 → ((w.setCell ⟨C, 3, none⟩ (.int .i32 1)).setCell ⟨C, 3, none⟩ (.int .i32 0)).cell? ⟨C, j, none⟩ = w.cell? ⟨C, j, none⟩ := fun j hj => by
    rw [World.cell?_setCell_other _ _ _ _ (by intro h; injection h; omega), World.cell?_setCell_other _ _ _ _ (by intro h; injection h; omega)]
  refine ⟨_, results_tmp rfl _ _ _, rfl, ⟨blk_set (blk_set H.out.blk C 3 _) C 3 _, World.cell?_setCell_same _ _ _ (World.cell?_setCell_same _ _ _ g3), (E 6 (by omega)).trans H.out.c6, (E 7 (by omega)).trans H.out.c7, ?_, (E 12 (by omega)).trans H.out.c12, (E 13 (by omega)).trans H.out.c13, (E 14 (by omega)).trans H.out.c14⟩, ((Fr.refl (fun j => j = C) w).setCell _ _ (.inl rfl)).setCell _ _ (.inl rfl)⟩
  rw [E 11 (by omega)]
  exact H.out.ck

/-- The server's counts. -/
structure Srv (w : World) (V X : Nat) (n m : Int) : Prop where
  blk : ∃ c t, w.heap[V]? = some (.cells c t (0, 0))
  x : w.cell? ⟨V, 8, none⟩ = some (.pointer (some ⟨X, 0, none⟩))
  s : w.cell? ⟨V, 13, none⟩ = some (.int .i64 n)
  e : w.cell? ⟨V, 14, none⟩ = some (.int .i64 m)
theorem Srv.block {w w' : World} {V X : Nat} {n m : Int} (h : Srv w V X n m) (hb : w'.heap[V]? = w.heap[V]?) : Srv w' V X n m := by
  obtain ⟨⟨c, t, e⟩, h1, h2, h3⟩ := h
  exact ⟨⟨c, t, hb.trans e⟩, (cellB hb 8).trans h1, (cellB hb 13).trans h2, (cellB hb 14).trans h3⟩

set_option maxHeartbeats 4000000 in
set_option maxRecDepth 20000 in
theorem spush_open (V X C lo n : Nat) (a b : Int) (o : Value) (fs : List Value) (q : Int) (B len : Nat) (w : World) (hV : Srv w V X a b) (h : Cn w C false o q) (hO : w.ownsRow lo 24 1 o n fs) (hlo : lo ≤ w.heap.size) (hC : C < lo) (hVl : V < lo) (hVC : V ≠ C) (hn : n ≤ 8) (hq : 0 ≤ q ∧ q ≤ 1000) (hl : len ≤ 64) (ha : 0 ≤ a ∧ a ≤ 1000) :
    Calls Ybad.prog 33 #[.pointer (some ⟨V, 0, none⟩), .pointer (some ⟨C, 0, none⟩), .slice (some ⟨B, 0, none⟩) len 64] w fun e w' => e = .returned (.bool true) ∧ ∃ o', Srv w' V X (a + 1) b ∧ Cn w' C false o' (q + len) ∧ w'.ownsRow lo 24 1 o' (n + 1) (fs ++ [.slice (some ⟨B, 0, none⟩) len 64]) ∧ Fr (fun j => j = V ∨ j = C ∨ o.ownBlock = some j) w w' := by
  have HV : Hid (Srv w V X a b) := hV
  have H : Hid (Cn w C false o q) := h
  have HO : Hid (w.ownsRow lo 24 1 o n fs) := hO
  have lV : V < w.heap.size := World.block_lt_of_cell? _ _ hV.s
  have hw : IntKind.i64.wrap (a + 1) = a + 1 := by rw [IntKind.wrap_i64]; omega
  clear hV h hO
  go_enter Ybad.func33, Ybad.ntmps33
  go_wp2_with fail
  refine (push_open C lo n o fs q B len w H.out HO.out hlo hC hn hq hl).mono ?_
  rintro e w2 ⟨rfl, o', hC2, hO2, hF2⟩
  have H2 : Hid (Cn w2 C false o' (q + len) ∧ w2.ownsRow lo 24 1 o' (n + 1) (fs ++ [.slice (some ⟨B, 0, none⟩) len 64]) ∧ Fr (fun j => j = C ∨ o.ownBlock = some j) w w2) := ⟨hC2, hO2, hF2⟩
  have sv := HV.out.block (hF2.block V lV (fun q => by
    rcases q with q | q
    · exact hVC q
    · exact own_ne HO.out hVl q.symm))
  have y := sv.s
  have yf := fz sv.blk 13
  have HS : Hid (Srv w2 V X a b) := sv
  clear sv hC2 hO2 hF2
  go_wp2
  go_ret
  have bl : ∀ j, j ≠ V → (w2.setCell ⟨V, 13, none⟩ (.int .i64 (a + 1))).heap[j]? = w2.heap[j]? := fun j hj => Below.heap_setCell _ _ _ _ hj
  refine ⟨rfl, o', ⟨blk_set HS.out.blk V 13 _, ?_, World.cell?_setCell_same _ _ _ HS.out.s, ?_⟩, H2.out.1.block (bl C (Ne.symm hVC)), own_block H2.out.2.1 fun g hg _ => bl g (by omega), (H2.out.2.2.mono fun j hj => .inr hj).setCell _ _ (.inl (.inl rfl))⟩
  · rw [World.cell?_setCell_other _ _ _ _ (by intro h; injection h; omega)]; exact HS.out.x
  · rw [World.cell?_setCell_other _ _ _ _ (by intro h; injection h; omega)]; exact HS.out.e

set_option maxHeartbeats 4000000 in
set_option maxRecDepth 20000 in
theorem spush_closed (V X C : Nat) (a b : Int) (o : Value) (q : Int) (v : Value) (w : World) (hV : Srv w V X a b) (h : Cn w C true o q) (hVC : V ≠ C) :
    Calls Ybad.prog 33 #[.pointer (some ⟨V, 0, none⟩), .pointer (some ⟨C, 0, none⟩), v] w fun e w' => e = .returned (.bool false) ∧ Srv w' V X a b ∧ Cn w' C true o q ∧ Fr (fun j => j = C) w w' := by
  have HV : Hid (Srv w V X a b) := hV
  have H : Hid (Cn w C true o q) := h
  have lV : V < w.heap.size := World.block_lt_of_cell? _ _ hV.s
  clear hV h
  go_enter Ybad.func33, Ybad.ntmps33
  go_wp2_with fail
  refine (push_closed C o q v w H.out).mono ?_
  rintro e w2 ⟨rfl, hC2, hF2⟩
  have H2 : Hid (Srv w2 V X a b ∧ Cn w2 C true o q ∧ Fr (fun j => j = C) w w2) := ⟨HV.out.block (hF2.block V lV hVC), hC2, hF2⟩
  clear hC2 hF2
  go_wp2
  go_ret
  exact ⟨rfl, H2.out⟩

/-- A session: its conn, its pending frames. -/
structure Se (w : World) (S : Nat) (c : Option Nat) (p : Value) : Prop where
  blk : ∃ c t, w.heap[S]? = some (.cells c t (0, 0))
  c18 : w.cell? ⟨S, 18, none⟩ = some (.pointer (c.map fun C => ⟨C, 0, none⟩))
  c19 : w.cell? ⟨S, 19, none⟩ = some p
theorem Se.block {w w' : World} {S : Nat} {c : Option Nat} {p : Value} (h : Se w S c p) (hb : w'.heap[S]? = w.heap[S]?) : Se w' S c p := by
  obtain ⟨⟨x, t, e⟩, h1, h2⟩ := h
  exact ⟨⟨x, t, hb.trans e⟩, (cellB hb 18).trans h1, (cellB hb 19).trans h2⟩

set_option maxHeartbeats 4000000 in
set_option maxRecDepth 20000 in
theorem send_none (V S lo n : Nat) (p : Value) (fs : List Value) (B len : Nat) (w : World) (h : Se w S none p) (hO : w.ownsRow lo 24 1 p n fs) (hlo : lo ≤ w.heap.size) (hS : S < lo) (hn : n ≤ 8) :
    Calls Ybad.prog 23 #[.pointer (some ⟨V, 0, none⟩), .pointer (some ⟨S, 0, none⟩), .slice (some ⟨B, 0, none⟩) len 64] w fun e w' => e = .returned (.tuple #[]) ∧ ∃ p', Se w' S none p' ∧ w'.ownsRow lo 24 1 p' (n + 1) (fs ++ [.slice (some ⟨B, 0, none⟩) len 64]) ∧ Fr (fun j => j = S ∨ p.ownBlock = some j) w w' := by
  have H : Hid (Se w S none p) := h
  have HO : Hid (w.ownsRow lo 24 1 p n fs) := hO
  have g18 : w.cell? ⟨S, 18, none⟩ = some (.pointer none) := h.c18
  have g19 := h.c19
  obtain ⟨i24, j1, j2, j3, j4⟩ := info24
  have I24 : Hid (Ybad.prog.info? 24 = some i24 ∧ i24.zero = some (.slice none 0 0) ∧ i24.size = 1 ∧ i24.bytes = 24) := ⟨j1, j2, j3, j4⟩
  have lS : S < w.heap.size := World.block_lt_of_cell? _ _ h.c19
  clear h hO j1 j2 j3 j4
  have HW : Hid ((w.alloc (Obj.cells #[.slice (some ⟨B, 0, none⟩) len 64] 24)).ownsRow lo 24 1 p n fs) := own_block HO.out fun g hg hog => Below.heap_alloc _ _ g (HO.out.lt g hog).2
  have HW2 : Hid (∀ j u, ([.slice (some ⟨B, 0, none⟩) len 64] : List Value)[j]? = some u → (w.alloc (Obj.cells #[.slice (some ⟨B, 0, none⟩) len 64] 24)).cell? ((⟨w.heap.size, 0, none⟩ : Addr).add j) = some u) := fun j u hu => by
    rw [add0, alloc_new]
    simpa using hu
  have nO := own_ne HO.out hS
  have HN : Hid (some S ≠ p.ownBlock) := nO
  clear nO
  have hlo' : Hid (lo ≤ (w.alloc (Obj.cells #[.slice (some ⟨B, 0, none⟩) len 64] 24)).heap.size) := by show _ ≤ _; simp; omega
  go_enter Ybad.func23, Ybad.ntmps23
  go_wp2_with (
    (refine wpList_append_own _ rfl _ _ 30 rfl lo 24 i24 (.slice none 0 0) 1 24 Ybad.underlying30 I24.out.1 I24.out.2.1 I24.out.2.2.1 I24.out.2.2.2 rfl (by decide) p n fs rfl HW.out ⟨w.heap.size, 0, none⟩ 1 1 [.slice (some ⟨B, 0, none⟩) len 64] rfl rfl HW2.out (by simp [Value.oneCell']) (by unfold maxLen; omega) (by omega) hlo'.out ?_
     intro v' w3 hO3 hG3 hiff
     obtain ⟨g, cp, hv'⟩ : ∃ g cp, v' = .slice (some ⟨g, 0, none⟩) (n + 1) cp := by
       rcases hO3.2 with ⟨_, q⟩ | ⟨g, cp, _, e, _⟩
       · omega
       · exact ⟨g, cp, e⟩
     subst hv'
     have O3 : Hid (w3.ownsRow lo 24 1 (.slice (some ⟨g, 0, none⟩) (n + 1) cp) (n + 1) (fs ++ [.slice (some ⟨B, 0, none⟩) len 64])) := hO3
     have F3 : Hid (w3.heap[S]? = w.heap[S]?) := (hG3.block S (by simp; omega) HN.out).trans (Below.heap_alloc _ _ S lS)
     have F3' : Hid (Fr (fun j => j = S ∨ p.ownBlock = some j) w w3) := ((Fr.refl _ w).alloc _).grown hG3 (fun k hk => .inl (.inr hk))
     clear hO3 hG3 hiff
     have e19 := (cellB F3.out 19).trans g19
     have S3 : Hid (Se w3 S none p) := H.out.block F3.out
     have e19f := fz S3.out.blk 19))
  refine bodyPost_ret (results_none rfl _ _ _) rfl ?_
  refine ⟨rfl, _, ⟨blk_set S3.out.blk S 19 _, ?_, World.cell?_setCell_same _ _ _ S3.out.c19⟩, own_block O3.out fun g' hg' _ => Below.heap_setCell _ _ _ _ (by show g' ≠ S; omega), F3'.out.setCell _ _ (.inl (.inl rfl))⟩
  rw [World.cell?_setCell_other _ _ _ _ (by intro h; injection h; omega)]
  exact S3.out.c18

set_option maxHeartbeats 4000000 in
set_option maxRecDepth 20000 in
theorem send_open (V X S C lo n : Nat) (a b : Int) (p o : Value) (fs : List Value) (q : Int) (B len : Nat) (w : World) (hs : Se w S (some C) p) (hV : Srv w V X a b) (h : Cn w C false o q) (hO : w.ownsRow lo 24 1 o n fs) (hlo : lo ≤ w.heap.size) (hC : C < lo) (hVl : V < lo) (hVC : V ≠ C) (hn : n ≤ 8) (hq : 0 ≤ q ∧ q ≤ 1000) (hl : len ≤ 64) (ha : 0 ≤ a ∧ a ≤ 1000) (hb : 0 ≤ b ∧ b ≤ 1000) :
    Calls Ybad.prog 23 #[.pointer (some ⟨V, 0, none⟩), .pointer (some ⟨S, 0, none⟩), .slice (some ⟨B, 0, none⟩) len 64] w fun e w' => e = .returned (.tuple #[]) ∧ ∃ o', Srv w' V X (a + 1) (b + 1) ∧ Cn w' C false o' (q + len) ∧ w'.ownsRow lo 24 1 o' (n + 1) (fs ++ [.slice (some ⟨B, 0, none⟩) len 64]) ∧ Fr (fun j => j = V ∨ j = C ∨ o.ownBlock = some j) w w' := by
  have HV : Hid (Srv w V X a b) := hV
  have H : Hid (Cn w C false o q) := h
  have HO : Hid (w.ownsRow lo 24 1 o n fs) := hO
  have g18 : w.cell? ⟨S, 18, none⟩ = some (.pointer (some ⟨C, 0, none⟩)) := hs.c18
  have hw : IntKind.i64.wrap (b + 1) = b + 1 := by rw [IntKind.wrap_i64]; omega
  clear hV h hO hs
  go_enter Ybad.func23, Ybad.ntmps23
  go_wp2_with fail
  refine (spush_open V X C lo n a b o fs q B len w HV.out H.out HO.out hlo hC hVl hVC hn hq hl ha).mono ?_
  rintro e w2 ⟨rfl, o', hS2, hC2, hO2, hF2⟩
  have H2 : Hid (Cn w2 C false o' (q + len) ∧ w2.ownsRow lo 24 1 o' (n + 1) (fs ++ [.slice (some ⟨B, 0, none⟩) len 64]) ∧ Fr (fun j => j = V ∨ j = C ∨ o.ownBlock = some j) w w2) := ⟨hC2, hO2, hF2⟩
  have y := hS2.e
  have yf := fz hS2.blk 14
  have HS : Hid (Srv w2 V X (a + 1) b) := hS2
  clear hS2 hC2 hO2 hF2
  go_wp2
  refine bodyPost_end (results_none rfl _ _ _) rfl ?_
  have bl : ∀ j, j ≠ V → (w2.setCell ⟨V, 14, none⟩ (.int .i64 (b + 1))).heap[j]? = w2.heap[j]? := fun j hj => Below.heap_setCell _ _ _ _ hj
  refine ⟨rfl, o', ⟨blk_set HS.out.blk V 14 _, ?_, ?_, World.cell?_setCell_same _ _ _ HS.out.e⟩, H2.out.1.block (bl C (Ne.symm hVC)), own_block H2.out.2.1 fun g hg _ => bl g (by omega), H2.out.2.2.setCell _ _ (.inl (.inl rfl))⟩
  · rw [World.cell?_setCell_other _ _ _ _ (by intro h; injection h; omega)]; exact HS.out.x
  · rw [World.cell?_setCell_other _ _ _ _ (by intro h; injection h; omega)]; exact HS.out.s

set_option maxHeartbeats 4000000 in
set_option maxRecDepth 20000 in
theorem send_closed (V X S C : Nat) (a b : Int) (p o : Value) (q : Int) (v : Value) (w : World) (hs : Se w S (some C) p) (hV : Srv w V X a b) (h : Cn w C true o q) (hVC : V ≠ C) :
    Calls Ybad.prog 23 #[.pointer (some ⟨V, 0, none⟩), .pointer (some ⟨S, 0, none⟩), v] w fun e w' => e = .returned (.tuple #[]) ∧ Srv w' V X a b ∧ Cn w' C true o q ∧ Fr (fun j => j = C) w w' := by
  have HV : Hid (Srv w V X a b) := hV
  have H : Hid (Cn w C true o q) := h
  have g18 : w.cell? ⟨S, 18, none⟩ = some (.pointer (some ⟨C, 0, none⟩)) := hs.c18
  clear hV h hs
  go_enter Ybad.func23, Ybad.ntmps23
  go_wp2_with fail
  refine (spush_closed V X C a b o q v w HV.out H.out hVC).mono ?_
  rintro e w2 ⟨rfl, hS2, hC2, hF2⟩
  have H2 : Hid (Srv w2 V X a b ∧ Cn w2 C true o q ∧ Fr (fun j => j = C) w w2) := ⟨hS2, hC2, hF2⟩
  clear hS2 hC2 hF2
  go_wp2
  refine bodyPost_end (results_none rfl _ _ _) rfl ?_
  exact ⟨rfl, H2.out⟩
end Go.Proofs.YbulkcrxoDoor.F
