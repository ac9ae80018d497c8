/-
  LawS4681BFire: a frame is sent to a session that may hold frames already: whether the row is the old one or a new one.
-/
import Derived.Test.YbulkcrxoDoorBApp
set_option linter.unusedVariables false
namespace Go.Proofs.YbulkcrxoDoor.F
open Go.RowKit Go.Any Go.MuLone

theorem NewOr.mono {w w1 : World} {v v' : Value} (h : NewOr w1 v v') (hs : w.heap.size ≤ w1.heap.size) : NewOr w v v' := by
  rcases h with h | ⟨g, h1, h2⟩
  · exact .inl h
  · exact .inr ⟨g, h1, Nat.le_trans hs h2⟩

set_option maxHeartbeats 4000000 in
set_option maxRecDepth 20000 in
theorem push_open2 (C lo n : Nat) (o : Value) (fs : List Value) (q : Int) (B len : Nat) (w : World) (h : Cn w C false o q) (hO : w.ownsRow lo 24 1 o n fs) (hlo : lo ≤ w.heap.size) (hC : C < lo) (hn : n ≤ 8) (hq : 0 ≤ q ∧ q ≤ 1000) (hl : len ≤ 64) :
    Calls Ybad.prog 38 #[.pointer (some ⟨C, 0, none⟩), .slice (some ⟨B, 0, none⟩) len 64] w fun e w' => e = .returned (.bool true) ∧ ∃ o', Cn w' C false o' (q + len) ∧ w'.ownsRow lo 24 1 o' (n + 1) (fs ++ [.slice (some ⟨B, 0, none⟩) len 64]) ∧ Fr (fun j => j = C ∨ o.ownBlock = some j) w w' ∧ NewOr w o o' := by
  have H : Hid (Cn w C false o q) := h
  have HO : Hid (w.ownsRow lo 24 1 o n fs) := hO
  have g3 := h.c3
  have g12 := h.c12
  have g13 := h.c13
  have g14 := h.c14
  have f3 := fz h.blk 3
  have f12 := fz h.blk 12
  have f13 := fz h.blk 13
  obtain ⟨i24, j1, j2, j3, j4⟩ := info24
  have I24 : Hid (Ybad.prog.info? 24 = some i24 ∧ i24.zero = some (.slice none 0 0) ∧ i24.size = 1 ∧ i24.bytes = 24) := ⟨j1, j2, j3, j4⟩
  clear h hO j1 j2 j3 j4
  have HW : Hid (((w.setCell ⟨C, 3, none⟩ (.int .i32 1)).alloc (Obj.cells #[.slice (some ⟨B, 0, none⟩) len 64] 24)).ownsRow lo 24 1 o n fs) := own_block HO.out fun g hg hog => (Below.heap_alloc _ _ g (by have := (HO.out.lt g hog).2; simpa using this)).trans (Below.heap_setCell _ _ _ _ (by show g ≠ C; omega))
  have HW2 : Hid (∀ j u, ([.slice (some ⟨B, 0, none⟩) len 64] : List Value)[j]? = some u → ((w.setCell ⟨C, 3, none⟩ (.int .i32 1)).alloc (Obj.cells #[.slice (some ⟨B, 0, none⟩) len 64] 24)).cell? ((⟨w.heap.size, 0, none⟩ : Addr).add j) = some u) := fun j u hu => by
    have e : (w.setCell ⟨C, 3, none⟩ (.int .i32 1)).heap.size = w.heap.size := by simp
    rw [← e, add0, alloc_new]
    simpa using hu
  have nO := own_ne HO.out hC
  have HN : Hid (some C ≠ o.ownBlock) := nO
  clear nO
  have hlo' : Hid (lo ≤ ((w.setCell ⟨C, 3, none⟩ (.int .i32 1)).alloc (Obj.cells #[.slice (some ⟨B, 0, none⟩) len 64] 24)).heap.size) := by show _ ≤ _; simp; omega
  have hwrap : IntKind.i64.wrap (q + len) = q + len := by rw [IntKind.wrap_i64]; omega
  go_enter_defers Ybad.func38, Ybad.ntmps38
  go_wp2_with (first
    | (go_at_call 41; refine (lock_free Ybad.muLib ⟨C, 3, none⟩ _ g3 f3).mono ?_; rintro e w' ⟨rfl, rfl⟩)
    | (refine wpList_append_own2 _ rfl _ _ 30 rfl lo 24 i24 (.slice none 0 0) 1 24 Ybad.underlying30 I24.out.1 I24.out.2.1 I24.out.2.2.1 I24.out.2.2.2 rfl (by decide) o n fs rfl HW.out ⟨w.heap.size, 0, none⟩ 1 1 [.slice (some ⟨B, 0, none⟩) len 64] rfl rfl HW2.out (by simp [Value.oneCell']) (by unfold maxLen; omega) (by omega) hlo'.out ?_
       intro v' w3 hO3 hG3 hiff
       obtain ⟨g, cp, hv'⟩ : ∃ g cp, v' = .slice (some ⟨g, 0, none⟩) (n + 1) cp := by
         rcases hO3.2 with ⟨_, q⟩ | ⟨g, cp, _, e, _⟩
         · omega
         · exact ⟨g, cp, e⟩
       subst hv'
       have O3 : Hid (w3.ownsRow lo 24 1 (.slice (some ⟨g, 0, none⟩) (n + 1) cp) (n + 1) (fs ++ [.slice (some ⟨B, 0, none⟩) len 64])) := hO3
       have F3 : Hid (w3.heap[C]? = ((w.setCell ⟨C, 3, none⟩ (.int .i32 1)).alloc (Obj.cells #[.slice (some ⟨B, 0, none⟩) len 64] 24)).heap[C]?) := hG3.block C (by simp; omega) HN.out
       have F3' : Hid (Fr (fun j => j = C ∨ o.ownBlock = some j) w w3) := (((Fr.refl _ w).setCell ⟨C, 3, none⟩ (.int .i32 1) (.inl (.inl rfl))).alloc _).grown hG3 (fun k hk => .inl (.inr hk))
       have N3 : Hid (NewOr w o (.slice (some ⟨g, 0, none⟩) (n + 1) cp)) := hiff.mono (by simp)
       clear hO3 hG3 hiff
       have e12 : w3.cell? ⟨C, 12, none⟩ = some o := by
         rw [cellB F3.out, World.cell?_alloc_lt _ _ _ (by simp; omega), World.cell?_setCell_other _ _ _ _ (by intro h; injection h; omega)]; exact g12
       have e13 : w3.cell? ⟨C, 13, none⟩ = some (.int .i64 q) := by
         rw [cellB F3.out, World.cell?_alloc_lt _ _ _ (by simp; omega), World.cell?_setCell_other _ _ _ _ (by intro h; injection h; omega)]; exact g13
       have b3 : ∃ c t, w3.heap[C]? = some (.cells c t (0, 0)) := by
         obtain ⟨c, t, e⟩ := blk_set H.out.blk C 3 (.int .i32 1)
         exact ⟨c, t, F3.out.trans ((Below.heap_alloc _ _ C (by simp; omega)).trans e)⟩
       have e12f := fz b3 12
       have e13f := fz b3 13
       have B3 : Hid (∃ c t, w3.heap[C]? = some (.cells c t (0, 0))) := b3
       clear b3))
  have E3 : Hid (∀ j, j ≠ 3 → w3.cell? ⟨C, j, none⟩ = w.cell? ⟨C, j, none⟩) := fun j hj => by
    rw [cellB F3.out, World.cell?_alloc_lt _ _ _ (by simp; omega), World.cell?_setCell_other _ _ _ _ (by intro h; injection h; omega)]
  have E33 : Hid (w3.cell? ⟨C, 3, none⟩ = some (.int .i32 1)) := by
    show _ = _
    rw [cellB F3.out, World.cell?_alloc_lt _ _ _ (by simp; omega)]
    exact World.cell?_setCell_same _ _ _ g3
  have E5 : Hid (∀ j, j ≠ 12 → j ≠ 13 → ((w3.setCell ⟨C, 12, none⟩ (.slice (some ⟨g, 0, none⟩) (n + 1) cp)).setCell ⟨C, 13, none⟩ (.int .i64 (q + len))).cell? ⟨C, j, none⟩ = w3.cell? ⟨C, j, none⟩) := fun j h1 h2 => by
    rw [World.cell?_setCell_other _ _ _ _ (by intro h; injection h; omega), World.cell?_setCell_other _ _ _ _ (by intro h; injection h; omega)]
  have E512 : Hid (((w3.setCell ⟨C, 12, none⟩ (.slice (some ⟨g, 0, none⟩) (n + 1) cp)).setCell ⟨C, 13, none⟩ (.int .i64 (q + len))).cell? ⟨C, 12, none⟩ = some (.slice (some ⟨g, 0, none⟩) (n + 1) cp)) := by
    show _ = _
    rw [World.cell?_setCell_other _ _ _ _ (by intro h; injection h; omega)]
    exact World.cell?_setCell_same _ _ _ e12
  have E513 : Hid (((w3.setCell ⟨C, 12, none⟩ (.slice (some ⟨g, 0, none⟩) (n + 1) cp)).setCell ⟨C, 13, none⟩ (.int .i64 (q + len))).cell? ⟨C, 13, none⟩ = some (.int .i64 (q + len))) := World.cell?_setCell_same _ _ _ ((World.cell?_setCell_other _ _ _ _ (by intro h; injection h; omega)).trans e13)
  have B5 : Hid (∃ c t, ((w3.setCell ⟨C, 12, none⟩ (.slice (some ⟨g, 0, none⟩) (n + 1) cp)).setCell ⟨C, 13, none⟩ (.int .i64 (q + len))).heap[C]? = some (.cells c t (0, 0))) := blk_set (blk_set B3.out C 12 _) C 13 _
  have F5 : Hid (Fr (fun j => j = C ∨ o.ownBlock = some j) w ((w3.setCell ⟨C, 12, none⟩ (.slice (some ⟨g, 0, none⟩) (n + 1) cp)).setCell ⟨C, 13, none⟩ (.int .i64 (q + len)))) := (F3'.out.setCell _ _ (.inl (.inl rfl))).setCell _ _ (.inl (.inl rfl))
  have O5 : Hid (((w3.setCell ⟨C, 12, none⟩ (.slice (some ⟨g, 0, none⟩) (n + 1) cp)).setCell ⟨C, 13, none⟩ (.int .i64 (q + len))).ownsRow lo 24 1 (.slice (some ⟨g, 0, none⟩) (n + 1) cp) (n + 1) (fs ++ [.slice (some ⟨B, 0, none⟩) len 64])) := own_block O3.out fun g' hg' _ => (Below.heap_setCell _ _ _ _ (by show g' ≠ C; omega)).trans (Below.heap_setCell _ _ _ _ (by show g' ≠ C; omega))
  generalize (w3.setCell ⟨C, 12, none⟩ (.slice (some ⟨g, 0, none⟩) (n + 1) cp)).setCell ⟨C, 13, none⟩ (.int .i64 (q + len)) = w5 at E5 E512 E513 B5 F5 O5 ⊢
  clear e12 e13 e12f e13f
  refine (broadcast C w5 (by rw [E5.out 6 (by omega) (by omega), E3.out 6 (by omega)]; exact H.out.c6) (by rw [E5.out 7 (by omega) (by omega), E3.out 7 (by omega)]; exact H.out.c7) (by rw [E5.out 11 (by omega) (by omega), E3.out 11 (by omega)]; exact H.out.ck) (fz B5.out 11)).mono ?_
  rintro e w6 ⟨rfl, h6⟩
  have P6 : Hid ((∀ j, j ≠ 11 → w6.cell? ⟨C, j, none⟩ = w5.cell? ⟨C, j, none⟩) ∧ w6.cell? ⟨C, 11, none⟩ = some (.pointer (some ⟨C, 11, none⟩)) ∧ (∃ c t, w6.heap[C]? = some (.cells c t (0, 0))) ∧ Fr (fun j => j = C ∨ o.ownBlock = some j) w w6 ∧ w6.ownsRow lo 24 1 (.slice (some ⟨g, 0, none⟩) (n + 1) cp) (n + 1) (fs ++ [.slice (some ⟨B, 0, none⟩) len 64])) := by
    rcases h6 with rfl | ⟨rfl, h11⟩
    · refine ⟨fun j hj => World.cell?_setCell_other _ _ _ _ (by intro h; injection h; omega), ?_, blk_set B5.out C 11 _, F5.out.setCell _ _ (.inl (.inl rfl)), own_block O5.out fun g' hg' _ => Below.heap_setCell _ _ _ _ (by show g' ≠ C; omega)⟩
      have : ∃ x, w5.cell? ⟨C, 11, none⟩ = some x := by
        rw [E5.out 11 (by omega) (by omega), E3.out 11 (by omega)]
        rcases H.out.ck with q | q <;> exact ⟨_, q⟩
      obtain ⟨x, hx⟩ := this
      exact World.cell?_setCell_same _ _ _ hx
    · exact ⟨fun _ _ => rfl, h11, B5.out, F5.out, O5.out⟩
  clear h6
  have m3 : w6.cell? ⟨C, 3, none⟩ = some (.int .i32 1) := by rw [P6.out.1 3 (by omega), E5.out 3 (by omega) (by omega)]; exact E33.out
  have z3 := fz P6.out.2.2.1 3
  go_wp2
  refine leaves_cons (f := 42) (args := #[.pointer (some ⟨C, 3, none⟩)]) (by simp) (by simp [go_sem]) ?_
  refine (unlock_deferred Ybad.muLib ⟨C, 3, none⟩ .returning _ m3 z3).mono ?_
  rintro e u' w7 ⟨rfl, rfl, rfl⟩
  refine ⟨_, results_tmp rfl _ _ _, rfl, _, ⟨blk_set P6.out.2.2.1 C 3 _, World.cell?_setCell_same _ _ _ m3, ?_, ?_, ?_, ?_, ?_, ?_⟩, own_block P6.out.2.2.2.2 fun g' hg' _ => Below.heap_setCell _ _ _ _ (by show g' ≠ C; omega), P6.out.2.2.2.1.setCell _ _ (.inl (.inl rfl)), N3.out⟩
  · rw [World.cell?_setCell_other _ _ _ _ (by intro h; injection h; omega), P6.out.1 6 (by omega), E5.out 6 (by omega) (by omega), E3.out 6 (by omega)]; exact H.out.c6
  · rw [World.cell?_setCell_other _ _ _ _ (by intro h; injection h; omega), P6.out.1 7 (by omega), E5.out 7 (by omega) (by omega), E3.out 7 (by omega)]; exact H.out.c7
  · rw [World.cell?_setCell_other _ _ _ _ (by intro h; injection h; omega)]; exact .inr P6.out.2.1
  · rw [World.cell?_setCell_other _ _ _ _ (by intro h; injection h; omega), P6.out.1 12 (by omega)]; exact E512.out
  · rw [World.cell?_setCell_other _ _ _ _ (by intro h; injection h; omega), P6.out.1 13 (by omega)]; exact E513.out
  · rw [World.cell?_setCell_other _ _ _ _ (by intro h; injection h; omega), P6.out.1 14 (by omega), E5.out 14 (by omega) (by omega), E3.out 14 (by omega)]; exact H.out.c14

set_option maxHeartbeats 4000000 in
set_option maxRecDepth 20000 in
theorem spush_open2 (V X C lo n : Nat) (a b : Int) (o : Value) (fs : List Value) (q : Int) (B len : Nat) (w : World) (hV : Srv w V X a b) (h : Cn w C false o q) (hO : w.ownsRow lo 24 1 o n fs) (hlo : lo ≤ w.heap.size) (hC : C < lo) (hVl : V < lo) (hVC : V ≠ C) (hn : n ≤ 8) (hq : 0 ≤ q ∧ q ≤ 1000) (hl : len ≤ 64) (ha : 0 ≤ a ∧ a ≤ 1000) :
    Calls Ybad.prog 33 #[.pointer (some ⟨V, 0, none⟩), .pointer (some ⟨C, 0, none⟩), .slice (some ⟨B, 0, none⟩) len 64] w fun e w' => e = .returned (.bool true) ∧ ∃ o', Srv w' V X (a + 1) b ∧ Cn w' C false o' (q + len) ∧ w'.ownsRow lo 24 1 o' (n + 1) (fs ++ [.slice (some ⟨B, 0, none⟩) len 64]) ∧ Fr (fun j => j = V ∨ j = C ∨ o.ownBlock = some j) w w' ∧ NewOr w o o' := by
  have HV : Hid (Srv w V X a b) := hV
  have H : Hid (Cn w C false o q) := h
  have HO : Hid (w.ownsRow lo 24 1 o n fs) := hO
  have lV : V < w.heap.size := World.block_lt_of_cell? _ _ hV.s
  have hw : IntKind.i64.wrap (a + 1) = a + 1 := by rw [IntKind.wrap_i64]; omega
  clear hV h hO
  go_enter Ybad.func33, Ybad.ntmps33
  go_wp2_with fail
  refine (push_open2 C lo n o fs q B len w H.out HO.out hlo hC hn hq hl).mono ?_
  rintro e w2 ⟨rfl, o', hC2, hO2, hF2, hN2⟩
  have H2 : Hid (Cn w2 C false o' (q + len) ∧ w2.ownsRow lo 24 1 o' (n + 1) (fs ++ [.slice (some ⟨B, 0, none⟩) len 64]) ∧ Fr (fun j => j = C ∨ o.ownBlock = some j) w w2) := ⟨hC2, hO2, hF2⟩
  have sv := HV.out.block (hF2.block V lV (fun q => by
    rcases q with q | q
    · exact hVC q
    · exact own_ne HO.out hVl q.symm))
  have y := sv.s
  have yf := fz sv.blk 13
  have HN2 : Hid (NewOr w o o') := hN2
  have HS : Hid (Srv w2 V X a b) := sv
  clear sv hC2 hO2 hF2 hN2
  go_wp2
  go_ret
  have bl : ∀ j, j ≠ V → (w2.setCell ⟨V, 13, none⟩ (.int .i64 (a + 1))).heap[j]? = w2.heap[j]? := fun j hj => Below.heap_setCell _ _ _ _ hj
  refine ⟨rfl, o', ⟨blk_set HS.out.blk V 13 _, ?_, World.cell?_setCell_same _ _ _ HS.out.s, ?_⟩, H2.out.1.block (bl C (Ne.symm hVC)), own_block H2.out.2.1 fun g hg _ => bl g (by omega), (H2.out.2.2.mono fun j hj => .inr hj).setCell _ _ (.inl (.inl rfl)), HN2.out⟩
  · rw [World.cell?_setCell_other _ _ _ _ (by intro h; injection h; omega)]; exact HS.out.x
  · rw [World.cell?_setCell_other _ _ _ _ (by intro h; injection h; omega)]; exact HS.out.e


set_option maxHeartbeats 4000000 in
set_option maxRecDepth 20000 in
theorem send_none2 (V S lo n : Nat) (p : Value) (fs : List Value) (B len : Nat) (w : World) (h : Se w S none p) (hO : w.ownsRow lo 24 1 p n fs) (hlo : lo ≤ w.heap.size) (hS : S < lo) (hn : n ≤ 8) :
    Calls Ybad.prog 23 #[.pointer (some ⟨V, 0, none⟩), .pointer (some ⟨S, 0, none⟩), .slice (some ⟨B, 0, none⟩) len 64] w fun e w' => e = .returned (.tuple #[]) ∧ ∃ p', Se w' S none p' ∧ w'.ownsRow lo 24 1 p' (n + 1) (fs ++ [.slice (some ⟨B, 0, none⟩) len 64]) ∧ Fr (fun j => j = S ∨ p.ownBlock = some j) w w' ∧ NewOr w p p' := by
  have H : Hid (Se w S none p) := h
  have HO : Hid (w.ownsRow lo 24 1 p n fs) := hO
  have g18 : w.cell? ⟨S, 18, none⟩ = some (.pointer none) := h.c18
  have g19 := h.c19
  obtain ⟨i24, j1, j2, j3, j4⟩ := info24
  have I24 : Hid (Ybad.prog.info? 24 = some i24 ∧ i24.zero = some (.slice none 0 0) ∧ i24.size = 1 ∧ i24.bytes = 24) := ⟨j1, j2, j3, j4⟩
  have lS : S < w.heap.size := World.block_lt_of_cell? _ _ h.c19
  clear h hO j1 j2 j3 j4
  have HW : Hid ((w.alloc (Obj.cells #[.slice (some ⟨B, 0, none⟩) len 64] 24)).ownsRow lo 24 1 p n fs) := own_block HO.out fun g hg hog => Below.heap_alloc _ _ g (HO.out.lt g hog).2
  have HW2 : Hid (∀ j u, ([.slice (some ⟨B, 0, none⟩) len 64] : List Value)[j]? = some u → (w.alloc (Obj.cells #[.slice (some ⟨B, 0, none⟩) len 64] 24)).cell? ((⟨w.heap.size, 0, none⟩ : Addr).add j) = some u) := fun j u hu => by
    rw [add0, alloc_new]
    simpa using hu
  have nO := own_ne HO.out hS
  have HN : Hid (some S ≠ p.ownBlock) := nO
  clear nO
  have hlo' : Hid (lo ≤ (w.alloc (Obj.cells #[.slice (some ⟨B, 0, none⟩) len 64] 24)).heap.size) := by show _ ≤ _; simp; omega
  go_enter Ybad.func23, Ybad.ntmps23
  go_wp2_with (
    (refine wpList_append_own2 _ rfl _ _ 30 rfl lo 24 i24 (.slice none 0 0) 1 24 Ybad.underlying30 I24.out.1 I24.out.2.1 I24.out.2.2.1 I24.out.2.2.2 rfl (by decide) p n fs rfl HW.out ⟨w.heap.size, 0, none⟩ 1 1 [.slice (some ⟨B, 0, none⟩) len 64] rfl rfl HW2.out (by simp [Value.oneCell']) (by unfold maxLen; omega) (by omega) hlo'.out ?_
     intro v' w3 hO3 hG3 hiff
     obtain ⟨g, cp, hv'⟩ : ∃ g cp, v' = .slice (some ⟨g, 0, none⟩) (n + 1) cp := by
       rcases hO3.2 with ⟨_, q⟩ | ⟨g, cp, _, e, _⟩
       · omega
       · exact ⟨g, cp, e⟩
     subst hv'
     have O3 : Hid (w3.ownsRow lo 24 1 (.slice (some ⟨g, 0, none⟩) (n + 1) cp) (n + 1) (fs ++ [.slice (some ⟨B, 0, none⟩) len 64])) := hO3
     have F3 : Hid (w3.heap[S]? = w.heap[S]?) := (hG3.block S (by simp; omega) HN.out).trans (Below.heap_alloc _ _ S lS)
     have F3' : Hid (Fr (fun j => j = S ∨ p.ownBlock = some j) w w3) := ((Fr.refl _ w).alloc _).grown hG3 (fun k hk => .inl (.inr hk))
     have N3 : Hid (NewOr w p (.slice (some ⟨g, 0, none⟩) (n + 1) cp)) := hiff.mono (by simp)
     clear hO3 hG3 hiff
     have e19 := (cellB F3.out 19).trans g19
     have S3 : Hid (Se w3 S none p) := H.out.block F3.out
     have e19f := fz S3.out.blk 19))
  refine bodyPost_ret (results_none rfl _ _ _) rfl ?_
  refine ⟨rfl, _, ⟨blk_set S3.out.blk S 19 _, ?_, World.cell?_setCell_same _ _ _ S3.out.c19⟩, own_block O3.out fun g' hg' _ => Below.heap_setCell _ _ _ _ (by show g' ≠ S; omega), F3'.out.setCell _ _ (.inl (.inl rfl)), N3.out⟩
  rw [World.cell?_setCell_other _ _ _ _ (by intro h; injection h; omega)]
  exact S3.out.c18


set_option maxHeartbeats 4000000 in
set_option maxRecDepth 20000 in
theorem send_open2 (V X S C lo n : Nat) (a b : Int) (p o : Value) (fs : List Value) (q : Int) (B len : Nat) (w : World) (hs : Se w S (some C) p) (hV : Srv w V X a b) (h : Cn w C false o q) (hO : w.ownsRow lo 24 1 o n fs) (hlo : lo ≤ w.heap.size) (hC : C < lo) (hVl : V < lo) (hVC : V ≠ C) (hn : n ≤ 8) (hq : 0 ≤ q ∧ q ≤ 1000) (hl : len ≤ 64) (ha : 0 ≤ a ∧ a ≤ 1000) (hb : 0 ≤ b ∧ b ≤ 1000) :
    Calls Ybad.prog 23 #[.pointer (some ⟨V, 0, none⟩), .pointer (some ⟨S, 0, none⟩), .slice (some ⟨B, 0, none⟩) len 64] w fun e w' => e = .returned (.tuple #[]) ∧ ∃ o', Srv w' V X (a + 1) (b + 1) ∧ Cn w' C false o' (q + len) ∧ w'.ownsRow lo 24 1 o' (n + 1) (fs ++ [.slice (some ⟨B, 0, none⟩) len 64]) ∧ Fr (fun j => j = V ∨ j = C ∨ o.ownBlock = some j) w w' ∧ NewOr w o o' := by
  have HV : Hid (Srv w V X a b) := hV
  have H : Hid (Cn w C false o q) := h
  have HO : Hid (w.ownsRow lo 24 1 o n fs) := hO
  have g18 : w.cell? ⟨S, 18, none⟩ = some (.pointer (some ⟨C, 0, none⟩)) := hs.c18
  have hw : IntKind.i64.wrap (b + 1) = b + 1 := by rw [IntKind.wrap_i64]; omega
  clear hV h hO hs
  go_enter Ybad.func23, Ybad.ntmps23
  go_wp2_with fail
  refine (spush_open2 V X C lo n a b o fs q B len w HV.out H.out HO.out hlo hC hVl hVC hn hq hl ha).mono ?_
  rintro e w2 ⟨rfl, o', hS2, hC2, hO2, hF2, hN2⟩
  have H2 : Hid (Cn w2 C false o' (q + len) ∧ w2.ownsRow lo 24 1 o' (n + 1) (fs ++ [.slice (some ⟨B, 0, none⟩) len 64]) ∧ Fr (fun j => j = V ∨ j = C ∨ o.ownBlock = some j) w w2) := ⟨hC2, hO2, hF2⟩
  have y := hS2.e
  have yf := fz hS2.blk 14
  have HS : Hid (Srv w2 V X (a + 1) b) := hS2
  have HN2 : Hid (NewOr w o o') := hN2
  clear hS2 hC2 hO2 hF2 hN2
  go_wp2
  refine bodyPost_end (results_none rfl _ _ _) rfl ?_
  have bl : ∀ j, j ≠ V → (w2.setCell ⟨V, 14, none⟩ (.int .i64 (b + 1))).heap[j]? = w2.heap[j]? := fun j hj => Below.heap_setCell _ _ _ _ hj
  refine ⟨rfl, o', ⟨blk_set HS.out.blk V 14 _, ?_, ?_, World.cell?_setCell_same _ _ _ HS.out.e⟩, H2.out.1.block (bl C (Ne.symm hVC)), own_block H2.out.2.1 fun g hg _ => bl g (by omega), H2.out.2.2.setCell _ _ (.inl (.inl rfl)), HN2.out⟩
  · rw [World.cell?_setCell_other _ _ _ _ (by intro h; injection h; omega)]; exact HS.out.x
  · rw [World.cell?_setCell_other _ _ _ _ (by intro h; injection h; omega)]; exact HS.out.s

end Go.Proofs.YbulkcrxoDoor.F
