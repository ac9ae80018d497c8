/-
  LawS4681AFires, LawS4681BFire: a frame is sent to a session: 'conn.push', 'Server.push', 'Server.send' by contracts.
-/
import Derived.Test.YbulkcrxoDoorFFrm
import Derived.Test.YbulkcrxoDoorFTake
import Derived.Conc.MuLone
import Derived.Laws.AppendOwnNone
set_option linter.unusedVariables false
namespace Go.Proofs
abbrev Ybad.muLink : Go.Conc.Locks.MuLink := { lock := 41, unlock := 42, ilock := 44, iunlock := 45, lockSlow := 52, unlockSlow := 55, disable := 48, enable := 50, acquire := 51, relMerge := 53, cas32 := 49, add32 := 54, tMutex := 42, tIMutex := 40, tPMutex := 163, tPIMutex := 167, tPI32 := 169, tUP := 45, tNoCopy := 37, tU32 := 38 }
theorem Ybad.muLib : Go.Conc.Locks.MuLib Ybad.prog Ybad.muLink :=
  ⟨Ybad.func41, Ybad.func42, Ybad.func44, Ybad.func45, Ybad.func48, Ybad.func50, Ybad.func51, Ybad.func53, Ybad.func49, Ybad.func54, Ybad.underlying40, Ybad.runUnderlying40, Ybad.sizeOf40, Ybad.isAgg40, Ybad.zeroValue40, Ybad.underlying42, Ybad.runUnderlying42, Ybad.sizeOf42, Ybad.isAgg42, Ybad.zeroValue42, Ybad.underlying163, Ybad.runUnderlying163, Ybad.sizeOf163, Ybad.isAgg163, Ybad.zeroValue163, Ybad.underlying167, Ybad.runUnderlying167, Ybad.sizeOf167, Ybad.isAgg167, Ybad.zeroValue167, Ybad.underlying169, Ybad.runUnderlying169, Ybad.sizeOf169, Ybad.isAgg169, Ybad.zeroValue169, Ybad.underlying45, Ybad.runUnderlying45, Ybad.sizeOf45, Ybad.isAgg45, Ybad.zeroValue45, Ybad.underlying37, Ybad.runUnderlying37, Ybad.sizeOf37, Ybad.isAgg37, Ybad.zeroValue37, Ybad.underlying21, Ybad.runUnderlying21, Ybad.sizeOf21, Ybad.isAgg21, Ybad.zeroValue21, (by kernel_rfl)⟩
namespace YbulkcrxoDoor.F
open Go.RowKit Go.Any Go.MuLone

/-- A conn: whether it is closing, its queue, the bytes in it. -/
structure Cn (w : World) (C : Nat) (cl : Bool) (o : Value) (q : Int) : Prop where
  blk : ∃ c t, w.heap[C]? = some (.cells c t (0, 0))
  c3 : w.cell? ⟨C, 3, none⟩ = some (.int .i32 0)
  c6 : w.cell? ⟨C, 6, none⟩ = some (.int .u32 0)
  c7 : w.cell? ⟨C, 7, none⟩ = some (.int .u32 0)
  ck : w.cell? ⟨C, 11, none⟩ = some (.int .u64 0) ∨ w.cell? ⟨C, 11, none⟩ = some (.pointer (some ⟨C, 11, none⟩))
  c12 : w.cell? ⟨C, 12, none⟩ = some o
  c13 : w.cell? ⟨C, 13, none⟩ = some (.int .i64 q)
  c14 : w.cell? ⟨C, 14, none⟩ = some (.bool cl)

theorem check_one (r : Value) (F : Value → Sem Value) (G : Array Value → Sem Value) : Extern.SyncCond.check.match_3 (fun _ => Sem Value) #[r] F G = F r := rfl
theorem check0 (C : Nat) (w : World) (h11 : w.cell? ⟨C, 11, none⟩ = some (.int .u64 0)) (f : w.frozen? ⟨C, 11, none⟩ = false) :
    (callFunc 46 #[.pointer (some ⟨C, 11, none⟩)]).run Ybad.prog w = .ok (.value (.tuple #[])) (w.setCell ⟨C, 11, none⟩ (.pointer (some ⟨C, 11, none⟩))) := by
  rw [run_callFunc_extern (P := Ybad.prog) Ybad.func46 (by kernel_rfl) (by kernel_rfl) (by kernel_rfl) (he := (by kernel_rfl : Extern.find _ = some Extern.SyncCond.check))]
  delta Extern.SyncCond.check
  dsimp only
  rw [check_one]
  simp [asAddr, Extern.SyncCond.isSelf, Extern.SyncCond.none_, go_sem, h11, f]
theorem check1 (C : Nat) (w : World) (h11 : w.cell? ⟨C, 11, none⟩ = some (.pointer (some ⟨C, 11, none⟩))) :
    (callFunc 46 #[.pointer (some ⟨C, 11, none⟩)]).run Ybad.prog w = .ok (.value (.tuple #[])) w := by
  rw [run_callFunc_extern (P := Ybad.prog) Ybad.func46 (by kernel_rfl) (by kernel_rfl) (by kernel_rfl) (he := (by kernel_rfl : Extern.find _ = some Extern.SyncCond.check))]
  delta Extern.SyncCond.check
  dsimp only
  rw [check_one]
  simp [asAddr, Extern.SyncCond.isSelf, Extern.SyncCond.none_, go_sem, h11]
theorem notify0 (C : Nat) (w : World) (h6 : w.cell? ⟨C, 6, none⟩ = some (.int .u32 0)) (h7 : w.cell? ⟨C, 7, none⟩ = some (.int .u32 0)) :
    (callFunc 47 #[.pointer (some ⟨C, 6, none⟩)]).run Ybad.prog w = .ok (.value (.tuple #[])) w := by
  rw [run_callFunc_extern (P := Ybad.prog) Ybad.func47 (by kernel_rfl) (by kernel_rfl) (by kernel_rfl) (he := (by kernel_rfl : Extern.find _ = some Extern.SyncCond.notifyAll))]
  have e : IntKind.u32.wrap 0 = 0 := by decide
  simp [e, Extern.SyncCond.notifyAll, Extern.SyncCond.list, Extern.SyncCond.counter, Extern.SyncCond.none_, go_sem, h6, h7]

/-- Of the old blocks none outside S has turned. -/
structure Fr (S : Nat → Prop) (w w' : World) : Prop where
  os : w'.os = w.os
  tape : w'.tape = w.tape
  output : w'.output = w.output
  size : w.heap.size ≤ w'.heap.size
  block : ∀ j, j < w.heap.size → ¬ S j → w'.heap[j]? = w.heap[j]?
theorem Fr.refl (S : Nat → Prop) (w : World) : Fr S w w := ⟨rfl, rfl, rfl, Nat.le_refl _, fun _ _ _ => rfl⟩
theorem Fr.trans {S : Nat → Prop} {a b c : World} (h : Fr S a b) (k : Fr S b c) : Fr S a c := ⟨k.os.trans h.os, k.tape.trans h.tape, k.output.trans h.output, Nat.le_trans h.size k.size, fun j h1 h2 => (k.block j (Nat.lt_of_lt_of_le h1 h.size) h2).trans (h.block j h1 h2)⟩
theorem Fr.mono {S S' : Nat → Prop} {a b : World} (h : Fr S a b) (k : ∀ j, S j → S' j) : Fr S' a b := ⟨h.os, h.tape, h.output, h.size, fun j h1 h2 => h.block j h1 fun q => h2 (k j q)⟩
theorem Fr.of_below {S : Nat → Prop} {a b : World} (h : Below a.heap.size a b) : Fr S a b := ⟨h.os, h.tape, h.output, h.size, fun j h1 _ => h.block j h1⟩
theorem Fr.setCell {S : Nat → Prop} {a b : World} (h : Fr S a b) (p : Addr) (v : Value) (hp : S p.block ∨ a.heap.size ≤ p.block) : Fr S a (b.setCell p v) :=
  ⟨h.os, h.tape, h.output, by simpa using h.size, fun j h1 h2 => (Below.heap_setCell _ _ _ _ (by
    rintro rfl
    rcases hp with hp | hp
    · exact h2 hp
    · omega)).trans (h.block j h1 h2)⟩
theorem Fr.alloc {S : Nat → Prop} {a b : World} (h : Fr S a b) (o : Obj) : Fr S a (b.alloc o) := h.trans (Fr.of_below ((Below.refl _ _).alloc (Nat.le_refl _) _))
theorem Fr.grown {S : Nat → Prop} {a b c : World} {row : Option Nat} (h : Fr S a b) (hg : b.grownBy c row) (hr : ∀ k, row = some k → S k ∨ a.heap.size ≤ k) : Fr S a c :=
  ⟨hg.os.trans h.os, hg.tape.trans h.tape, hg.output.trans h.output, Nat.le_trans h.size hg.size, fun j h1 h2 => (hg.block j (Nat.lt_of_lt_of_le h1 h.size) (fun e => by
    rcases hr j e.symm with q | q
    · exact h2 q
    · omega)).trans (h.block j h1 h2)⟩

theorem fz {w : World} {C : Nat} (h : ∃ c t, w.heap[C]? = some (.cells c t (0, 0))) (j : Nat) : w.frozen? ⟨C, j, none⟩ = false := by
  obtain ⟨c, t, e⟩ := h
  simp [World.frozen?, e]
theorem Cn.block {w w' : World} {C : Nat} {cl : Bool} {o : Value} {q : Int} (h : Cn w C cl o q) (hb : w'.heap[C]? = w.heap[C]?) : Cn w' C cl o q := by
  obtain ⟨⟨c, t, e⟩, h3, h6, h7, hk, h12, h13, h14⟩ := h
  exact ⟨⟨c, t, hb.trans e⟩, (cellB hb 3).trans h3, (cellB hb 6).trans h6, (cellB hb 7).trans h7, by rw [cellB hb 11]; exact hk, (cellB hb 12).trans h12, (cellB hb 13).trans h13, (cellB hb 14).trans h14⟩
theorem blk_set {w : World} {C : Nat} (h : ∃ c t, w.heap[C]? = some (.cells c t (0, 0))) (D i : Nat) (v : Value) : ∃ c t, (w.setCell ⟨D, i, none⟩ v).heap[C]? = some (.cells c t (0, 0)) := by
  obtain ⟨c, t, e⟩ := h
  by_cases hp : D = C
  · subst hp
    exact ⟨_, t, heap_setCell_same w D i c t v e⟩
  · exact ⟨c, t, (Below.heap_setCell _ _ _ _ (Ne.symm hp)).trans e⟩

theorem info24 : ∃ i, Ybad.prog.info? 24 = some i ∧ i.zero = some (.slice none 0 0) ∧ i.size = 1 ∧ i.bytes = 24 := by
  have h : (Ybad.prog.info? 24).map (fun i => (i.zero, i.size, i.bytes)) = some (some (.slice none 0 0), 1, 24) := by kernel_rfl
  cases hi : Ybad.prog.info? 24 with
  | none => simp [hi] at h
  | some i => simp [hi] at h; exact ⟨i, rfl, h.1, h.2.1, h.2.2⟩

theorem own_ne {w : World} {lo e sz n : Nat} {v : Value} {xs : List Value} (h : w.ownsRow lo e sz v n xs) {C : Nat} (hC : C < lo) : some C ≠ v.ownBlock := fun q => by
  have := (h.lt C q.symm).1
  omega

theorem own_block {w w' : World} {lo e sz n : Nat} {v : Value} {xs : List Value} (h : w.ownsRow lo e sz v n xs) (hb : ∀ g, lo ≤ g → v.ownBlock = some g → w'.heap[g]? = w.heap[g]?) : w'.ownsRow lo e sz v n xs := by
  obtain ⟨h1, h2⟩ := h
  refine ⟨h1, ?_⟩
  rcases h2 with h2 | ⟨g, cap, cur, rfl, hg, h3, h4⟩
  · exact .inl h2
  · exact .inr ⟨g, cap, cur, rfl, hg, (hb g hg rfl).trans h3, h4⟩

set_option maxHeartbeats 2000000 in
set_option maxRecDepth 20000 in
theorem broadcast (C : Nat) (w : World) (h6 : w.cell? ⟨C, 6, none⟩ = some (.int .u32 0)) (h7 : w.cell? ⟨C, 7, none⟩ = some (.int .u32 0)) (h11 : w.cell? ⟨C, 11, none⟩ = some (.int .u64 0) ∨ w.cell? ⟨C, 11, none⟩ = some (.pointer (some ⟨C, 11, none⟩))) (f : w.frozen? ⟨C, 11, none⟩ = false) :
    Calls Ybad.prog 43 #[.pointer (some ⟨C, 5, none⟩)] w fun e w' => e = .returned (.tuple #[]) ∧ (w' = w.setCell ⟨C, 11, none⟩ (.pointer (some ⟨C, 11, none⟩)) ∨ w' = w ∧ w.cell? ⟨C, 11, none⟩ = some (.pointer (some ⟨C, 11, none⟩))) := by
  rcases h11 with h11 | h11
  · have k := check0 C w h11 f
    have nt := notify0 C (w.setCell ⟨C, 11, none⟩ (.pointer (some ⟨C, 11, none⟩))) ((World.cell?_setCell_other _ _ _ _ (by intro h; injection h; omega)).trans h6) ((World.cell?_setCell_other _ _ _ _ (by intro h; injection h; omega)).trans h7)
    go_enter Ybad.func43, Ybad.ntmps43
    go_wp2
    refine bodyPost_end (results_none rfl _ _ _) rfl ?_
    exact ⟨rfl, .inl rfl⟩
  · have k := check1 C w h11
    have nt := notify0 C w h6 h7
    have H11 : Hid (w.cell? ⟨C, 11, none⟩ = some (.pointer (some ⟨C, 11, none⟩))) := h11
    go_enter Ybad.func43, Ybad.ntmps43
    go_wp2
    refine bodyPost_end (results_none rfl _ _ _) rfl ?_
    exact ⟨rfl, .inr ⟨rfl, H11.out⟩⟩

set_option maxHeartbeats 4000000 in
set_option maxRecDepth 20000 in
theorem push_open (C lo n : Nat) (o : Value) (fs : List Value) (q : Int) (B len : Nat) (w : World) (h : Cn w C false o q) (hO : w.ownsRow lo 24 1 o n fs) (hlo : lo ≤ w.heap.size) (hC : C < lo) (hn : n ≤ 8) (hq : 0 ≤ q ∧ q ≤ 1000) (hl : len ≤ 64) :
    Calls Ybad.prog 38 #[.pointer (some ⟨C, 0, none⟩), .slice (some ⟨B, 0, none⟩) len 64] w fun e w' => e = .returned (.bool true) ∧ ∃ o', Cn w' C false o' (q + len) ∧ w'.ownsRow lo 24 1 o' (n + 1) (fs ++ [.slice (some ⟨B, 0, none⟩) len 64]) ∧ Fr (fun j => j = C ∨ o.ownBlock = some j) w w' := by
  have H : Hid (Cn w C false o q) := h
  have HO : Hid (w.ownsRow lo 24 1 o n fs) := hO
  have g3 := h.c3
  have g12 := h.c12
  have g13 := h.c13
  have g14 := h.c14
  have f3 := fz h.blk 3
  have f12 := fz h.blk 12
  have f13 := fz h.blk 13
  obtain ⟨i24, j1, j2, j3, j4⟩ := info24
  have I24 : Hid (Ybad.prog.info? 24 = some i24 ∧ i24.zero = some (.slice none 0 0) ∧ i24.size = 1 ∧ i24.bytes = 24) := ⟨j1, j2, j3, j4⟩
  clear h hO j1 j2 j3 j4
  have HW : Hid (((w.setCell ⟨C, 3, none⟩ (.int .i32 1)).alloc (Obj.cells #[.slice (some ⟨B, 0, none⟩) len 64] 24)).ownsRow lo 24 1 o n fs) := own_block HO.out fun g hg hog => (Below.heap_alloc _ _ g (by have := (HO.out.lt g hog).2; simpa using this)).trans (Below.heap_setCell _ _ _ _ (by show g ≠ C; omega))
  have HW2 : Hid (∀ j u, ([.slice (some ⟨B, 0, none⟩) len 64] : List Value)[j]? = some u → ((w.setCell ⟨C, 3, none⟩ (.int .i32 1)).alloc (Obj.cells #[.slice (some ⟨B, 0, none⟩) len 64] 24)).cell? ((⟨w.heap.size, 0, none⟩ : Addr).add j) = some u) := fun j u hu => by
    have e : (w.setCell ⟨C, 3, none⟩ (.int .i32 1)).heap.size = w.heap.size := by simp
    rw [← e, add0, alloc_new]
    simpa using hu
  have nO := own_ne HO.out hC
  have HN : Hid (some C ≠ o.ownBlock) := nO
  clear nO
  have hlo' : Hid (lo ≤ ((w.setCell ⟨C, 3, none⟩ (.int .i32 1)).alloc (Obj.cells #[.slice (some ⟨B, 0, none⟩) len 64] 24)).heap.size) := by show _ ≤ _; simp; omega
  have hwrap : IntKind.i64.wrap (q + len) = q + len := by rw [IntKind.wrap_i64]; omega
  go_enter_defers Ybad.func38, Ybad.ntmps38
  go_wp2_with (first
    | (go_at_call 41; refine (lock_free Ybad.muLib ⟨C, 3, none⟩ _ g3 f3).mono ?_; rintro e w' ⟨rfl, rfl⟩)
    | (refine wpList_append_own _ rfl _ _ 30 rfl lo 24 i24 (.slice none 0 0) 1 24 Ybad.underlying30 I24.out.1 I24.out.2.1 I24.out.2.2.1 I24.out.2.2.2 rfl (by decide) o n fs rfl HW.out ⟨w.heap.size, 0, none⟩ 1 1 [.slice (some ⟨B, 0, none⟩) len 64] rfl rfl HW2.out (by simp [Value.oneCell']) (by unfold maxLen; omega) (by omega) hlo'.out ?_
       intro v' w3 hO3 hG3 hiff
       obtain ⟨g, cp, hv'⟩ : ∃ g cp, v' = .slice (some ⟨g, 0, none⟩) (n + 1) cp := by
         rcases hO3.2 with ⟨_, q⟩ | ⟨g, cp, _, e, _⟩
         · omega
         · exact ⟨g, cp, e⟩
       subst hv'
       have O3 : Hid (w3.ownsRow lo 24 1 (.slice (some ⟨g, 0, none⟩) (n + 1) cp) (n + 1) (fs ++ [.slice (some ⟨B, 0, none⟩) len 64])) := hO3
       have F3 : Hid (w3.heap[C]? = ((w.setCell ⟨C, 3, none⟩ (.int .i32 1)).alloc (Obj.cells #[.slice (some ⟨B, 0, none⟩) len 64] 24)).heap[C]?) := hG3.block C (by simp; omega) HN.out
       have F3' : Hid (Fr (fun j => j = C ∨ o.ownBlock = some j) w w3) := (((Fr.refl _ w).setCell ⟨C, 3, none⟩ (.int .i32 1) (.inl (.inl rfl))).alloc _).grown hG3 (fun k hk => .inl (.inr hk))
       clear hO3 hG3 hiff
       have e12 : w3.cell? ⟨C, 12, none⟩ = some o := by
         rw [cellB F3.out, World.cell?_alloc_lt _ _ _ (by simp; omega), World.cell?_setCell_other _ _ _ _ (by intro h; injection h; omega)]; exact g12
       have e13 : w3.cell? ⟨C, 13, none⟩ = some (.int .i64 q) := by
         rw [cellB F3.out, World.cell?_alloc_lt _ _ _ (by simp; omega), World.cell?_setCell_other _ _ _ _ (by intro h; injection h; omega)]; exact g13
       have b3 : ∃ c t, w3.heap[C]? = some (.cells c t (0, 0)) := by
         obtain ⟨c, t, e⟩ := blk_set H.out.blk C 3 (.int .i32 1)
         exact ⟨c, t, F3.out.trans ((Below.heap_alloc _ _ C (by simp; omega)).trans e)⟩
       have e12f := fz b3 12
       have e13f := fz b3 13
       have B3 : Hid (∃ c t, w3.heap[C]? = some (.cells c t (0, 0))) := b3
       clear b3))
  have E3 : Hid (∀ j, j ≠ 3 → w3.cell? ⟨C, j, none⟩ = w.cell? ⟨C, j, none⟩) := fun j hj => by
    rw [cellB F3.out, World.cell?_alloc_lt _ _ _ (by simp; omega), World.cell?_setCell_other _ _ _ _ (by intro h; injection h; omega)]
  have E33 : Hid (w3.cell? ⟨C, 3, none⟩ = some (.int .i32 1)) := by
    show _ = _
    rw [cellB F3.out, World.cell?_alloc_lt _ _ _ (by simp; omega)]
    exact World.cell?_setCell_same _ _ _ g3
  have E5 : Hid (∀ j, j ≠ 12 → j ≠ 13 → ((w3.setCell ⟨C, 12, none⟩ (.slice (some ⟨g, 0, none⟩) (n + 1) cp)).setCell ⟨C, 13, none⟩ (.int .i64 (q + len))).cell? ⟨C, j, none⟩ = w3.cell? ⟨C, j, none⟩) := fun j h1 h2 => by
    rw [World.cell?_setCell_other _ _ _ _ (by intro h; injection h; omega), World.cell?_setCell_other _ _ _ _ (by intro h; injection h; omega)]
  have E512 : Hid (((w3.setCell ⟨C, 12, none⟩ (.slice (some ⟨g, 0, none⟩) (n + 1) cp)).setCell ⟨C, 13, none⟩ (.int .i64 (q + len))).cell? ⟨C, 12, none⟩ = some (.slice (some ⟨g, 0, none⟩) (n + 1) cp)) := by
    show _ = _
    rw [World.cell?_setCell_other _ _ _ _ (by intro h; injection h; omega)]
    exact World.cell?_setCell_same _ _ _ e12
  have E513 : Hid (((w3.setCell ⟨C, 12, none⟩ (.slice (some ⟨g, 0, none⟩) (n + 1) cp)).setCell ⟨C, 13, none⟩ (.int .i64 (q + len))).cell? ⟨C, 13, none⟩ = some (.int .i64 (q + len))) := World.cell?_setCell_same _ _ _ ((World.cell?_setCell_other _ _ _ _ (by intro h; injection h; omega)).trans e13)
  have B5 : Hid (∃ c t, ((w3.setCell ⟨C, 12, none⟩ (.slice (some ⟨g, 0, none⟩) (n + 1) cp)).setCell ⟨C, 13, none⟩ (.int .i64 (q + len))).heap[C]? = some (.cells c t (0, 0))) := blk_set (blk_set B3.out C 12 _) C 13 _
  have F5 : Hid (Fr (fun j => j = C ∨ o.ownBlock = some j) w ((w3.setCell ⟨C, 12, none⟩ (.slice (some ⟨g, 0, none⟩) (n + 1) cp)).setCell ⟨C, 13, none⟩ (.int .i64 (q + len)))) := (F3'.out.setCell _ _ (.inl (.inl rfl))).setCell _ _ (.inl (.inl rfl))
  have O5 : Hid (((w3.setCell ⟨C, 12, none⟩ (.slice (some ⟨g, 0, none⟩) (n + 1) cp)).setCell ⟨C, 13, none⟩ (.int .i64 (q + len))).ownsRow lo 24 1 (.slice (some ⟨g, 0, none⟩) (n + 1) cp) (n + 1) (fs ++ [.slice (some ⟨B, 0, none⟩) len 64])) := own_block O3.out fun g' hg' _ => (Below.heap_setCell _ _ _ _ (by show g' ≠ C; omega)).trans (Below.heap_setCell _ _ _ _ (by show g' ≠ C; omega))
  generalize (w3.setCell ⟨C, 12, none⟩ (.slice (some ⟨g, 0, none⟩) (n + 1) cp)).setCell ⟨C, 13, none⟩ (.int .i64 (q + len)) = w5 at E5 E512 E513 B5 F5 O5 ⊢
  clear e12 e13 e12f e13f
  refine (broadcast C w5 (by rw [E5.out 6 (by omega) (by omega), E3.out 6 (by omega)]; exact H.out.c6) (by rw [E5.out 7 (by omega) (by omega), E3.out 7 (by omega)]; exact H.out.c7) (by rw [E5.out 11 (by omega) (by omega), E3.out 11 (by omega)]; exact H.out.ck) (fz B5.out 11)).mono ?_
  rintro e w6 ⟨rfl, h6⟩
  have P6 : Hid ((∀ j, j ≠ 11 → w6.cell? ⟨C, j, none⟩ = w5.cell? ⟨C, j, none⟩) ∧ w6.cell? ⟨C, 11, none⟩ = some (.pointer (some ⟨C, 11, none⟩)) ∧ (∃ c t, w6.heap[C]? = some (.cells c t (0, 0))) ∧ Fr (fun j => j = C ∨ o.ownBlock = some j) w w6 ∧ w6.ownsRow lo 24 1 (.slice (some ⟨g, 0, none⟩) (n + 1) cp) (n + 1) (fs ++ [.slice (some ⟨B, 0, none⟩) len 64])) := by
    rcases h6 with rfl | ⟨rfl, h11⟩
    · refine ⟨fun j hj => World.cell?_setCell_other _ _ _ _ (by intro h; injection h; omega), ?_, blk_set B5.out C 11 _, F5.out.setCell _ _ (.inl (.inl rfl)), own_block O5.out fun g' hg' _ => Below.heap_setCell _ _ _ _ (by show g' ≠ C; omega)⟩
      have : ∃ x, w5.cell? ⟨C, 11, none⟩ = some x := by
        rw [E5.out 11 (by omega) (by omega), E3.out 11 (by omega)]
        rcases H.out.ck with q | q <;> exact ⟨_, q⟩
      obtain ⟨x, hx⟩ := this
      exact World.cell?_setCell_same _ _ _ hx
    · exact ⟨fun _ _ => rfl, h11, B5.out, F5.out, O5.out⟩
  clear h6
  have m3 : w6.cell? ⟨C, 3, none⟩ = some (.int .i32 1) := by rw [P6.out.1 3 (by omega), E5.out 3 (by omega) (by omega)]; exact E33.out
  have z3 := fz P6.out.2.2.1 3
  go_wp2
  refine leaves_cons (f := 42) (args := #[.pointer (some ⟨C, 3, none⟩)]) (by simp) (by simp [go_sem]) ?_
  refine (unlock_deferred Ybad.muLib ⟨C, 3, none⟩ .returning _ m3 z3).mono ?_
  rintro e u' w7 ⟨rfl, rfl, rfl⟩
  refine ⟨_, results_tmp rfl _ _ _, rfl, _, ⟨blk_set P6.out.2.2.1 C 3 _, World.cell?_setCell_same _ _ _ m3, ?_, ?_, ?_, ?_, ?_, ?_⟩, own_block P6.out.2.2.2.2 fun g' hg' _ => Below.heap_setCell _ _ _ _ (by show g' ≠ C; omega), P6.out.2.2.2.1.setCell _ _ (.inl (.inl rfl))⟩
  · rw [World.cell?_setCell_other _ _ _ _ (by intro h; injection h; omega), P6.out.1 6 (by omega), E5.out 6 (by omega) (by omega), E3.out 6 (by omega)]; exact H.out.c6
  · rw [World.cell?_setCell_other _ _ _ _ (by intro h; injection h; omega), P6.out.1 7 (by omega), E5.out 7 (by omega) (by omega), E3.out 7 (by omega)]; exact H.out.c7
  · rw [World.cell?_setCell_other _ _ _ _ (by intro h; injection h; omega)]; exact .inr P6.out.2.1
  · rw [World.cell?_setCell_other _ _ _ _ (by intro h; injection h; omega), P6.out.1 12 (by omega)]; exact E512.out
  · rw [World.cell?_setCell_other _ _ _ _ (by intro h; injection h; omega), P6.out.1 13 (by omega)]; exact E513.out
  · rw [World.cell?_setCell_other _ _ _ _ (by intro h; injection h; omega), P6.out.1 14 (by omega), E5.out 14 (by omega) (by omega), E3.out 14 (by omega)]; exact H.out.c14
end YbulkcrxoDoor.F
end Go.Proofs
