/-
  LawS4681AFires, LawS4681BFire: 'watchTable.take' by a contract: the inner map is ranged over in any order, its entries taken out the while.
-/
import Derived.Test.YbulkcrxoDoorFRem
import Derived.Laws.Cover3
set_option linter.unusedVariables false
namespace Go.Proofs.YbulkcrxoDoor.F
open Go.RowKit Go.Any
open Go.ChangeMaps (setBlock)

def Has (A : Nat → Wt) (N : Nat) (x : Wt) : Prop := ∃ i, i < N ∧ A i = x

/-- The set of sessions that a map (or nil) holds; its block lies at lo or above. -/
def Tk (w : World) (SB : Fin 4 → Nat) (lo : Nat) (v : Value) (S : Fin 4 → Prop) : Prop :=
  (v = .map none ∧ ∀ s, ¬ S s) ∨ ∃ TB l c, v = .map (some TB) ∧ RM.IsMap (kvS SB) w TB l c ∧ RM.Uniq l ∧ RM.Stamps l c ∧ (∀ s, (∃ u, RM.get l s = some u) ↔ S s) ∧ lo ≤ TB
theorem Tk.keep {w w' : World} {SB : Fin 4 → Nat} {lo : Nat} {v : Value} {S : Fin 4 → Prop} (h : Tk w SB lo v S) (hb : ∀ j, lo ≤ j → j < w.heap.size → w'.heap[j]? = w.heap[j]?) : Tk w' SB lo v S := by
  rcases h with h | ⟨TB, l, c, h1, h2, h3, h4, h5, h6⟩
  · exact .inl h
  · exact .inr ⟨TB, l, c, h1, (hb TB h6 (IsMap.lt h2)).trans h2, h3, h4, h5, h6⟩
theorem Tk.iter {w w' : World} {SB : Fin 4 → Nat} {lo R : Nat} {v : Value} {S : Fin 4 → Prop} {a : Option Nat} {b c : Nat} {sn : Array Nat} (h : Tk w SB lo v S) (hR : w.heap[R]? = some (.mapIter a b sn c)) (hb : ∀ j, j ≠ R → w'.heap[j]? = w.heap[j]?) : Tk w' SB lo v S := by
  rcases h with h | ⟨TB, l, c, h1, h2, h3, h4, h5, h6⟩
  · exact .inl h
  · refine .inr ⟨TB, l, c, h1, (hb TB fun e => ?_).trans h2, h3, h4, h5, h6⟩
    unfold RM.IsMap at h2
    rw [e, hR] at h2
    cases h2
/-- One session more. -/
theorem Tk.add {w : World} {SB : Fin 4 → Nat} {lo TB c : Nat} {l : List (RM.Ent (Fin 4))} {S : Fin 4 → Prop} (h2 : RM.IsMap (kvS SB) w TB l c) (h3 : RM.Uniq l) (h4 : RM.Stamps l c) (h5 : ∀ s, (∃ u, RM.get l s = some u) ↔ S s) (h6 : lo ≤ TB) (t : Fin 4) (u : Value) :
    Tk (setBlock w TB (.map ((RM.ins l t u c).map (RM.Ent.raw (kvS SB))).toArray (RM.insC l t c))) SB lo (.map (some TB)) (fun s => S s ∨ s = t) := by
  refine .inr ⟨TB, _, _, rfl, RM.isMap_set h2, RM.uniq_ins h3 _ _ _, RM.stamps_ins h4 _ _, fun s => ?_, h6⟩
  rw [RM.get_ins]
  by_cases e : s = t
  · subst e; simp
  · rw [if_neg e, h5 s]; simp [e]
theorem eql_nil (m : Option Nat) (w : World) : (binOp .eql 128 (.map m) (.map none)).run Ybad.prog w = .ok (.bool m.isNone) w := by
  have := run_equal_map_nil (P := Ybad.prog) w 128 25 36 m Ybad.underlying128
  simp only [binOp]
  simp [this]
theorem zero128 (w : World) : (Instr.makeMap 128 none).run Ybad.prog w = .ok (.map (some w.heap.size)) (w.alloc (.map #[] 0)) := by kernel_rfl
theorem Tk.congr {w : World} {SB : Fin 4 → Nat} {lo : Nat} {v : Value} {S S' : Fin 4 → Prop} (h : Tk w SB lo v S) (hs : ∀ s, S s ↔ S' s) : Tk w SB lo v S' := by
  rcases h with ⟨h1, h2⟩ | ⟨TB, l, c, h1, h2, h3, h4, h5, h6⟩
  · exact .inl ⟨h1, fun s q => h2 s ((hs s).2 q)⟩
  · exact .inr ⟨TB, l, c, h1, h2, h3, h4, fun s => (h5 s).trans (hs s), h6⟩

/-- The table is still there when no block below b2 has turned. -/
theorem Tbl.keep {w w' : World} {b1 b2 X BK BS AB : Nat} {SB : Fin 4 → Nat} {IK : Key → Nat} {JS : Fin 4 → Nat} {ρ : Nat → Role} {A : Nat → Wt} {N : Nat} (h : Tbl w b1 b2 X BK BS AB SB IK JS ρ A N) (k : ∀ j, j < b2 → w'.heap[j]? = w.heap[j]?) : Tbl w' b1 b2 X BK BS AB SB IK JS ρ A N := by
  have hX := k X h.zX.2
  have hA : 0 < N → w'.heap[AB]? = w.heap[AB]? := fun hN => k AB (h.zA hN).2
  refine ⟨(cellB hX 0).trans h.c0, (cellB hX 1).trans h.c1, ?_, (World.frozen?_of_block (w := w) (a := ⟨X, 2, none⟩) hX).trans h.fX, h.inj, fun i hi => ?_, fun j hN => (World.frozen?_of_block (w := w) (a := ⟨AB, j, none⟩) (hA hN)).trans (h.fA j hN), ?_, fun i hi => ?_, ?_, fun i hi => ?_, h.rK, h.rS, h.rI, h.rJ, h.XA, h.zX, h.zK, h.zS, h.zA, h.zI, h.zJ, h.bN⟩
  · obtain ⟨ao, cap, h1, h2⟩ := h.c2
    exact ⟨ao, cap, (cellB hX 2).trans h1, h2⟩
  · obtain ⟨h1, h2, h3⟩ := h.ce i hi
    have := hA (by omega)
    exact ⟨(cellB this _).trans h1, (cellB this _).trans h2, (cellB this _).trans h3⟩
  · obtain ⟨l, c, h1, h2⟩ := h.mK
    exact ⟨l, c, (k _ h.zK.2).trans h1, h2⟩
  · obtain ⟨l, c, h1, h2⟩ := h.mI i hi
    exact ⟨l, c, (k _ (h.zI i hi).2).trans h1, h2⟩
  · obtain ⟨l, c, h1, h2⟩ := h.mS
    exact ⟨l, c, (k _ h.zS.2).trans h1, h2⟩
  · obtain ⟨l, c, h1, h2⟩ := h.mJ i hi
    exact ⟨l, c, (k _ (h.zJ i hi).2).trans h1, h2⟩

theorem Ring.new {b1 b2 : Nat} {a b : World} (h : Ring b1 b2 a b) (B : Nat) (o : Obj) (hp : a.heap.size ≤ B) (hb : b2 ≤ a.heap.size) : Ring b1 b2 a (Go.ChangeMaps.setBlock b B o) :=
  ⟨h.os, h.tape, h.output, by simpa [Go.ChangeMaps.setBlock] using h.size, fun j h1 h2 => (RM.heap_set_other _ (show j ≠ B by omega)).trans (h.block j h1 h2)⟩
theorem Ring.alloc {b1 b2 : Nat} {a b : World} (h : Ring b1 b2 a b) (o : Obj) : Ring b1 b2 a (b.alloc o) :=
  ⟨h.os, h.tape, h.output, by have := h.size; simp; omega, fun j h1 h2 => (Below.heap_alloc b _ j (Nat.lt_of_lt_of_le h1 h.size)).trans (h.block j h1 h2)⟩
theorem Ring.drew {b1 b2 : Nat} {a b : World} (h : Ring b1 b2 a b) : Ring b1 b2 a b.drew := ⟨h.os, h.tape, h.output, h.size, h.block⟩

def tlen (w : World) (X : Nat) : Nat := match w.cell? ⟨X, 2, none⟩ with
  | some (.slice _ n _) => n
  | _ => 0
theorem Tbl.tlen {w : World} {b1 b2 X BK BS AB : Nat} {SB : Fin 4 → Nat} {IK : Key → Nat} {JS : Fin 4 → Nat} {ρ : Nat → Role} {A : Nat → Wt} {N : Nat} (h : Tbl w b1 b2 X BK BS AB SB IK JS ρ A N) : F.tlen w X = N := by
  obtain ⟨ao, cap, h1, _⟩ := h.c2
  unfold F.tlen
  rw [h1]

theorem nodup_inj {α β : Type} {f : α → β} : ∀ {l : List α}, (l.map f).Nodup → ∀ {a b : α}, a ∈ l → b ∈ l → f a = f b → a = b
  | x :: r, h, a, b, ha, hb, e => by
    rw [List.map_cons, List.nodup_cons] at h
    rcases List.mem_cons.1 ha with rfl | ha'
    · rcases List.mem_cons.1 hb with rfl | hb'
      · rfl
      · exact absurd (e ▸ List.mem_map.2 ⟨b, hb', rfl⟩) h.1
    · rcases List.mem_cons.1 hb with rfl | hb'
      · exact absurd (e ▸ List.mem_map.2 ⟨a, ha', rfl⟩) h.1
      · exact nodup_inj h.2 ha' hb' e

/-- Hit by one of the first j kinds. -/
def Hit (p : ByteArray) (kd : Nat → Nat) (j : Nat) (x : Wt) : Prop := x.1.1 = p ∧ ∃ t, t < j ∧ kd t = x.1.2

set_option maxHeartbeats 8000000 in
set_option maxRecDepth 100000 in
theorem take (b1 b2 X BK BS AB : Nat) (SB : Fin 4 → Nat) (IK : Key → Nat) (JS : Fin 4 → Nat) (ρ : Nat → Role) (A : Nat → Wt) (N : Nat) (p : ByteArray) (ka : Option Addr) (n kc : Nat) (kd : Nat → Nat) (w : World) (h : Tbl w b1 b2 X BK BS AB SB IK JS ρ A N) (hS : Sess w SB) (hSB : ∀ i, SB i < b1) (hb2 : b2 ≤ w.heap.size) (hn : n ≤ 1024)
    (hk : ∀ j, j < n → ∃ KD, ka = some ⟨KD, 0, none⟩ ∧ w.cell? ⟨KD, j, none⟩ = some (.int .u8 (kd j)) ∧ b2 ≤ KD) :
    Calls Ybad.prog 21 #[.pointer (some ⟨X, 0, none⟩), .string p, .slice ka n kc] w fun e w' => ∃ v A' N', e = .returned v ∧ Tbl w' b1 b2 X BK BS AB SB IK JS ρ A' N' ∧ (∀ x, Has A' N' x ↔ Has A N x ∧ ¬ Hit p kd n x) ∧ Tk w' SB w.heap.size v (fun s => ∃ x, Has A N x ∧ x.2 = s ∧ Hit p kd n x) ∧ Ring b1 b2 w w' ∧ Alien X AB w w' := by
  have HT : Hid (Tbl w b1 b2 X BK BS AB SB IK JS ρ A N) := h
  have HS : Hid (Sess w SB) := hS
  have HK : Hid (∀ j, j < n → ∃ KD, ka = some ⟨KD, 0, none⟩ ∧ w.cell? ⟨KD, j, none⟩ = some (.int .u8 (kd j)) ∧ b2 ≤ KD) := hk
  clear h hS hk
  go_enter Ybad.func21, Ybad.ntmps21
  go_wp2_with fail
  go_loopw [7, 14] (fun v i wr => ∃ (j : Nat) (A' : Nat → Wt) (N' : Nat), j ≤ n ∧ i = .int .i64 j ∧ Hid (Tbl wr b1 b2 X BK BS AB SB IK JS ρ A' N') ∧ Hid (∀ x, Has A' N' x ↔ Has A N x ∧ ¬ Hit p kd j x) ∧ Hid (Tk wr SB w.heap.size v (fun s => ∃ x, Has A N x ∧ x.2 = s ∧ Hit p kd j x)) ∧ Hid (Ring b1 b2 w wr) ∧ Hid (Alien X AB w wr)) (fun _ i _ => n - (intOf i).toNat)
  case atStart =>
    have hh : ∀ x, ¬ Hit p kd 0 x := fun x q => by obtain ⟨_, t, ht, _⟩ := q; omega
    exact ⟨0, A, N, Nat.zero_le _, rfl, HT, fun x => ⟨fun q => ⟨q, hh x⟩, fun q => q.1⟩, .inl ⟨rfl, fun s q => by obtain ⟨x, _, _, hx⟩ := q; exact hh x hx⟩, Ring.refl _ _ _, Alien.refl _ _ _⟩
  case round =>
    obtain ⟨j, A1, N1, hj, rfl, T1, H1, K1, R1, L1⟩ := hrel
    by_cases hlt : j < n
    · obtain ⟨KD, hka, gk, hKD⟩ := HK.out j hlt
      subst hka
      have yk := (cellB (R1.out.block KD (World.block_lt_of_cell? _ _ gk) (.inr hKD)) j).trans gk
      have g0 := T1.out.c0
      obtain ⟨kv, hkv⟩ : ∃ kv, Hid (kv = kd j) := ⟨_, rfl⟩
      rw [← hkv.out] at yk
      go_wp2_with fail
      have T2 : Hid (Tbl (wr.alloc (Obj.cells #[.string p, .int .u8 (kv : Int)] 61)) b1 b2 X BK BS AB SB IK JS ρ A1 N1) := T1.out.below ((Below.refl _ _).alloc (Nat.le_refl _) _)
      have R2 : Hid (Ring b1 b2 w (wr.alloc (Obj.cells #[.string p, .int .u8 (kv : Int)] 61))) := R1.out.alloc _
      have L2 : Hid (Alien X AB w (wr.alloc (Obj.cells #[.string p, .int .u8 (kv : Int)] 61))) := L1.out.trans (Alien.of_below ((Below.refl _ _).alloc (Nat.le_refl _) _))
      have K2 : Hid (Tk (wr.alloc (Obj.cells #[.string p, .int .u8 (kv : Int)] 61)) SB w.heap.size u7 (fun s => ∃ x, Has A N x ∧ x.2 = s ∧ Hit p kd j x)) := K1.out.keep fun j _ hj => Below.heap_alloc wr _ j hj
      have q0 : (wr.alloc (Obj.cells #[.string p, .int .u8 (kv : Int)] 61)).cell? ⟨wr.heap.size, 0, none⟩ = some (.string p) := by rw [alloc_new]; rfl
      have q1 : (wr.alloc (Obj.cells #[.string p, .int .u8 (kv : Int)] 61)).cell? ⟨wr.heap.size, 1, none⟩ = some (.int .u8 (kv : Int)) := by rw [alloc_new]; rfl
      have sQ : Hid (w.heap.size ≤ wr.heap.size) := R1.out.size
      generalize wr.alloc (Obj.cells #[.string p, .int .u8 (kv : Int)] 61) = w2 at T2 R2 K2 L2 q0 q1 ⊢
      generalize wr.heap.size = QB at q0 q1 sQ ⊢
      clear T1 R1 K1 L1 yk gk
      replace g0 := T2.out.c0
      have S2 : Hid (Sess w2 SB) := HS.out.ring hSB R2.out
      by_cases hp : ∃ i, i < N1 ∧ (A1 i).1 = (p, kv)
      · obtain ⟨iP, hiP, hAP⟩ := hp
        obtain ⟨lI, cI, mI, sI, stI⟩ := T2.out.mI iP hiP
        have zI := T2.out.zI iP hiP
        rw [hAP] at mI sI zI
        have II : Hid (RM.IsMap (kvS SB) w2 (IK (p, kv)) lI cI ∧ ISpec A1 N1 (p, kv) lI ∧ RM.Stamps lI cI) := ⟨mI, sI, stI⟩
        have L6 : ∀ n, (Instr.lookup 64 (.map (some BK)) (.agg #[.string p, .int .u8 (kv : Int)]) false).run Ybad.prog (w2.drewN n) = .ok (.map (some (IK (p, kv)))) (w2.drewN n) := fun n => by
          obtain ⟨l, c, hm, hs⟩ := T2.out.mK
          have := RM.run_lookup Ybad.underlying64 (watchKeys (w2.drewN n)) (w := w2.drewN n) hm (zero63 _) (p, kv)
          rw [(hs.2 (p, kv) _).2 ⟨⟨iP, hiP, hAP⟩, rfl⟩] at this
          exact this
        have G6 : ∀ n, (Instr.range 63 (.map (some (IK (p, kv))))).run Ybad.prog (w2.drewN n) = .ok (.pointer (some ⟨w2.heap.size, 0, none⟩)) ((w2.drewN n).alloc (.mapIter (some (IK (p, kv))) cI #[] cI)) := fun n => run_range_map (P := Ybad.prog) (w2.drewN n) 63 25 3 _ _ cI Ybad.underlying63 mI
        clear mI sI stI
        refine wp_region_last (l := [_, _, _, _, _, _]) (o := _) rfl (by kernel_rfl) (by kernel_rfl) (by kernel_rfl) (by kernel_rfl) (by kernel_rfl) ?_
        repeat (go_big_quiet_step (fail))
        refine wpQuiet_nil ?_
        rintro _ ⟨nq, rfl⟩
        go_simp
        have HB3 : Hid (Below w2.heap.size w2 ((w2.drewN nq).alloc (.mapIter (some (IK (p, kv))) cI #[] cI))) := ⟨rfl, rfl, rfl, by simp, fun j hj => Below.heap_alloc (w2.drewN nq) _ j hj⟩
        have J3 : Hid (((w2.drewN nq).alloc (.mapIter (some (IK (p, kv))) cI #[] cI)).heap[w2.heap.size]? = some (.mapIter (some (IK (p, kv))) cI #[] cI)) := heap_alloc_new (w2.drewN nq) _
        generalize (w2.drewN nq).alloc (.mapIter (some (IK (p, kv))) cI #[] cI) = w3 at HB3 J3 ⊢
        have sR : Hid (w.heap.size ≤ w2.heap.size ∧ QB < w2.heap.size) := ⟨R2.out.size, World.block_lt_of_cell? _ _ q0⟩
        have T3 : Hid (Tbl w3 b1 b2 X BK BS AB SB IK JS ρ A1 N1) := T2.out.below HB3.out
        have R3 : Hid (Ring b1 b2 w w3) := R2.out.trans (Ring.of_below HB3.out)
        have L3 : Hid (Alien X AB w w3) := L2.out.trans (Alien.of_below HB3.out)
        have K3 : Hid (Tk w3 SB w.heap.size u7 (fun s => ∃ x, Has A N x ∧ x.2 = s ∧ Hit p kd j x)) := K2.out.keep fun j _ hj => HB3.out.block j hj
        have I3 : Hid (RM.IsMap (kvS SB) w3 (IK (p, kv)) lI cI) := (HB3.out.block _ (IsMap.lt II.out.1)).trans II.out.1
        replace q0 := (HB3.out.cell (p := ⟨QB, 0, none⟩) sR.out.2).trans q0
        replace q1 := (HB3.out.cell (p := ⟨QB, 1, none⟩) sR.out.2).trans q1
        have Q3 : Hid (w3.cell? ⟨QB, 0, none⟩ = some (.string p) ∧ w3.cell? ⟨QB, 1, none⟩ = some (.int .u8 (kv : Int))) := ⟨q0, q1⟩
        generalize w2.heap.size = R at J3 sR ⊢
        clear L6 G6 HB3 T2 R2 K2 L2 S2 g0 q0 q1
        go_wp2_with fail
        go_loopw [7] (fun v wr => ∃ (A2 : Nat → Wt) (N2 : Nat) (l : List (RM.Ent (Fin 4))) (seen : Array Nat), Hid (Tbl wr b1 b2 X BK BS AB SB IK JS ρ A2 N2) ∧ Hid (Alien X AB w wr) ∧ Hid (Ring b1 b2 w wr) ∧ Hid (wr.heap[R]? = some (.mapIter (some (IK (p, kv))) cI seen cI)) ∧ Hid (RM.IsMap (kvS SB) wr (IK (p, kv)) l cI) ∧ Hid (ISpec A2 N2 (p, kv) l ∧ RM.Stamps l cI) ∧ Hid (∀ e ∈ l, seen.contains e.n = false) ∧
          Hid (∀ x, Has A2 N2 x → Has A1 N1 x) ∧ Hid (∀ x, Has A1 N1 x → x.1 ≠ (p, kv) → Has A2 N2 x) ∧ Hid (Tk wr SB w.heap.size v (fun s => (∃ x, Has A N x ∧ x.2 = s ∧ Hit p kd j x) ∨ (Has A1 N1 ((p, kv), s) ∧ ¬ Has A2 N2 ((p, kv), s)))) ∧ Hid (wr.cell? ⟨QB, 0, none⟩ = some (.string p) ∧ wr.cell? ⟨QB, 1, none⟩ = some (.int .u8 (kv : Int)))) (fun _ wr => tlen wr X)
        case atStart =>
          exact ⟨A1, N1, lI, #[], T3, L3, R3, J3, I3, ⟨II.out.2.1, II.out.2.2⟩, fun e he => by simp, fun x hx => hx, fun x hx _ => hx, K3.out.congr fun s => ⟨fun q => .inl q, fun q => q.elim id fun q => absurd q.1 q.2⟩, Q3⟩
        case round =>
          obtain ⟨A2, N2, l, seen, T5, L5, R5, J5, I5, IS5, NS, HA, HB, K5, Q5⟩ := hrel
          clear T3 R3 L3 K3 I3 J3 Q3
          have hold : ∀ x ∈ ((l.map (RM.Ent.raw (kvS SB))).toArray).toList, x.born < cI := fun x hx => by
            simp at hx
            obtain ⟨e, he, rfl⟩ := hx
            exact IS5.out.2.1 e he
          have hlo : leftOf (l.map (RM.Ent.raw (kvS SB))).toArray seen = (l.map (RM.Ent.raw (kvS SB))).toArray := by
            unfold leftOf
            rw [Array.filter_eq_self]
            intro x hx
            simp at hx
            obtain ⟨e, he, rfl⟩ := hx
            have := NS.out e he
            simpa [RM.Ent.raw] using this
          rcases run_next_at (P := Ybad.prog) wr 0 R (IK (p, kv)) cI cI seen _ cI J5.out I5.out hold (Nat.le_refl _) with ⟨hleft, hnx⟩ | ⟨e, hel, w1, hw1, hnx⟩
          · rw [hlo] at hleft
            have hl0 : l = [] := by
              have : l.length = 0 := by simpa using hleft
              exact List.length_eq_zero_iff.1 this
            subst hl0
            have hno : ∀ s, ¬ Has A2 N2 ((p, kv), s) := fun s ⟨i, hi, e⟩ => by
              have := (IS5.out.1.2 s (.int .i64 (i : Int))).2 ⟨i, hi, e, rfl⟩
              cases this
            clear hleft hlo hold
            go_wp2
            refine ⟨⟨j + 1, A2, N2, hlt, rfl, T5, fun x => ?_, K5.out.congr fun s => ?_, R5, L5⟩, by simp [intOf]; omega⟩
            · constructor
              · intro hx
                have h1 := (H1.out x).1 (HA.out x hx)
                refine ⟨h1.1, fun ⟨hp1, t, ht, hkt⟩ => ?_⟩
                by_cases et : t = j
                · subst et
                  obtain ⟨⟨xp, xk⟩, xs⟩ := x
                  simp only at hp1 hkt
                  subst hp1
                  rw [← hkv.out] at hkt
                  subst hkt
                  exact hno xs hx
                · exact h1.2 ⟨hp1, t, by omega, hkt⟩
              · rintro ⟨hx, hnh⟩
                refine HB.out x ((H1.out x).2 ⟨hx, fun ⟨hp1, t, ht, hkt⟩ => hnh ⟨hp1, t, by omega, hkt⟩⟩) fun e => hnh ⟨by rw [e], j, by omega, by rw [e, hkv.out]⟩
            · constructor
              · rintro (⟨x, hx, hxs, hp1, t, ht, hkt⟩ | ⟨hx, _⟩)
                · exact ⟨x, hx, hxs, hp1, t, by omega, hkt⟩
                · exact ⟨_, ((H1.out _).1 hx).1, rfl, rfl, j, by omega, hkv.out.symm⟩
              · rintro ⟨x, hx, hxs, hp1, t, ht, hkt⟩
                by_cases eh : Hit p kd j x
                · exact .inl ⟨x, hx, hxs, eh⟩
                · have et : t = j := by
                    apply Classical.byContradiction
                    intro q
                    exact eh ⟨hp1, t, by omega, hkt⟩
                  subst et
                  obtain ⟨⟨xp, xk⟩, xs⟩ := x
                  simp only at hp1 hkt hxs
                  subst hp1 hxs
                  rw [← hkv.out] at hkt
                  subst hkt
                  exact .inr ⟨(H1.out _).2 ⟨hx, eh⟩, hno _⟩
          · rw [hlo] at hel
            simp at hel
            obtain ⟨e0, he0, rfl⟩ := hel
            have sR1 := sR.out.1
            have sR2 := sR.out.2
            have sQ1 := sQ.out
            have hRI : IK (p, kv) ≠ R := by omega
            have hit1 : R < w1.heap.size := by
              have : R < wr.heap.size := by
                rcases Array.getElem?_eq_some_iff.1 J5.out with ⟨h, _⟩
                exact h
              rcases hw1 with rfl | rfl <;> exact this
            have hbl : ∀ j, j ≠ R → (setBlock w1 R (.mapIter (some (IK (p, kv))) cI (seen.push (RM.Ent.raw (kvS SB) e0).born) cI)).heap[j]? = wr.heap[j]? := fun j hj => (RM.heap_set_other _ hj).trans (by rcases hw1 with rfl | rfl <;> rfl)
            have hself : (setBlock w1 R (.mapIter (some (IK (p, kv))) cI (seen.push (RM.Ent.raw (kvS SB) e0).born) cI)).heap[R]? = some (.mapIter (some (IK (p, kv))) cI (seen.push e0.n) cI) := by
              simp [setBlock, hit1, RM.Ent.raw]
            have hsz : (setBlock w1 R (.mapIter (some (IK (p, kv))) cI (seen.push (RM.Ent.raw (kvS SB) e0).born) cI)).heap.size = wr.heap.size := by rcases hw1 with rfl | rfl <;> simp [setBlock]
            have hR6 : Ring b1 b2 w (setBlock w1 R (.mapIter (some (IK (p, kv))) cI (seen.push (RM.Ent.raw (kvS SB) e0).born) cI)) := by
              refine Ring.new (b := w1) ?_ R _ sR.out.1 hb2
              rcases hw1 with rfl | rfl
              · exact R5.out
              · exact R5.out.drew
            have hen := run_entry_at (P := Ybad.prog) _ R (IK (p, kv)) cI seen _ cI (RM.Ent.raw (kvS SB) e0) hself ((hbl _ hRI).trans I5.out) (by simp; exact ⟨e0, he0, rfl⟩) (by
              have := IS5.out.2.2
              simpa [List.map_map, RM.Ent.raw, Function.comp_def] using this)
            generalize setBlock w1 R (.mapIter (some (IK (p, kv))) cI (seen.push (RM.Ent.raw (kvS SB) e0).born) cI) = w6 at hnx hbl hself hsz hR6 hen
            have e1 : (RM.Ent.raw (kvS SB) e0).key = .pointer (some ⟨SB e0.k, 0, none⟩) := rfl
            rw [e1] at hnx hen
            obtain ⟨v0, hv0⟩ : ∃ v0, (RM.Ent.raw (kvS SB) e0).val = v0 := ⟨_, rfl⟩
            rw [hv0] at hnx hen
            have T6 : Hid (Tbl w6 b1 b2 X BK BS AB SB IK JS ρ A2 N2) := T5.out.keep fun j hj => hbl j (by omega)
            have I6 : Hid (RM.IsMap (kvS SB) w6 (IK (p, kv)) l cI) := (hbl _ hRI).trans I5.out
            have J6 : Hid (w6.heap[R]? = some (.mapIter (some (IK (p, kv))) cI (seen.push e0.n) cI)) := hself
            have R6 : Hid (Ring b1 b2 w w6) := hR6
            have S6 : Hid (Sess w6 SB) := HS.out.ring hSB hR6
            have L6 : Hid (Alien X AB w w6) := fun jj c t f h1 h2 h3 => by
              have q := L5.out jj c t f h1 h2 h3
              have hne : jj ≠ R := fun e => by rw [e, J5.out] at q; cases q
              exact (hbl jj hne).trans q
            obtain ⟨q0, q1⟩ := Q5.out
            replace q0 := (cellB (hbl QB (by omega)) 0).trans q0
            replace q1 := (cellB (hbl QB (by omega)) 1).trans q1
            obtain ⟨i0, hi0, hA0, _⟩ := (IS5.out.1.2 e0.k e0.v).1 (RM.get_of_mem IS5.out.1.1 he0)
            have hlen : tlen wr X = N2 := T5.out.tlen
            obtain ⟨M, hM⟩ : ∃ M, N2 = M + 1 := ⟨N2 - 1, by omega⟩
            subst hM
            have K6 : Hid (Tk w6 SB w.heap.size u7 (fun s => (∃ x, Has A N x ∧ x.2 = s ∧ Hit p kd j x) ∨ (Has A1 N1 ((p, kv), s) ∧ ¬ Has A2 (M + 1) ((p, kv), s)))) := K5.out.iter J5.out hbl
            clear hsz hold hlo hw1 e1 hv0 hself hbl hR6 T5 R5 J5 I5 K5 Q5 L5
            rcases K6.out with hsm | hsm
            · skip
              obtain ⟨hu, hno⟩ := hsm
              subst hu
              have mk := zero128
              have en : ∀ w, (binOp .eql 128 (.map none) (.map none)).run Ybad.prog w = .ok (.bool true) w := eql_nil none
              have mT : RM.IsMap (kvS SB) (w6.alloc (.map #[] 0)) w6.heap.size [] 0 := heap_alloc_new w6 _
              have hb6 : Below w6.heap.size w6 (w6.alloc (.map #[] 0)) := (Below.refl _ _).alloc (Nat.le_refl _) _
              have U : (Instr.mapUpdate 128 (.map (some w6.heap.size)) (.pointer (some ⟨SB e0.k, 0, none⟩)) (.agg #[])).run Ybad.prog (w6.alloc (.map #[] 0)) = .ok () (setBlock (w6.alloc (.map #[] 0)) w6.heap.size (.map ((RM.ins [] e0.k (.agg #[]) 0).map (RM.Ent.raw (kvS SB))).toArray (RM.insC [] e0.k 0))) := RM.run_update Ybad.underlying128 (sessKeys (S6.out.below hb6)) mT e0.k _
              have ltq : QB < w6.heap.size := World.block_lt_of_cell? _ _ q0
              have p0 : (setBlock (w6.alloc (.map #[] 0)) w6.heap.size (.map ((RM.ins [] e0.k (.agg #[]) 0).map (RM.Ent.raw (kvS SB))).toArray (RM.insC [] e0.k 0))).cell? ⟨QB, 0, none⟩ = some (.string p) := (cellB ((RM.heap_set_other _ (Nat.ne_of_lt ltq)).trans (Below.heap_alloc w6 _ QB ltq)) 0).trans q0
              have p1 : (setBlock (w6.alloc (.map #[] 0)) w6.heap.size (.map ((RM.ins [] e0.k (.agg #[]) 0).map (RM.Ent.raw (kvS SB))).toArray (RM.insC [] e0.k 0))).cell? ⟨QB, 1, none⟩ = some (.int .u8 (kv : Int)) := (cellB ((RM.heap_set_other _ (Nat.ne_of_lt ltq)).trans (Below.heap_alloc w6 _ QB ltq)) 1).trans q1
              go_wp2_with fail
              have loT : w.heap.size ≤ w6.heap.size := R6.out.size
              have K7 : Hid (Tk (setBlock (w6.alloc (.map #[] 0)) w6.heap.size (.map ((RM.ins [] e0.k (.agg #[]) 0).map (RM.Ent.raw (kvS SB))).toArray (RM.insC [] e0.k 0))) SB w.heap.size (.map (some w6.heap.size)) (fun s => ((∃ x, Has A N x ∧ x.2 = s ∧ Hit p kd j x) ∨ (Has A1 N1 ((p, kv), s) ∧ ¬ Has A2 (M + 1) ((p, kv), s))) ∨ s = e0.k)) := Tk.add mT List.nodup_nil ⟨fun e he => (by cases he), List.nodup_nil⟩ (fun s => ⟨fun ⟨u, hu⟩ => (by cases hu), fun q => absurd q (hno s)⟩) loT _ _
              have F7 : ∀ j, j < w6.heap.size → (setBlock (w6.alloc (.map #[] 0)) w6.heap.size (.map ((RM.ins [] e0.k (.agg #[]) 0).map (RM.Ent.raw (kvS SB))).toArray (RM.insC [] e0.k 0))).heap[j]? = w6.heap[j]? := fun j hj => (RM.heap_set_other _ (Nat.ne_of_lt hj)).trans (Below.heap_alloc w6 _ j hj)
              have R7 : Hid (Ring b1 b2 w (setBlock (w6.alloc (.map #[] 0)) w6.heap.size (.map ((RM.ins [] e0.k (.agg #[]) 0).map (RM.Ent.raw (kvS SB))).toArray (RM.insC [] e0.k 0)))) := (R6.out.alloc _).new w6.heap.size _ loT hb2
              have L7 : Hid (Alien X AB w (setBlock (w6.alloc (.map #[] 0)) w6.heap.size (.map ((RM.ins [] e0.k (.agg #[]) 0).map (RM.Ent.raw (kvS SB))).toArray (RM.insC [] e0.k 0)))) := (L6.out.trans (Alien.of_below hb6)).setMap mT _
              have lt6 : b2 ≤ w6.heap.size ∧ QB < w6.heap.size ∧ R < w6.heap.size := ⟨by omega, World.block_lt_of_cell? _ _ q0, by
                rcases Array.getElem?_eq_some_iff.1 J6.out with ⟨h, _⟩
                exact h⟩
              generalize setBlock (w6.alloc (.map #[] 0)) w6.heap.size (.map ((RM.ins [] e0.k (.agg #[]) 0).map (RM.Ent.raw (kvS SB))).toArray (RM.insC [] e0.k 0)) = w7 at K7 F7 R7 L7 ⊢
              clear U hnx hen mk mT hb6 p0 p1 ltq
              have T7 : Hid (Tbl w7 b1 b2 X BK BS AB SB IK JS ρ A2 (M + 1)) := T6.out.keep fun j hj => F7 j (by omega)
              have I7 : Hid (RM.IsMap (kvS SB) w7 (IK (p, kv)) l cI) := (F7 _ (by omega)).trans I6.out
              have J7 : Hid (w7.heap[R]? = some (.mapIter (some (IK (p, kv))) cI (seen.push e0.n) cI)) := (F7 R lt6.2.2).trans J6.out
              replace q0 := (cellB (F7 QB lt6.2.1) 0).trans q0
              replace q1 := (cellB (F7 QB lt6.2.1) 1).trans q1
              have Q7 : Hid (w7.cell? ⟨QB, 0, none⟩ = some (.string p) ∧ w7.cell? ⟨QB, 1, none⟩ = some (.int .u8 (kv : Int))) := ⟨q0, q1⟩
              generalize w6.heap.size = TB at K7 ⊢
              clear F7 q0 q1
              have S7 : Hid (Sess w7 SB) := HS.out.ring hSB R7.out
              refine (remove b1 b2 X BK BS AB SB IK JS ρ A2 M i0 p kv e0.k l cI w7 T7.out S7.out hSB hi0 hA0 I7.out).mono ?_
              rintro e w9 ⟨rfl, T9, R9, L9, l9, I9, IS9, St9, Sub9⟩
              have hasd : ∀ x, Has (drop A2 (M + 1) i0) M x ↔ x ≠ A2 i0 ∧ Has A2 (M + 1) x := fun x => drop_has T7.out.inj hi0 x
              have tl := T9.tlen
              have F9 : ∀ j, w.heap.size ≤ j → j < w7.heap.size → w9.heap[j]? = w7.heap[j]? := fun j h1 h2 => R9.block j h2 (.inr (by omega))
              have REL : ∃ (A2 : Nat → Wt) (N2 : Nat) (l : List (RM.Ent (Fin 4))) (seen : Array Nat), Hid (Tbl w9 b1 b2 X BK BS AB SB IK JS ρ A2 N2) ∧ Hid (Alien X AB w w9) ∧ Hid (Ring b1 b2 w w9) ∧ Hid (w9.heap[R]? = some (.mapIter (some (IK (p, kv))) cI seen cI)) ∧ Hid (RM.IsMap (kvS SB) w9 (IK (p, kv)) l cI) ∧ Hid (ISpec A2 N2 (p, kv) l ∧ RM.Stamps l cI) ∧ Hid (∀ e ∈ l, seen.contains e.n = false) ∧
                  Hid (∀ x, Has A2 N2 x → Has A1 N1 x) ∧ Hid (∀ x, Has A1 N1 x → x.1 ≠ (p, kv) → Has A2 N2 x) ∧ Hid (Tk w9 SB w.heap.size (.map (some TB)) (fun s => (∃ x, Has A N x ∧ x.2 = s ∧ Hit p kd j x) ∨ (Has A1 N1 ((p, kv), s) ∧ ¬ Has A2 N2 ((p, kv), s)))) ∧ Hid (w9.cell? ⟨QB, 0, none⟩ = some (.string p) ∧ w9.cell? ⟨QB, 1, none⟩ = some (.int .u8 (kv : Int))) := by
                have ltR : R < w7.heap.size := by
                  rcases Array.getElem?_eq_some_iff.1 J7.out with ⟨h, _⟩
                  exact h
                refine ⟨drop A2 (M + 1) i0, M, l9, seen.push e0.n, T9, L7.out.trans L9, R7.out.trans R9, (F9 R (by omega) ltR).trans J7.out, I9, ⟨IS9, St9⟩, fun e' he' => ?_, fun x hx => HA.out x ((hasd x).1 hx).2, fun x hx hne => (hasd x).2 ⟨fun e => hne (by rw [e, hA0]), HB.out x hx hne⟩, (K7.out.keep F9).congr fun s => ?_, ?_⟩
                · obtain ⟨e, he, hek, hen'⟩ := Sub9 e' he'
                  have h1 := NS.out e he
                  have h2 : e.n ≠ e0.n := fun q => by
                    have := nodup_inj IS5.out.2.2 he he0 q
                    subst this
                    obtain ⟨i', hi', hA', _⟩ := (IS9.2 e'.k e'.v).1 (RM.get_of_mem IS9.1 he')
                    have := ((hasd _).1 ⟨i', hi', hA'⟩).1
                    rw [← hek, hA0] at this
                    exact this rfl
                  rw [← hen']
                  simp at h1 ⊢
                  exact ⟨h1, h2⟩
                · rw [hasd, hA0]
                  constructor
                  · rintro ((q | ⟨q1, q2⟩) | rfl)
                    · exact .inl q
                    · exact .inr ⟨q1, fun q => q2 q.2⟩
                    · exact .inr ⟨HA.out _ ⟨i0, hi0, hA0⟩, fun q => q.1 rfl⟩
                  · rintro (q | ⟨q1, q2⟩)
                    · exact .inl (.inl q)
                    · by_cases es : s = e0.k
                      · exact .inr es
                      · exact .inl (.inr ⟨q1, fun q => q2 ⟨fun e => es (by injection e), q⟩⟩)
                · have ltQ : QB < w7.heap.size := World.block_lt_of_cell? _ _ Q7.out.1
                  exact ⟨(cellB (F9 QB (by omega) ltQ) 0).trans Q7.out.1, (cellB (F9 QB (by omega) ltQ) 1).trans Q7.out.2⟩
              clear T9 R9 L9 I9 IS9 St9 Sub9 hasd F9
              go_wp2
              exact ⟨REL, by omega⟩
            · skip
              obtain ⟨TB, lT, cT, hu, mT, uT, stT, hT, loT⟩ := hsm
              subst hu
              have U : (Instr.mapUpdate 128 (.map (some TB)) (.pointer (some ⟨SB e0.k, 0, none⟩)) (.agg #[])).run Ybad.prog w6 = .ok () (setBlock w6 TB (.map ((RM.ins lT e0.k (.agg #[]) cT).map (RM.Ent.raw (kvS SB))).toArray (RM.insC lT e0.k cT))) := RM.run_update Ybad.underlying128 (sessKeys S6.out) mT e0.k _
              have en : ∀ w, (binOp .eql 128 (.map (some TB)) (.map none)).run Ybad.prog w = .ok (.bool false) w := eql_nil (some TB)
              have nQ : QB ≠ TB := Ne.symm (map_ne mT q0)
              have p0 : (setBlock w6 TB (.map ((RM.ins lT e0.k (.agg #[]) cT).map (RM.Ent.raw (kvS SB))).toArray (RM.insC lT e0.k cT))).cell? ⟨QB, 0, none⟩ = some (.string p) := (cellB (RM.heap_set_other _ nQ) 0).trans q0
              have p1 : (setBlock w6 TB (.map ((RM.ins lT e0.k (.agg #[]) cT).map (RM.Ent.raw (kvS SB))).toArray (RM.insC lT e0.k cT))).cell? ⟨QB, 1, none⟩ = some (.int .u8 (kv : Int)) := (cellB (RM.heap_set_other _ nQ) 1).trans q1
              have nTR : TB ≠ R := fun e => by unfold RM.IsMap at mT; rw [e, J6.out] at mT; cases mT
              go_wp2_with fail
              have K7 : Hid (Tk (setBlock w6 TB (.map ((RM.ins lT e0.k (.agg #[]) cT).map (RM.Ent.raw (kvS SB))).toArray (RM.insC lT e0.k cT))) SB w.heap.size (.map (some TB)) (fun s => ((∃ x, Has A N x ∧ x.2 = s ∧ Hit p kd j x) ∨ (Has A1 N1 ((p, kv), s) ∧ ¬ Has A2 (M + 1) ((p, kv), s))) ∨ s = e0.k)) := Tk.add mT uT stT hT loT _ _
              have F7 : ∀ j, j ≠ TB → (setBlock w6 TB (.map ((RM.ins lT e0.k (.agg #[]) cT).map (RM.Ent.raw (kvS SB))).toArray (RM.insC lT e0.k cT))).heap[j]? = w6.heap[j]? := fun j hj => RM.heap_set_other _ hj
              have R7 : Hid (Ring b1 b2 w (setBlock w6 TB (.map ((RM.ins lT e0.k (.agg #[]) cT).map (RM.Ent.raw (kvS SB))).toArray (RM.insC lT e0.k cT)))) := R6.out.new TB _ loT hb2
              have L7 : Hid (Alien X AB w (setBlock w6 TB (.map ((RM.ins lT e0.k (.agg #[]) cT).map (RM.Ent.raw (kvS SB))).toArray (RM.insC lT e0.k cT)))) := L6.out.setMap mT _
              generalize setBlock w6 TB (.map ((RM.ins lT e0.k (.agg #[]) cT).map (RM.Ent.raw (kvS SB))).toArray (RM.insC lT e0.k cT)) = w7 at K7 F7 R7 L7 ⊢
              clear U hnx hen p0 p1
              have T7 : Hid (Tbl w7 b1 b2 X BK BS AB SB IK JS ρ A2 (M + 1)) := T6.out.keep fun j hj => F7 j (by omega)
              have I7 : Hid (RM.IsMap (kvS SB) w7 (IK (p, kv)) l cI) := (F7 _ (by omega)).trans I6.out
              have J7 : Hid (w7.heap[R]? = some (.mapIter (some (IK (p, kv))) cI (seen.push e0.n) cI)) := (F7 R (Ne.symm nTR)).trans J6.out
              replace q0 := (cellB (F7 QB nQ) 0).trans q0
              replace q1 := (cellB (F7 QB nQ) 1).trans q1
              have Q7 : Hid (w7.cell? ⟨QB, 0, none⟩ = some (.string p) ∧ w7.cell? ⟨QB, 1, none⟩ = some (.int .u8 (kv : Int))) := ⟨q0, q1⟩
              clear mT uT stT hT F7 q0 q1
              have S7 : Hid (Sess w7 SB) := HS.out.ring hSB R7.out
              refine (remove b1 b2 X BK BS AB SB IK JS ρ A2 M i0 p kv e0.k l cI w7 T7.out S7.out hSB hi0 hA0 I7.out).mono ?_
              rintro e w9 ⟨rfl, T9, R9, L9, l9, I9, IS9, St9, Sub9⟩
              have hasd : ∀ x, Has (drop A2 (M + 1) i0) M x ↔ x ≠ A2 i0 ∧ Has A2 (M + 1) x := fun x => drop_has T7.out.inj hi0 x
              have tl := T9.tlen
              have F9 : ∀ j, w.heap.size ≤ j → j < w7.heap.size → w9.heap[j]? = w7.heap[j]? := fun j h1 h2 => R9.block j h2 (.inr (by omega))
              have REL : ∃ (A2 : Nat → Wt) (N2 : Nat) (l : List (RM.Ent (Fin 4))) (seen : Array Nat), Hid (Tbl w9 b1 b2 X BK BS AB SB IK JS ρ A2 N2) ∧ Hid (Alien X AB w w9) ∧ Hid (Ring b1 b2 w w9) ∧ Hid (w9.heap[R]? = some (.mapIter (some (IK (p, kv))) cI seen cI)) ∧ Hid (RM.IsMap (kvS SB) w9 (IK (p, kv)) l cI) ∧ Hid (ISpec A2 N2 (p, kv) l ∧ RM.Stamps l cI) ∧ Hid (∀ e ∈ l, seen.contains e.n = false) ∧
                  Hid (∀ x, Has A2 N2 x → Has A1 N1 x) ∧ Hid (∀ x, Has A1 N1 x → x.1 ≠ (p, kv) → Has A2 N2 x) ∧ Hid (Tk w9 SB w.heap.size (.map (some TB)) (fun s => (∃ x, Has A N x ∧ x.2 = s ∧ Hit p kd j x) ∨ (Has A1 N1 ((p, kv), s) ∧ ¬ Has A2 N2 ((p, kv), s)))) ∧ Hid (w9.cell? ⟨QB, 0, none⟩ = some (.string p) ∧ w9.cell? ⟨QB, 1, none⟩ = some (.int .u8 (kv : Int))) := by
                have ltR : R < w7.heap.size := by
                  rcases Array.getElem?_eq_some_iff.1 J7.out with ⟨h, _⟩
                  exact h
                refine ⟨drop A2 (M + 1) i0, M, l9, seen.push e0.n, T9, L7.out.trans L9, R7.out.trans R9, (F9 R (by omega) ltR).trans J7.out, I9, ⟨IS9, St9⟩, fun e' he' => ?_, fun x hx => HA.out x ((hasd x).1 hx).2, fun x hx hne => (hasd x).2 ⟨fun e => hne (by rw [e, hA0]), HB.out x hx hne⟩, (K7.out.keep F9).congr fun s => ?_, ?_⟩
                · obtain ⟨e, he, hek, hen'⟩ := Sub9 e' he'
                  have h1 := NS.out e he
                  have h2 : e.n ≠ e0.n := fun q => by
                    have := nodup_inj IS5.out.2.2 he he0 q
                    subst this
                    obtain ⟨i', hi', hA', _⟩ := (IS9.2 e'.k e'.v).1 (RM.get_of_mem IS9.1 he')
                    have := ((hasd _).1 ⟨i', hi', hA'⟩).1
                    rw [← hek, hA0] at this
                    exact this rfl
                  rw [← hen']
                  simp at h1 ⊢
                  exact ⟨h1, h2⟩
                · rw [hasd, hA0]
                  constructor
                  · rintro ((q | ⟨q1, q2⟩) | rfl)
                    · exact .inl q
                    · exact .inr ⟨q1, fun q => q2 q.2⟩
                    · exact .inr ⟨HA.out _ ⟨i0, hi0, hA0⟩, fun q => q.1 rfl⟩
                  · rintro (q | ⟨q1, q2⟩)
                    · exact .inl (.inl q)
                    · by_cases es : s = e0.k
                      · exact .inr es
                      · exact .inl (.inr ⟨q1, fun q => q2 ⟨fun e => es (by injection e), q⟩⟩)
                · have ltQ : QB < w7.heap.size := World.block_lt_of_cell? _ _ Q7.out.1
                  exact ⟨(cellB (F9 QB (by omega) ltQ) 0).trans Q7.out.1, (cellB (F9 QB (by omega) ltQ) 1).trans Q7.out.2⟩
              clear T9 R9 L9 I9 IS9 St9 Sub9 hasd F9
              go_wp2
              exact ⟨REL, by omega⟩
      · have L6 : ∀ n, (Instr.lookup 64 (.map (some BK)) (.agg #[.string p, .int .u8 (kv : Int)]) false).run Ybad.prog (w2.drewN n) = .ok (.map none) (w2.drewN n) := fun n => by
          obtain ⟨l, c, hm, hs⟩ := T2.out.mK
          have := RM.run_lookup Ybad.underlying64 (watchKeys (w2.drewN n)) (w := w2.drewN n) hm (zero63 _) (p, kv)
          rw [get_none_of (fun v q => hp ((hs.2 (p, kv) v).1 q).1)] at this
          exact this
        have G6 : ∀ n, (Instr.range 63 (.map none)).run Ybad.prog (w2.drewN n) = .ok (.pointer (some ⟨w2.heap.size, 0, none⟩)) ((w2.drewN n).alloc (.mapIter none 0 #[] 0)) := fun n => run_range_nilMap (P := Ybad.prog) (w2.drewN n) 63 25 3 Ybad.underlying63
        refine wp_region_last (l := [_, _, _, _, _, _]) (o := _) rfl (by kernel_rfl) (by kernel_rfl) (by kernel_rfl) (by kernel_rfl) (by kernel_rfl) ?_
        repeat (go_big_quiet_step (fail))
        refine wpQuiet_nil ?_
        rintro _ ⟨nq, rfl⟩
        go_simp
        have NX : ∀ ty, (Instr.next (.pointer (some ⟨w2.heap.size, 0, none⟩)) false ty).run Ybad.prog ((w2.drewN nq).alloc (.mapIter none 0 #[] 0)) = .ok (.tuple #[.bool false]) ((w2.drewN nq).alloc (.mapIter none 0 #[] 0)) := fun ty => run_next_nilMap (P := Ybad.prog) (w2.drewN nq) ty 0 0 #[]
        have HB3 : Hid (Below w2.heap.size w2 ((w2.drewN nq).alloc (.mapIter none 0 #[] 0))) := ⟨rfl, rfl, rfl, by simp, fun j hj => Below.heap_alloc (w2.drewN nq) _ j hj⟩
        generalize (w2.drewN nq).alloc (.mapIter none 0 #[] 0) = w3 at NX HB3 ⊢
        have T3 : Hid (Tbl w3 b1 b2 X BK BS AB SB IK JS ρ A1 N1) := T2.out.below HB3.out
        have R3 : Hid (Ring b1 b2 w w3) := R2.out.trans (Ring.of_below HB3.out)
        have L3 : Hid (Alien X AB w w3) := L2.out.trans (Alien.of_below HB3.out)
        have K3 : Hid (Tk w3 SB w.heap.size u7 (fun s => ∃ x, Has A N x ∧ x.2 = s ∧ Hit p kd j x)) := K2.out.keep fun j _ hj => HB3.out.block j hj
        generalize w2.heap.size = R at NX ⊢
        clear L6 G6 HB3 T2 R2 K2 L2 S2 g0 q0 q1
        go_wp2_with fail
        go_loopw [7] (fun v wr => v = u7 ∧ wr = w3) (fun _ _ => 0)
        case atStart => exact ⟨rfl, rfl⟩
        case round =>
          obtain ⟨rfl, rfl⟩ := hrel
          have hnh : ∀ x, Has A N x → Hit p kd (j + 1) x → Hit p kd j x := fun x hx ⟨hp1, t, ht, hkt⟩ => by
            by_cases et : t = j
            · subst et
              apply Classical.byContradiction
              intro q
              obtain ⟨i, hi, e⟩ := (H1.out x).2 ⟨hx, q⟩
              refine hp ⟨i, hi, ?_⟩
              rw [e]
              exact Prod.ext hp1 (by rw [← hkt]; exact hkv.out.symm)
            · exact ⟨hp1, t, by omega, hkt⟩
          have hup : ∀ x, Hit p kd j x → Hit p kd (j + 1) x := fun x ⟨hp1, t, ht, hkt⟩ => ⟨hp1, t, by omega, hkt⟩
          have RES : ∃ (A' : Nat → Wt) (N' : Nat), Hid (∀ x, Has A' N' x ↔ Has A N x ∧ ¬ Hit p kd (j + 1) x) ∧ A' = A1 ∧ N' = N1 := ⟨A1, N1, fun x => ⟨fun hx => ⟨((H1.out x).1 hx).1, fun q => ((H1.out x).1 hx).2 (hnh x ((H1.out x).1 hx).1 q)⟩, fun hx => (H1.out x).2 ⟨hx.1, fun q => hx.2 (hup x q)⟩⟩, rfl, rfl⟩
          obtain ⟨_, _, H9, rfl, rfl⟩ := RES
          have K9 : Hid (∀ s, (∃ x, Has A N x ∧ x.2 = s ∧ Hit p kd j x) ↔ (∃ x, Has A N x ∧ x.2 = s ∧ Hit p kd (j + 1) x)) := fun s => ⟨fun ⟨x, h1, h2, h3⟩ => ⟨x, h1, h2, hup x h3⟩, fun ⟨x, h1, h2, h3⟩ => ⟨x, h1, h2, hnh x h1 h3⟩⟩
          clear hnh hup hp
          go_wp2
          exact ⟨⟨j + 1, _, _, hlt, rfl, T3, H9, K3.out.congr K9.out, R3, L3⟩, by simp [intOf]; omega⟩
    · obtain rfl : j = n := by omega
      go_wp2
      go_ret
      exact ⟨_, A1, N1, rfl, T1.out, H1.out, K1.out, R1.out, L1.out⟩
end Go.Proofs.YbulkcrxoDoor.F
