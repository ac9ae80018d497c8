/-
  LawS4681AFires, LawS4681BFire: how the watch table lies in memory; small words for regions that draw their order.
-/
import Derived.Test.YbulkcrxoDoorFTbl
import Derived.Deep.MidRow
set_option linter.unusedVariables false
namespace Go.Proofs.YbulkcrxoDoor.F
open Go.RowKit
open Go.ChangeMaps (setBlock)

/-- Listed. -/
def On (l : Array Bool) (j : Nat) : Prop := l.getD j false = true
theorem On.of_set {l : Array Bool} {i j : Nat} (h : On (l.setIfInBounds i true) j) (hne : i ≠ j) : On l j := by
  unfold On at *
  rwa [getD_set_ne _ hne] at h
theorem On.set {l : Array Bool} {j : Nat} (i : Nat) (h : On l j) : On (l.setIfInBounds i true) j := getD_set_true h
theorem on_set {l : Array Bool} {i : Nat} (h : i < l.size) : On (l.setIfInBounds i true) i := Go.Any.getD_set_same false h
theorem not_on {j k : Nat} (h : On (Array.replicate j false) k) : False := by
  unfold On at h
  by_cases hk : k < j <;> simp [Array.getD, hk] at h
theorem off {l : Array Bool} {i : Nat} (h : l.getD i true = false) (k : On l i) : False := by
  unfold On at k
  by_cases hi : i < l.size <;> simp [Array.getD, hi] at h k
  rw [h] at k; cases k

theorem alloc_new (w : World) (c : Array Value) (e : TypeId) (j : Nat) : (w.alloc (.cells c e)).cell? ⟨w.heap.size, j, none⟩ = c[j]? := by
  have h : (w.alloc (.cells c e)).heap[w.heap.size]? = some (.cells c e) := heap_alloc_new w _
  simp only [World.cell?, h]
  rfl
theorem alloc_fro (w : World) (c : Array Value) (e : TypeId) (j : Nat) : (w.alloc (.cells c e)).frozen? ⟨w.heap.size, j, none⟩ = false := by
  have h : (w.alloc (.cells c e)).heap[w.heap.size]? = some (.cells c e) := heap_alloc_new w _
  simp only [World.frozen?, h]
  simp
theorem there_set {w : World} {b n : Nat} (h : w.there b 0 n) (p : Addr) (v : Value) : (w.setCell p v).there b 0 n := fun j hj => by
  obtain ⟨h1, h2⟩ := h j hj
  refine ⟨?_, by simpa using h2⟩
  by_cases he : p = ⟨b, 0 + j, none⟩
  · subst he
    rw [World.cell?_setCell_same' _ _ _ h1]
    rfl
  · rw [World.cell?_setCell_other _ _ _ _ he]
    exact h1
theorem there_sets {w : World} {b n : Nat} (h : w.there b 0 n) (B : Nat) : ∀ (vs : List Value) (o : Nat), (w.setCells B o vs).there b 0 n
  | [], _ => h
  | v :: r, o => there_sets (w := w.setCell ⟨B, o, none⟩ v) (there_set h _ _) B r (o + 1)
theorem sets_size {w : World} (B : Nat) : ∀ (vs : List Value) (o : Nat), (w.setCells B o vs).heap.size = w.heap.size
  | [], _ => rfl
  | v :: r, o => (sets_size (w := w.setCell ⟨B, o, none⟩ v) B r (o + 1)).trans (by simp)
theorem sets_below {w a : World} {h0 : Nat} (h : Below h0 a w) {B : Nat} (hB : h0 ≤ B) : ∀ (vs : List Value) (o : Nat), Below h0 a (w.setCells B o vs)
  | [], _ => h
  | v :: r, o => sets_below (w := w.setCell ⟨B, o, none⟩ v) (h.setCell hB _) hB r (o + 1)
theorem there70 {w w1 : World} (h : w.heap.size = w1.heap.size) : (w.alloc (.cells #[.string ⟨#[]⟩, .int .u8 0, .pointer none] 70)).there w1.heap.size 0 3 := fun j hj => by
  rw [← h, alloc_new, alloc_fro]
  match j, hj with
  | 0, _ => exact ⟨rfl, rfl⟩
  | 1, _ => exact ⟨rfl, rfl⟩
  | 2, _ => exact ⟨rfl, rfl⟩

inductive Role
  | bk
  | bs
  | ik (k : Key)
  | js (s : Fin 4)

/-- How the watch table lies in memory: all its blocks between b1 and b2. -/
structure Tbl (w : World) (b1 b2 X BK BS AB : Nat) (SB : Fin 4 → Nat) (IK : Key → Nat) (JS : Fin 4 → Nat) (ρ : Nat → Role) (A : Nat → Wt) (N : Nat) : Prop where
  c0 : w.cell? ⟨X, 0, none⟩ = some (.map (some BK))
  c1 : w.cell? ⟨X, 1, none⟩ = some (.map (some BS))
  c2 : ∃ ao cap, w.cell? ⟨X, 2, none⟩ = some (.slice ao N cap) ∧ N ≤ cap ∧ (0 < N → ao = some ⟨AB, 0, none⟩)
  fX : w.frozen? ⟨X, 2, none⟩ = false
  inj : Inj A N
  ce : ∀ i, i < N → w.cell? ⟨AB, i * 3, none⟩ = some (.string (A i).1.1) ∧ w.cell? ⟨AB, i * 3 + 1, none⟩ = some (.int .u8 ((A i).1.2 : Int)) ∧ w.cell? ⟨AB, i * 3 + 2, none⟩ = some (kvS SB (A i).2)
  fA : ∀ j, 0 < N → w.frozen? ⟨AB, j, none⟩ = false
  mK : ∃ l c, RM.IsMap kvK w BK l c ∧ KSpec A N IK l
  mI : ∀ i, i < N → ∃ l c, RM.IsMap (kvS SB) w (IK (A i).1) l c ∧ ISpec A N (A i).1 l ∧ RM.Stamps l c
  mS : ∃ l c, RM.IsMap (kvS SB) w BS l c ∧ SSpec A N JS l
  mJ : ∀ i, i < N → ∃ l c, RM.IsMap kvK w (JS (A i).2) l c ∧ JSpec A N (A i).2 l
  rK : ρ BK = .bk
  rS : ρ BS = .bs
  rI : ∀ i, i < N → ρ (IK (A i).1) = .ik (A i).1
  rJ : ∀ i, i < N → ρ (JS (A i).2) = .js (A i).2
  XA : X ≠ AB
  zX : b1 ≤ X ∧ X < b2
  zK : b1 ≤ BK ∧ BK < b2
  zS : b1 ≤ BS ∧ BS < b2
  zA : 0 < N → b1 ≤ AB ∧ AB < b2
  zI : ∀ i, i < N → b1 ≤ IK (A i).1 ∧ IK (A i).1 < b2
  zJ : ∀ i, i < N → b1 ≤ JS (A i).2 ∧ JS (A i).2 < b2
  bN : N ≤ 4096

/-- Of the old blocks none outside [b1, b2) has turned. -/
structure Ring (b1 b2 : Nat) (w w' : World) : Prop where
  os : w'.os = w.os
  tape : w'.tape = w.tape
  output : w'.output = w.output
  size : w.heap.size ≤ w'.heap.size
  block : ∀ j, j < w.heap.size → (j < b1 ∨ b2 ≤ j) → w'.heap[j]? = w.heap[j]?
theorem Ring.refl (b1 b2 : Nat) (w : World) : Ring b1 b2 w w := ⟨rfl, rfl, rfl, Nat.le_refl _, fun _ _ _ => rfl⟩
theorem Ring.trans {b1 b2 : Nat} {a b c : World} (h : Ring b1 b2 a b) (k : Ring b1 b2 b c) : Ring b1 b2 a c :=
  ⟨k.os.trans h.os, k.tape.trans h.tape, k.output.trans h.output, Nat.le_trans h.size k.size, fun j h1 h2 => (k.block j (Nat.lt_of_lt_of_le h1 h.size) h2).trans (h.block j h1 h2)⟩
theorem Ring.of_below {b1 b2 : Nat} {a b : World} (h : Below a.heap.size a b) : Ring b1 b2 a b := ⟨h.os, h.tape, h.output, h.size, fun j h1 _ => h.block j h1⟩
theorem Ring.of_below' {b1 b2 : Nat} {a b : World} (h : Below a.heap.size a b) : Ring b1 b2 a b := Ring.of_below h
theorem Ring.drewN {b1 b2 : Nat} {a b : World} (h : Ring b1 b2 a b) (n : Nat) : Ring b1 b2 a (b.drewN n) := ⟨h.os, h.tape, h.output, h.size, h.block⟩
theorem Ring.setCell {b1 b2 : Nat} {a b : World} (h : Ring b1 b2 a b) (p : Addr) (v : Value) (hp : b1 ≤ p.block ∧ p.block < b2) : Ring b1 b2 a (b.setCell p v) :=
  ⟨h.os, h.tape, h.output, by simpa using h.size, fun j h1 h2 => (Below.heap_setCell _ _ _ _ (by omega)).trans (h.block j h1 h2)⟩
theorem Ring.setBlock {b1 b2 : Nat} {a b : World} (h : Ring b1 b2 a b) (B : Nat) (o : Obj) (hp : b1 ≤ B ∧ B < b2) : Ring b1 b2 a (setBlock b B o) :=
  ⟨h.os, h.tape, h.output, by simpa [Go.ChangeMaps.setBlock] using h.size, fun j h1 h2 => (RM.heap_set_other _ (by omega)).trans (h.block j h1 h2)⟩

theorem Sess.ring {b1 b2 : Nat} {w w' : World} {SB : Fin 4 → Nat} (h : Sess w SB) (hs : ∀ i, SB i < b1) (r : Ring b1 b2 w w') : Sess w' SB :=
  ⟨fun i => by
    obtain ⟨c, t, e⟩ := h.blk i
    have hlt : SB i < w.heap.size := by
      rcases Array.getElem?_eq_some_iff.1 e with ⟨h, _⟩
      exact h
    exact ⟨c, t, (r.block _ hlt (.inl (hs i))).trans e⟩, h.inj⟩
theorem Sess.below {w w' : World} {SB : Fin 4 → Nat} (h : Sess w SB) (r : Below w.heap.size w w') : Sess w' SB :=
  ⟨fun i => by
    obtain ⟨c, t, e⟩ := h.blk i
    have hlt : SB i < w.heap.size := by
      rcases Array.getElem?_eq_some_iff.1 e with ⟨h, _⟩
      exact h
    exact ⟨c, t, (r.block _ hlt).trans e⟩, h.inj⟩
theorem IsMap.lt {κ : Type} [DecidableEq κ] {kv : κ → Value} {w : World} {b : Nat} {l : List (RM.Ent κ)} {c : Nat} (h : RM.IsMap kv w b l c) : b < w.heap.size := by
  rcases Array.getElem?_eq_some_iff.1 h with ⟨h, _⟩
  exact h

theorem isMap_inj {w : World} {SB : Fin 4 → Nat} (hS : ∀ i j, SB i = SB j → i = j) {b : Nat} {l l' : List (RM.Ent (Fin 4))} {c c' : Nat} (h : RM.IsMap (kvS SB) w b l c) (h' : RM.IsMap (kvS SB) w b l' c') : l = l' ∧ c = c' := by
  unfold RM.IsMap at h h'
  rw [h] at h'
  injection h' with h'
  injection h' with h1 h2
  refine ⟨RM.raw_inj (kv := kvS SB) (hk := fun a b q => hS a b (by unfold kvS at q; injection q with q; injection q with q; injection q)) ?_, h2⟩
  injection h1

theorem insC_some {κ : Type} [DecidableEq κ] {l : List (RM.Ent κ)} {k : κ} {c : Nat} {v : Value} (h : RM.get l k = some v) : RM.insC l k c = c := by
  unfold RM.insC
  cases hi : RM.idx l k with
  | none => rw [RM.idx_none.1 hi] at h; cases h
  | some i => rfl
/-- What an entry was before. -/
theorem mem_ins {κ : Type} [DecidableEq κ] {l : List (RM.Ent κ)} {k : κ} {c : Nat} {v u : Value} (h : RM.get l k = some u) {e : RM.Ent κ} (he : e ∈ RM.ins l k v c) : ∃ e' ∈ l, e'.k = e.k ∧ e'.n = e.n := by
  unfold RM.ins at he
  cases hi : RM.idx l k with
  | none => rw [RM.idx_none.1 hi] at h; cases h
  | some i =>
    rw [hi] at he
    simp only at he
    obtain ⟨j, hj, rfl⟩ := List.mem_iff_getElem.1 he
    have hj' : j < l.length := by simpa using hj
    refine ⟨l[j], List.getElem_mem hj', ?_, ?_⟩
    · rw [List.getElem_modify]; split <;> rfl
    · rw [List.getElem_modify]; split <;> rfl
theorem mem_del' {κ : Type} [DecidableEq κ] {l : List (RM.Ent κ)} {k : κ} {e : RM.Ent κ} (he : e ∈ RM.del l k) : e ∈ l := by
  unfold RM.del at he
  cases hi : RM.idx l k with
  | none => rw [hi] at he; exact he
  | some i => rw [hi] at he; exact (List.eraseIdx_sublist l i).subset he
theorem cellB {w w' : World} {B : Nat} (h : w'.heap[B]? = w.heap[B]?) (o : Nat) : w'.cell? ⟨B, o, none⟩ = w.cell? ⟨B, o, none⟩ := World.cell?_of_block (w := w) (a := ⟨B, o, none⟩) h
theorem map_ne {κ : Type} [DecidableEq κ] {kv : κ → Value} {w : World} {b B o : Nat} {l : List (RM.Ent κ)} {c : Nat} {v : Value} (h : RM.IsMap kv w b l c) (k : w.cell? ⟨B, o, none⟩ = some v) : b ≠ B := by
  intro e
  subst e
  unfold RM.IsMap at h
  simp [World.cell?, h] at k

/-- The table is still there when none of the old blocks has turned. -/
theorem Tbl.below {w w' : World} {b1 b2 X BK BS AB : Nat} {SB : Fin 4 → Nat} {IK : Key → Nat} {JS : Fin 4 → Nat} {ρ : Nat → Role} {A : Nat → Wt} {N : Nat} (h : Tbl w b1 b2 X BK BS AB SB IK JS ρ A N) (k : Below w.heap.size w w') : Tbl w' b1 b2 X BK BS AB SB IK JS ρ A N := by
  have sX : X < w.heap.size := World.block_lt_of_cell? _ _ h.c0
  have sA : ∀ i, i < N → AB < w.heap.size := fun i hi => World.block_lt_of_cell? _ _ (h.ce i hi).1
  refine ⟨(k.cell (p := ⟨X, 0, none⟩) sX).trans h.c0, (k.cell (p := ⟨X, 1, none⟩) sX).trans h.c1, ?_, (k.frozen (p := ⟨X, 2, none⟩) sX).trans h.fX, h.inj, fun i hi => ?_, fun j hN => (k.frozen (p := ⟨AB, j, none⟩) (sA 0 hN)).trans (h.fA j hN), ?_, fun i hi => ?_, ?_, fun i hi => ?_, h.rK, h.rS, h.rI, h.rJ, h.XA, h.zX, h.zK, h.zS, h.zA, h.zI, h.zJ, h.bN⟩
  · obtain ⟨ao, cap, h1, h2⟩ := h.c2
    exact ⟨ao, cap, (k.cell (p := ⟨X, 2, none⟩) sX).trans h1, h2⟩
  · obtain ⟨h1, h2, h3⟩ := h.ce i hi
    exact ⟨(k.cell (p := ⟨AB, i * 3, none⟩) (sA i hi)).trans h1, (k.cell (p := ⟨AB, i * 3 + 1, none⟩) (sA i hi)).trans h2, (k.cell (p := ⟨AB, i * 3 + 2, none⟩) (sA i hi)).trans h3⟩
  · obtain ⟨l, c, h1, h2⟩ := h.mK
    exact ⟨l, c, (k.block _ (IsMap.lt h1)).trans h1, h2⟩
  · obtain ⟨l, c, h1, h2⟩ := h.mI i hi
    exact ⟨l, c, (k.block _ (IsMap.lt h1)).trans h1, h2⟩
  · obtain ⟨l, c, h1, h2⟩ := h.mS
    exact ⟨l, c, (k.block _ (IsMap.lt h1)).trans h1, h2⟩
  · obtain ⟨l, c, h1, h2⟩ := h.mJ i hi
    exact ⟨l, c, (k.block _ (IsMap.lt h1)).trans h1, h2⟩

theorem zero63 (w : World) : (zeroValue 63).run Ybad.prog w = .ok (.map none) w := by kernel_rfl
theorem zero3 (w : World) : (zeroValue 3).run Ybad.prog w = .ok (.int .i64 0) w := by kernel_rfl
theorem zero71 (w : World) : (zeroValue 71).run Ybad.prog w = .ok (.map none) w := by kernel_rfl
theorem zero36 (w : World) : (zeroValue 36).run Ybad.prog w = .ok (.agg #[]) w := by kernel_rfl

/-- The watches' cells. -/
def Ce (w : World) (AB : Nat) (SB : Fin 4 → Nat) (A : Nat → Wt) (N : Nat) : Prop := ∀ i, i < N → w.cell? ⟨AB, i * 3, none⟩ = some (.string (A i).1.1) ∧ w.cell? ⟨AB, i * 3 + 1, none⟩ = some (.int .u8 ((A i).1.2 : Int)) ∧ w.cell? ⟨AB, i * 3 + 2, none⟩ = some (kvS SB (A i).2)

theorem Ce.put {w : World} {AB : Nat} {SB : Fin 4 → Nat} {A : Nat → Wt} {N : Nat} (h : Ce w AB SB A N) {i : Nat} (hi : i < N) (q : ByteArray) (d : Nat) (s : Fin 4) :
    Ce (((w.setCell ⟨AB, i * 3, none⟩ (.string q)).setCell ⟨AB, i * 3 + 1, none⟩ (.int .u8 (d : Int))).setCell ⟨AB, i * 3 + 2, none⟩ (.pointer (some ⟨SB s, 0, none⟩))) AB SB (fun j => if j = i then ((q, d), s) else A j) N := by
  intro j hj
  obtain ⟨x0, x1, x2⟩ := h i hi
  have e1 : (w.setCell ⟨AB, i * 3, none⟩ (.string q)).cell? ⟨AB, i * 3 + 1, none⟩ = some (.int .u8 ((A i).1.2 : Int)) := by
    rw [World.cell?_setCell_other _ _ _ _ (by intro h; injection h; omega)]; exact x1
  have e2 : ((w.setCell ⟨AB, i * 3, none⟩ (.string q)).setCell ⟨AB, i * 3 + 1, none⟩ (.int .u8 (d : Int))).cell? ⟨AB, i * 3 + 2, none⟩ = some (kvS SB (A i).2) := by
    rw [World.cell?_setCell_other _ _ _ _ (by intro h; injection h; omega), World.cell?_setCell_other _ _ _ _ (by intro h; injection h; omega)]; exact x2
  by_cases e : j = i
  · subst e
    simp only [if_true]
    refine ⟨?_, ?_, World.cell?_setCell_same _ _ _ e2⟩
    · rw [World.cell?_setCell_other _ _ _ _ (by intro h; injection h; omega), World.cell?_setCell_other _ _ _ _ (by intro h; injection h; omega)]
      exact World.cell?_setCell_same _ _ _ x0
    · rw [World.cell?_setCell_other _ _ _ _ (by intro h; injection h; omega)]
      exact World.cell?_setCell_same _ _ _ e1
  · simp only [if_neg e]
    obtain ⟨y0, y1, y2⟩ := h j hj
    refine ⟨?_, ?_, ?_⟩
    · rw [World.cell?_setCell_other _ _ _ _ (by intro h; injection h; omega), World.cell?_setCell_other _ _ _ _ (by intro h; injection h; omega), World.cell?_setCell_other _ _ _ _ (by intro h; injection h; omega)]; exact y0
    · rw [World.cell?_setCell_other _ _ _ _ (by intro h; injection h; omega), World.cell?_setCell_other _ _ _ _ (by intro h; injection h; omega), World.cell?_setCell_other _ _ _ _ (by intro h; injection h; omega)]; exact y1
    · rw [World.cell?_setCell_other _ _ _ _ (by intro h; injection h; omega), World.cell?_setCell_other _ _ _ _ (by intro h; injection h; omega), World.cell?_setCell_other _ _ _ _ (by intro h; injection h; omega)]; exact y2
/-- A write behind them. -/
theorem Ce.past {w : World} {AB : Nat} {SB : Fin 4 → Nat} {A : Nat → Wt} {N : Nat} (h : Ce w AB SB A N) (o : Nat) (ho : N * 3 ≤ o) (v : Value) : Ce (w.setCell ⟨AB, o, none⟩ v) AB SB A N := by
  intro j hj
  obtain ⟨y0, y1, y2⟩ := h j hj
  refine ⟨?_, ?_, ?_⟩
  · rw [World.cell?_setCell_other _ _ _ _ (by intro h; injection h; omega)]; exact y0
  · rw [World.cell?_setCell_other _ _ _ _ (by intro h; injection h; omega)]; exact y1
  · rw [World.cell?_setCell_other _ _ _ _ (by intro h; injection h; omega)]; exact y2
theorem Ce.block {w w' : World} {AB : Nat} {SB : Fin 4 → Nat} {A : Nat → Wt} {N : Nat} (h : Ce w AB SB A N) (hb : w'.heap[AB]? = w.heap[AB]?) : Ce w' AB SB A N := by
  intro j hj
  obtain ⟨y0, y1, y2⟩ := h j hj
  exact ⟨(World.cell?_of_block (w := w) hb).trans y0, (World.cell?_of_block (w := w) hb).trans y1, (World.cell?_of_block (w := w) hb).trans y2⟩
theorem Ce.less {w : World} {AB : Nat} {SB : Fin 4 → Nat} {A : Nat → Wt} {N N' : Nat} (h : Ce w AB SB A N) (hN : N' ≤ N) : Ce w AB SB A N' := fun i hi => h i (by omega)
end Go.Proofs.YbulkcrxoDoor.F
