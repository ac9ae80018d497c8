/-
  LawS4681AFires: the state while the law places the watches.
-/
import Derived.Test.YbulkcrxoDoorFSes
set_option linter.unusedVariables false
namespace Go.Proofs.YbulkcrxoDoor.F
open Go.RowKit Go.Any
open Go.ChangeMaps (setBlock)

/-- The drawn watches, cell by cell. -/
structure Ws (w : World) (a : Option Addr) (n : Nat) (p q r : Nat → Nat) : Prop where
  c : ∀ j, j < n → ∃ b off, a = some ⟨b, off, none⟩ ∧ w.cell? ⟨b, off + j * 3, none⟩ = some (.int .u8 (p j)) ∧ w.cell? ⟨b, off + j * 3 + 1, none⟩ = some (.int .u8 (q j)) ∧ w.cell? ⟨b, off + j * 3 + 2, none⟩ = some (.int .u8 (r j))
  p : ∀ j, p j < 256
  q : ∀ j, q j < 256
  r : ∀ j, r j < 256
structure Ks (w : World) (a : Option Addr) (n : Nat) (p : Nat → Nat) : Prop where
  c : ∀ j, j < n → ∃ b off, a = some ⟨b, off, none⟩ ∧ w.cell? ⟨b, off + j, none⟩ = some (.int .u8 (p j))
  p : ∀ j, p j < 256

/-- N watches are placed. -/
structure Bd (wt w : World) (T : Nat) (al lv : Value) (SB : Fin 4 → Nat) (IK : Key → Nat) (JS : Fin 4 → Nat) (ρ : Nat → Role) (A : Nat → Wt) (N : Nat) : Prop where
  bel : Below T wt w
  tk : TK w T T SB IK ρ A N
  ts : TS w T (T + 1) SB JS ρ A N
  tx : TX w (T + 2) T (T + 1) al SB A N
  inj : Inj A N
  lst : w.ownsRow (T + 3) 73 3 lv N (ll A N)

def w0K : Wt := ((⟨#[]⟩, 0), 0)
def A0 : Nat → Wt := fun _ => w0K
def ρ0 (T : Nat) : Nat → Role := fun b => if b = T then .bk else .bs

theorem Bd.start (w : World) (SB : Fin 4 → Nat) : Bd w (((w.alloc (.map #[] 0)).alloc (.map #[] 0)).alloc (.cells #[.map (some w.heap.size), .map (some (w.heap.size + 1)), .slice none 0 0] 68)) w.heap.size (.slice none 0 0) (.slice none 0 0) SB (fun _ => 0) (fun _ => 0) (ρ0 w.heap.size) A0 0 := by
  have e1 : (w.alloc (.map #[] 0)).heap.size = w.heap.size + 1 := by simp
  have e2 : ((w.alloc (.map #[] 0)).alloc (.map #[] 0)).heap.size = w.heap.size + 2 := by simp
  have b0 : (((w.alloc (.map #[] 0)).alloc (.map #[] 0)).alloc (.cells #[.map (some w.heap.size), .map (some (w.heap.size + 1)), .slice none 0 0] 68)).heap[w.heap.size]? = some (.map #[] 0) := by
    rw [Below.heap_alloc _ _ _ (by omega), Below.heap_alloc _ _ _ (by omega)]
    exact heap_alloc_new w _
  have b1 : (((w.alloc (.map #[] 0)).alloc (.map #[] 0)).alloc (.cells #[.map (some w.heap.size), .map (some (w.heap.size + 1)), .slice none 0 0] 68)).heap[w.heap.size + 1]? = some (.map #[] 0) := by
    rw [Below.heap_alloc _ _ _ (by omega), ← e1]
    exact heap_alloc_new _ _
  have b2 : (((w.alloc (.map #[] 0)).alloc (.map #[] 0)).alloc (.cells #[.map (some w.heap.size), .map (some (w.heap.size + 1)), .slice none 0 0] 68)).heap[w.heap.size + 2]? = some (.cells #[.map (some w.heap.size), .map (some (w.heap.size + 1)), .slice none 0 0] 68) := by
    rw [← e2]
    exact heap_alloc_new _ _
  refine ⟨(((Below.refl _ _).alloc (Nat.le_refl _) _).alloc (by omega) _).alloc (by omega) _, ⟨⟨[], 0, b0, List.nodup_nil, fun q v => ?_⟩, fun q hq => ?_, by simp [ρ0], fun q hq => ?_, fun q hq => ?_⟩, ⟨⟨[], 0, b1, List.nodup_nil, fun q v => ?_⟩, fun q hq => ?_, by simp [ρ0], fun q hq => ?_, fun q hq => ?_⟩, ⟨by simp only [World.cell?, b2]; rfl, by simp only [World.cell?, b2]; rfl, by simp only [World.cell?, b2]; rfl, ⟨_, _, b2⟩, ⟨rfl, .inl ⟨rfl, rfl⟩⟩⟩, fun i j hi => absurd hi (Nat.not_lt_zero _), rfl, .inl ⟨rfl, rfl⟩⟩
  · constructor
    · intro h; cases h
    · rintro ⟨⟨i, hi, _⟩, _⟩; exact absurd hi (Nat.not_lt_zero _)
  · obtain ⟨i, hi, _⟩ := hq; exact absurd hi (Nat.not_lt_zero _)
  · obtain ⟨i, hi, _⟩ := hq; exact absurd hi (Nat.not_lt_zero _)
  · obtain ⟨i, hi, _⟩ := hq; exact absurd hi (Nat.not_lt_zero _)
  · constructor
    · intro h; cases h
    · rintro ⟨⟨i, hi, _⟩, _⟩; exact absurd hi (Nat.not_lt_zero _)
  · obtain ⟨i, hi, _⟩ := hq; exact absurd hi (Nat.not_lt_zero _)
  · obtain ⟨i, hi, _⟩ := hq; exact absurd hi (Nat.not_lt_zero _)
  · obtain ⟨i, hi, _⟩ := hq; exact absurd hi (Nat.not_lt_zero _)

/-- None of the old blocks has turned. -/
theorem Bd.below {wt w w' : World} {T : Nat} {al lv : Value} {SB : Fin 4 → Nat} {IK : Key → Nat} {JS : Fin 4 → Nat} {ρ : Nat → Role} {A : Nat → Wt} {N : Nat} (h : Bd wt w T al lv SB IK JS ρ A N) (k : Below w.heap.size w w') : Bd wt w' T al lv SB IK JS ρ A N := by
  have kc : KeepC w w' := fun j c t f e => (k.block j (by rcases Array.getElem?_eq_some_iff.1 e with ⟨h, _⟩; exact h)).trans e
  have km : KeepM w w' := fun j c t e => (k.block j (by rcases Array.getElem?_eq_some_iff.1 e with ⟨h, _⟩; exact h)).trans e
  have lT : T ≤ w.heap.size := by
    have : T + 2 < w.heap.size := World.block_lt_of_cell? _ _ h.tx.c0
    omega
  exact ⟨h.bel.trans (k.mono lT), h.tk.keep km.k, h.ts.keep km.s, h.tx.keep kc, h.inj, own_keep h.lst kc⟩

theorem own_form {w : World} {base e size : Nat} {v : Value} {n : Nat} {xs : List Value} (h : w.ownsRow base e size v n xs) : ∃ ao cap, v = .slice ao n cap := by
  rcases h.2 with ⟨rfl, rfl⟩ | ⟨g, cap, cur, rfl, _⟩
  · exact ⟨none, 0, rfl⟩
  · exact ⟨_, cap, rfl⟩
theorem keepC_set {κ : Type} [DecidableEq κ] {kv : κ → Value} {w : World} {b c : Nat} {l : List (RM.Ent κ)} (hm : RM.IsMap kv w b l c) (o : Obj) : KeepC w (setBlock w b o) := fun j c t f e => by
  rw [RM.heap_set_other o (map_cells hm e)]
  exact e
theorem KeepC.trans {a b c : World} (h : KeepC a b) (k : KeepC b c) : KeepC a c := fun j x t f e => k _ _ _ _ (h _ _ _ _ e)
theorem below_set {a w : World} {T b : Nat} (h : Below T a w) (hb : T ≤ b) (o : Obj) : Below T a (setBlock w b o) :=
  ⟨h.os, h.tape, h.output, by simpa [setBlock] using h.size, fun j hj => (RM.heap_set_other _ (by omega)).trans (h.block j hj)⟩
theorem Below.same {T : Nat} {a w w' : World} (h : Below T a w) (hh : w'.heap = w.heap) (ho : w'.os = w.os ∧ w'.tape = w.tape ∧ w'.output = w.output) : Below T a w' :=
  ⟨ho.1.trans h.os, ho.2.1.trans h.tape, ho.2.2.trans h.output, by rw [hh]; exact h.size, fun j hj => by rw [hh]; exact h.block j hj⟩

/-- What stays as the maps are turned. -/
structure Md (wS w : World) (T B : Nat) (lv al : Value) (SB : Fin 4 → Nat) (A : Nat → Wt) (N : Nat) (A' : Nat → Wt) (N' : Nat) (k : Key) : Prop where
  bel : Below T wS w
  tx : TX w (T + 2) T (T + 1) al SB A' N'
  lst : w.ownsRow (T + 3) 73 3 lv N (ll A N)
  kb : w.heap[B]? = some (.cells #[.string k.1, .int .u8 (k.2 : Int)] 61 (0, 0))
  nB : B ≠ T + 2
section
variable {wS w w' : World} {T B : Nat} {lv al : Value} {SB : Fin 4 → Nat} {A A' : Nat → Wt} {N N' : Nat} {k : Key} {s : Fin 4} {IK : Key → Nat} {JS : Fin 4 → Nat} {ρ : Nat → Role}
theorem Md.keep (h : Md wS w T B lv al SB A N A' N' k) (hc : KeepC w w') (hb : Below T w w') : Md wS w' T B lv al SB A N A' N' k :=
  ⟨h.bel.trans hb, h.tx.keep hc, own_keep h.lst hc, hc _ _ _ _ h.kb, h.nB⟩
theorem Md.k0 (h : Md wS w T B lv al SB A N A' N' k) : w.cell? ⟨B, 0, none⟩ = some (.string k.1) := by simp only [World.cell?, h.kb]; rfl
theorem Md.k1 (h : Md wS w T B lv al SB A N A' N' k) : w.cell? ⟨B, 1, none⟩ = some (.int .u8 (k.2 : Int)) := by simp only [World.cell?, h.kb]; rfl

theorem Md.drewN (h : Md wS w T B lv al SB A N A' N' k) (n : Nat) : Md wS (w.drewN n) T B lv al SB A N A' N' k := h.keep (fun _ _ _ _ e => e) ⟨rfl, rfl, rfl, Nat.le_refl _, fun _ _ => rfl⟩
theorem TK.drewN {b1 BK : Nat} (h : TK w b1 BK SB IK ρ A N) (n : Nat) : TK (w.drewN n) b1 BK SB IK ρ A N := h.keep fun _ _ _ _ e => e
theorem TKm.drewN {b1 BK : Nat} (h : TKm w b1 BK SB IK ρ A N k s) (n : Nat) : TKm (w.drewN n) b1 BK SB IK ρ A N k s := h.keep fun _ _ _ _ e => e
theorem TS.drewN {b1 BS : Nat} (h : TS w b1 BS SB JS ρ A N) (n : Nat) : TS (w.drewN n) b1 BS SB JS ρ A N := h.keep fun _ _ _ _ e => e
theorem TSm.drewN {b1 BS : Nat} (h : TSm w b1 BS SB JS ρ A N k s) (n : Nat) : TSm (w.drewN n) b1 BS SB JS ρ A N k s := h.keep fun _ _ _ _ e => e

theorem alloc_lt {w : World} (o : Obj) {j : Nat} {x : Obj} (h : w.heap[j]? = some x) : (w.alloc o).heap[j]? = some x := by
  rw [Below.heap_alloc _ _ _ (by rcases Array.getElem?_eq_some_iff.1 h with ⟨h, _⟩; exact h)]
  exact h

/-- A new inner map for the key. -/
theorem newK (hK : TK w T T SB IK ρ A N) (hS : TS w T (T + 1) SB JS ρ A N) {l : List (RM.Ent Key)} {c : Nat} (hm : RM.IsMap kvK w T l c) (hl : KSpec A N IK l) (hk : ¬ KeyIn A N k)
    (hh : w'.heap = (setBlock (w.alloc (.map #[] 0)) T (.map ((RM.ins l k (.map (some w.heap.size)) c).map (RM.Ent.raw kvK)).toArray (RM.insC l k c))).heap) (ho : w'.os = w.os ∧ w'.tape = w.tape ∧ w'.output = w.output) :
    ∃ IK' ρ', TKm w' T T SB IK' ρ' A N k s ∧ TS w' T (T + 1) SB JS ρ' A N ∧ KeepC w w' ∧ Below T w w' := by
  have lT : T < w.heap.size := IsMap.lt hm
  have hm' : RM.IsMap kvK (w.alloc (.map #[] 0)) T l c := alloc_lt _ hm
  have e1 : ∀ j : Nat, j < w.heap.size → j ≠ T → w'.heap[j]? = w.heap[j]? := fun j h1 h2 => by
    rw [hh, RM.heap_set_other _ h2, Below.heap_alloc _ _ _ h1]
  have eN : w'.heap[w.heap.size]? = some (.map #[] 0) := by
    rw [hh, RM.heap_set_other _ (by omega)]
    exact heap_alloc_new w _
  have eK : RM.IsMap kvK w' T (RM.ins l k (.map (some w.heap.size)) c) (RM.insC l k c) := by
    unfold RM.IsMap
    rw [hh]
    exact RM.isMap_set hm'
  refine ⟨updK IK k w.heap.size, updR ρ w.heap.size (.ik k), hK.new hm hl hk (Nat.le_refl _) (by omega) eK eN e1, (hS.upd (Nat.le_refl _) _).keep fun j es c hr e => ?_, fun j x t f e => ?_, ?_⟩
  · rw [e1 j (by rcases Array.getElem?_eq_some_iff.1 e with ⟨h, _⟩; exact h) (fun q => ?_)]
    · exact e
    · subst q
      unfold updR at hr
      rw [if_neg (by omega), hK.rK] at hr
      rcases hr with hr | ⟨_, hr⟩ <;> cases hr
  · rw [e1 j (by rcases Array.getElem?_eq_some_iff.1 e with ⟨h, _⟩; exact h) (map_cells hm e)]
    exact e
  · exact ⟨ho.1, ho.2.1, ho.2.2, by rw [hh]; simp [setBlock], fun j hj => e1 j (by omega) (by omega)⟩
theorem newS {Ak : Nat → Wt} {Nk : Nat} (hK : TK w T T SB IK ρ Ak Nk) (hS : TS w T (T + 1) SB JS ρ A N) {l : List (RM.Ent (Fin 4))} {c : Nat} (hm : RM.IsMap (kvS SB) w (T + 1) l c) (hl : SSpec A N JS l) (hk : ¬ SesIn A N s)
    (hh : w'.heap = (setBlock (w.alloc (.map #[] 0)) (T + 1) (.map ((RM.ins l s (.map (some w.heap.size)) c).map (RM.Ent.raw (kvS SB))).toArray (RM.insC l s c))).heap) (ho : w'.os = w.os ∧ w'.tape = w.tape ∧ w'.output = w.output) :
    ∃ JS' ρ', TSm w' T (T + 1) SB JS' ρ' A N k s ∧ TK w' T T SB IK ρ' Ak Nk ∧ KeepC w w' ∧ Below T w w' := by
  have lT : T + 1 < w.heap.size := IsMap.lt hm
  have hm' : RM.IsMap (kvS SB) (w.alloc (.map #[] 0)) (T + 1) l c := alloc_lt _ hm
  have e1 : ∀ j : Nat, j < w.heap.size → j ≠ T + 1 → w'.heap[j]? = w.heap[j]? := fun j h1 h2 => by
    rw [hh, RM.heap_set_other _ h2, Below.heap_alloc _ _ _ h1]
  have eN : w'.heap[w.heap.size]? = some (.map #[] 0) := by
    rw [hh, RM.heap_set_other _ (by omega)]
    exact heap_alloc_new w _
  have eK : RM.IsMap (kvS SB) w' (T + 1) (RM.ins l s (.map (some w.heap.size)) c) (RM.insC l s c) := by
    unfold RM.IsMap
    rw [hh]
    exact RM.isMap_set hm'
  refine ⟨updS JS s w.heap.size, updR ρ w.heap.size (.js s), hS.new hm hl hk (Nat.le_refl _) (by omega) eK eN e1, (hK.upd (Nat.le_refl _) _).keep fun j es c hr e => ?_, fun j x t f e => ?_, ?_⟩
  · rw [e1 j (by rcases Array.getElem?_eq_some_iff.1 e with ⟨h, _⟩; exact h) (fun q => ?_)]
    · exact e
    · subst q
      unfold updR at hr
      rw [if_neg (by omega), hS.rS] at hr
      rcases hr with hr | ⟨_, hr⟩ <;> cases hr
  · rw [e1 j (by rcases Array.getElem?_eq_some_iff.1 e with ⟨h, _⟩; exact h) (map_cells hm e)]
    exact e
  · exact ⟨ho.1, ho.2.1, ho.2.2, by rw [hh]; simp [setBlock], fun j hj => e1 j (by omega) (by omega)⟩

/-- The place of the watch is put into its key's map. -/
theorem putK (hK : TKm w T T SB IK ρ A N k s) (hS : TS w T (T + 1) SB JS ρ A N) (hA : ¬ Has A N (k, s)) {l : List (RM.Ent (Fin 4))} {c : Nat} (hm : RM.IsMap (kvS SB) w (IK k) l c) (hl : ISpec A N k l) (hs : RM.Stamps l c) (n : Nat) :
    TK (setBlock (w.drewN n) (IK k) (.map ((RM.ins l s (.int .i64 (N : Int)) c).map (RM.Ent.raw (kvS SB))).toArray (RM.insC l s c))) T T SB IK ρ (addW A N (k, s)) (N + 1) ∧ TS (setBlock (w.drewN n) (IK k) (.map ((RM.ins l s (.int .i64 (N : Int)) c).map (RM.Ent.raw (kvS SB))).toArray (RM.insC l s c))) T (T + 1) SB JS ρ A N ∧
      KeepC w (setBlock (w.drewN n) (IK k) (.map ((RM.ins l s (.int .i64 (N : Int)) c).map (RM.Ent.raw (kvS SB))).toArray (RM.insC l s c))) ∧ Below T w (setBlock (w.drewN n) (IK k) (.map ((RM.ins l s (.int .i64 (N : Int)) c).map (RM.Ent.raw (kvS SB))).toArray (RM.insC l s c))) := by
  have hm' : RM.IsMap (kvS SB) (w.drewN n) (IK k) l c := hm
  refine ⟨hK.put hA hl hs (RM.isMap_set hm') fun j hj => RM.heap_set_other _ hj, hS.keep fun j es c hr e => ?_, keepC_set hm' _, below_set (a := w) (w := w.drewN n) ⟨rfl, rfl, rfl, Nat.le_refl _, fun _ _ => rfl⟩ (hK.zI k (.inr rfl)) _⟩
  rw [RM.heap_set_other]
  · exact e
  · intro q
    subst q
    rw [hK.rI k (.inr rfl)] at hr
    rcases hr with hr | ⟨_, hr⟩ <;> cases hr
theorem putS {Ak : Nat → Wt} {Nk : Nat} (hS : TSm w T (T + 1) SB JS ρ A N k s) (hK : TK w T T SB IK ρ Ak Nk) {l : List (RM.Ent Key)} {c : Nat} (hm : RM.IsMap kvK w (JS s) l c) (hl : JSpec A N s l) (n : Nat) :
    TS (setBlock (w.drewN n) (JS s) (.map ((RM.ins l k (.agg #[]) c).map (RM.Ent.raw kvK)).toArray (RM.insC l k c))) T (T + 1) SB JS ρ (addW A N (k, s)) (N + 1) ∧ TK (setBlock (w.drewN n) (JS s) (.map ((RM.ins l k (.agg #[]) c).map (RM.Ent.raw kvK)).toArray (RM.insC l k c))) T T SB IK ρ Ak Nk ∧
      KeepC w (setBlock (w.drewN n) (JS s) (.map ((RM.ins l k (.agg #[]) c).map (RM.Ent.raw kvK)).toArray (RM.insC l k c))) ∧ Below T w (setBlock (w.drewN n) (JS s) (.map ((RM.ins l k (.agg #[]) c).map (RM.Ent.raw kvK)).toArray (RM.insC l k c))) := by
  have hm' : RM.IsMap kvK (w.drewN n) (JS s) l c := hm
  refine ⟨hS.put hl (RM.isMap_set hm') fun j hj => RM.heap_set_other _ hj, hK.keep fun j es c hr e => ?_, keepC_set hm' _, below_set (a := w) (w := w.drewN n) ⟨rfl, rfl, rfl, Nat.le_refl _, fun _ _ => rfl⟩ (hS.zJ s (.inr rfl)) _⟩
  rw [RM.heap_set_other]
  · exact e
  · intro q
    subst q
    rw [hS.rJ s (.inr rfl)] at hr
    rcases hr with hr | ⟨_, hr⟩ <;> cases hr

/-- The watch is appended to the row. -/
theorem appX {w1 : World} (h : Md wS w T B lv al SB A N A N k) {v : Value} (ho : w1.ownsRow (T + 2 + 1) 70 3 v (N + 1) (wl SB A N ++ [.string k.1, .int .u8 (k.2 : Int), kvS SB s])) (hg : w.grownBy w1 al.ownBlock) :
    Md wS (w1.setCell ⟨T + 2, 2, none⟩ v) T B lv v SB A N (addW A N (k, s)) (N + 1) k ∧ KeepM w (w1.setCell ⟨T + 2, 2, none⟩ v) ∧ ∀ j : Nat, j < T → (w1.setCell ⟨T + 2, 2, none⟩ v).heap[j]? = w.heap[j]? := by
  have lX : T + 2 < w.heap.size := World.block_lt_of_cell? _ _ h.tx.c0
  have far : ∀ (j : Nat) c t f, t ≠ 70 → j ≠ T + 2 → w.heap[j]? = some (.cells c t f) → (w1.setCell ⟨T + 2, 2, none⟩ v).heap[j]? = some (.cells c t f) := fun j c t f ht hj e => by
    rw [Below.heap_setCell _ _ _ _ hj, hg.block j (by rcases Array.getElem?_eq_some_iff.1 e with ⟨h, _⟩; exact h) (fun q => ?_)]
    · exact e
    · obtain ⟨_, c', e'⟩ := own_lt h.tx.own q.symm
      rw [e] at e'
      injection e' with e'
      injection e' with _ e'
      exact ht e'
  have bl : ∀ j : Nat, j < T → (w1.setCell ⟨T + 2, 2, none⟩ v).heap[j]? = w.heap[j]? := fun j hj => by
    rw [Below.heap_setCell _ _ _ _ (by show j ≠ T + 2; omega), hg.block j (by omega) (fun q => by have := (own_lt h.tx.own q.symm).1; omega)]
  refine ⟨⟨h.bel.trans ⟨hg.os, hg.tape, hg.output, by simpa using hg.size, fun j hj => bl j hj⟩, h.tx.app ho hg, ?_, far _ _ _ _ (by decide) h.nB h.kb, h.nB⟩, h.tx.keepM v hg, bl⟩
  · refine ⟨h.lst.1, ?_⟩
    rcases h.lst.2 with h2 | ⟨g, cap, cur, h1, h2, h3, h4⟩
    · exact .inl h2
    · exact .inr ⟨g, cap, cur, h1, h2, far _ _ _ _ (by decide) (by omega) h3, h4⟩

/-- The list has one more. -/
theorem appL {w1 : World} (h : Md wS w T B lv al SB A N (addW A N (k, s)) (N + 1) k) (hK : TK w T T SB IK ρ (addW A N (k, s)) (N + 1)) (hS : TS w T (T + 1) SB JS ρ (addW A N (k, s)) (N + 1)) (hi : Inj A N) (hx : ¬ Has A N (k, s)) {v : Value} (ho : w1.ownsRow (T + 3) 73 3 v (N + 1) (ll A N ++ [.string k.1, .int .u8 (k.2 : Int), .int .i64 (s.val : Int)])) (hg : w.grownBy w1 lv.ownBlock) :
    Bd wS w1 T al v SB IK JS ρ (addW A N (k, s)) (N + 1) := by
  have lX : T + 2 < w.heap.size := World.block_lt_of_cell? _ _ h.tx.c0
  have bl : ∀ j : Nat, j < T + 3 → w1.heap[j]? = w.heap[j]? := fun j hj => hg.block j (by omega) (fun q => by have := (own_lt h.lst q.symm).1; omega)
  have km : KeepM w w1 := fun j es c e => by
    rw [hg.block j (by rcases Array.getElem?_eq_some_iff.1 e with ⟨h, _⟩; exact h) (fun q => ?_)]
    · exact e
    · obtain ⟨_, c', e'⟩ := own_lt h.lst q.symm
      rw [e] at e'
      cases e'
  have far : ∀ (j : Nat) c t f, t ≠ 73 → w.heap[j]? = some (.cells c t f) → w1.heap[j]? = some (.cells c t f) := fun j c t f ht e => by
    rw [hg.block j (by rcases Array.getElem?_eq_some_iff.1 e with ⟨h, _⟩; exact h) (fun q => ?_)]
    · exact e
    · obtain ⟨_, c', e'⟩ := own_lt h.lst q.symm
      rw [e] at e'
      injection e' with e'
      injection e' with _ e'
      exact ht e'
  have hX := bl (T + 2) (by omega)
  obtain ⟨c, t, e⟩ := h.tx.bX
  refine ⟨h.bel.trans ⟨hg.os, hg.tape, hg.output, hg.size, fun j hj => bl j (by omega)⟩, hK.keep km.k, hS.keep km.s, ⟨(cellB hX 0).trans h.tx.c0, (cellB hX 1).trans h.tx.c1, (cellB hX 2).trans h.tx.c2, ⟨c, t, hX.trans e⟩, ?_⟩, addW_inj hi hx, by rw [ll_add]; exact ho⟩
  refine ⟨h.tx.own.1, ?_⟩
  rcases h.tx.own.2 with h2 | ⟨g, cap, cur, h1, h2, h3, h4⟩
  · exact .inl h2
  · exact .inr ⟨g, cap, cur, h1, h2, far _ _ _ _ (by decide) h3, h4⟩

theorem Bd.md (h : Bd wS w T al lv SB IK JS ρ A N) {wc : World} (hb : Below w.heap.size w wc) (hk : wc.heap[B]? = some (.cells #[.string k.1, .int .u8 (k.2 : Int)] 61 (0, 0))) (hB : w.heap.size ≤ B) : Md wS wc T B lv al SB A N A N k := by
  have g := h.below hb
  have : T + 2 < w.heap.size := World.block_lt_of_cell? _ _ h.tx.c0
  exact ⟨g.bel, g.tx, g.lst, hk, by omega⟩
end

theorem cut19 {w wc : World} {xp xq xr kk : Nat} {pq : ByteArray} (hh : wc.heap = ((w.alloc (.cells #[.int .u8 xp, .int .u8 xq, .int .u8 xr] 57)).alloc (.cells #[.string pq, .int .u8 kk] 61)).heap) (ho : wc.os = w.os ∧ wc.tape = w.tape ∧ wc.output = w.output) :
    Below w.heap.size w wc ∧ wc.heap[w.heap.size + 1]? = some (.cells #[.string pq, .int .u8 kk] 61 (0, 0)) ∧ wc.heap[w.heap.size]? = some (.cells #[.int .u8 xp, .int .u8 xq, .int .u8 xr] 57 (0, 0)) := by
  have e1 : (w.alloc (.cells #[.int .u8 xp, .int .u8 xq, .int .u8 xr] 57)).heap.size = w.heap.size + 1 := by simp
  refine ⟨Below.same (((Below.refl _ _).alloc (Nat.le_refl _) _).alloc (by omega) _) hh ho, ?_, ?_⟩
  · rw [hh, ← e1]
    exact heap_alloc_new _ _
  · rw [hh, Below.heap_alloc _ _ _ (by omega)]
    exact heap_alloc_new _ _

theorem eqn63 (m : Option Nat) (w : World) : (binOp .eql 63 (.map m) (.map none)).run Ybad.prog w = .ok (.bool m.isNone) w := by
  cases m
  · kernel_rfl
  · exact run_eql_map_nil w 63 _ _ _ Ybad.underlying63
theorem eqn71 (m : Option Nat) (w : World) : (binOp .eql 71 (.map m) (.map none)).run Ybad.prog w = .ok (.bool m.isNone) w := by
  cases m
  · kernel_rfl
  · exact run_eql_map_nil w 71 _ _ _ Ybad.underlying71
theorem nil63 {w : World} {SB : Fin 4 → Nat} (hS : Sess w SB) (s : Fin 4) : (Instr.lookup 63 (.map none) (kvS SB s) true).run Ybad.prog w = .ok (.tuple #[.int .i64 0, .bool false]) w := by
  have K := sessKeys hS
  have hf := K.find s []
  have e : RM.found ([] : List (RM.Ent (Fin 4))) s = none := rfl
  simp only [List.map_nil, e] at hf
  simp only [Instr.lookup, Sem.run_bind, run_underlying Ybad.underlying63, Result.andThen_ok, K.check, Sem.run_pure]
  simp [hf]
theorem nil71 {w : World} (k : Key) : (Instr.lookup 71 (.map none) (kvK k) true).run Ybad.prog w = .ok (.tuple #[.agg #[], .bool false]) w := by
  have K := watchKeys w
  have hf := K.find k []
  have e : RM.found ([] : List (RM.Ent Key)) k = none := rfl
  simp only [List.map_nil, e] at hf
  simp only [Instr.lookup, Sem.run_bind, run_underlying Ybad.underlying71, Result.andThen_ok, K.check, Sem.run_pure]
  simp [hf]
theorem info70 : ∃ i z, Ybad.prog.info? 70 = some i ∧ i.zero = some z ∧ i.size = 3 ∧ i.bytes = 32 ∧ z.cells.size = 3 := by
  have h : (Ybad.prog.info? 70).map (fun i => (i.zero.map fun z => z.cells.size, i.size, i.bytes)) = some (some 3, 3, 32) := by kernel_rfl
  cases hi : Ybad.prog.info? 70 with
  | none => simp [hi] at h
  | some i =>
    simp [hi] at h
    obtain ⟨⟨z, h1, h2⟩, h3, h4⟩ := h
    exact ⟨i, z, rfl, h1, h3, h4, h2⟩
theorem info73 : ∃ i z, Ybad.prog.info? 73 = some i ∧ i.zero = some z ∧ i.size = 3 ∧ i.bytes = 32 ∧ z.cells.size = 3 := by
  have h : (Ybad.prog.info? 73).map (fun i => (i.zero.map fun z => z.cells.size, i.size, i.bytes)) = some (some 3, 3, 32) := by kernel_rfl
  cases hi : Ybad.prog.info? 73 with
  | none => simp [hi] at h
  | some i =>
    simp [hi] at h
    obtain ⟨⟨z, h1, h2⟩, h3, h4⟩ := h
    exact ⟨i, z, rfl, h1, h3, h4, h2⟩

theorem make74 (n : Nat) (hn : n ≤ 1024) (w : World) : (Instr.makeSlice 74 (.int .i64 n) (.int .i64 n)).run Ybad.prog w = .ok (.slice (some ⟨w.heap.size, 0, none⟩) n n) (w.alloc (.cells (madeCells #[.int .u8 0] n) 59)) := by
  have h : (Ybad.prog.info? 59).map (fun i => (i.zero, i.size, i.bytes)) = some (some (.int .u8 0), 1, 1) := by kernel_rfl
  obtain ⟨i, h1, h2, h3, h4⟩ : ∃ i, Ybad.prog.info? 59 = some i ∧ i.zero = some (.int .u8 0) ∧ i.size = 1 ∧ i.bytes = 1 := by
    cases hi : Ybad.prog.info? 59 with
    | none => simp [hi] at h
    | some i => simp [hi] at h; exact ⟨i, rfl, h.1, h.2.1, h.2.2⟩
  have := run_make (P := Ybad.prog) w 74 59 i _ Ybad.underlying74 h1 h2 .i64 .i64 n n (by omega) (by omega) (by rw [h4]; omega) (by omega)
  simpa [h3, Value.cells] using this

/-- i kinds are laid. -/
structure P3 (wL w : World) (K n : Nat) (kr : Nat → Nat) (i : Nat) : Prop where
  bel : Below K wL w
  blk : ∃ c t, w.heap[K]? = some (.cells c t (0, 0))
  all : ∀ j, j < n → (w.cell? ⟨K, j, none⟩).isSome = true
  set : ∀ j, j < i → w.cell? ⟨K, j, none⟩ = some (.int .u8 ((kr j % 3 : Nat) : Int))
  sz : w.heap.size = K + 1
theorem P3.start {wL : World} {K n : Nat} {kr : Nat → Nat} (hK : K = wL.heap.size) : P3 wL (wL.alloc (.cells (madeCells #[.int .u8 0] n) 59)) K n kr 0 := by
  subst hK
  refine ⟨(Below.refl _ _).alloc (Nat.le_refl _) _, ⟨_, _, heap_alloc_new _ _⟩, fun j hj => ?_, fun j hj => absurd hj (Nat.not_lt_zero _), by simp⟩
  rw [alloc_new, made_at _ _ _ hj]
  rfl
theorem P3.next {wL w : World} {K n i : Nat} {kr : Nat → Nat} (h : P3 wL w K n kr i) (hi : i < n) : P3 wL (w.setCell ⟨K, i, none⟩ (.int .u8 ((kr i % 3 : Nat) : Int))) K n kr (i + 1) := by
  obtain ⟨us, gs⟩ := Option.isSome_iff_exists.1 (h.all i hi)
  have same : (w.setCell ⟨K, i, none⟩ (.int .u8 ((kr i % 3 : Nat) : Int))).cell? ⟨K, i, none⟩ = some (.int .u8 ((kr i % 3 : Nat) : Int)) := World.cell?_setCell_same _ _ _ gs
  have other : ∀ j, j ≠ i → (w.setCell ⟨K, i, none⟩ (.int .u8 ((kr i % 3 : Nat) : Int))).cell? ⟨K, j, none⟩ = w.cell? ⟨K, j, none⟩ := fun j hj => World.cell?_setCell_other _ _ _ _ (by intro h; injection h; omega)
  refine ⟨h.bel.setCell (Nat.le_refl _) _, blk_set h.blk K i _, fun j hj => ?_, fun j hj => ?_, by simpa using h.sz⟩
  · by_cases e : j = i
    · subst e; rw [same]; rfl
    · rw [other j e]; exact h.all j hj
  · by_cases e : j = i
    · subst e; exact same
    · rw [other j e]; exact h.set j (by omega)

/-- The law's own list, cell by cell. -/
def Lst (w : World) (T : Nat) (la : Option Addr) (A : Nat → Wt) (N : Nat) : Prop := ∀ i, i < N → ∃ LB c, la = some ⟨LB, 0, none⟩ ∧ T + 3 ≤ LB ∧ w.heap[LB]? = some (.cells c 73 (0, 0)) ∧ c[i * 3]? = some (.string (A i).1.1) ∧ c[i * 3 + 1]? = some (.int .u8 ((A i).1.2 : Int)) ∧ c[i * 3 + 2]? = some (.int .i64 ((A i).2.val : Int))
theorem lst_of {w : World} {T N : Nat} {lv : Value} {A : Nat → Wt} (h : w.ownsRow (T + 3) 73 3 lv N (ll A N)) : ∃ la cap, lv = .slice la N cap ∧ Lst w T la A N := by
  rcases h.2 with ⟨rfl, rfl⟩ | ⟨g, cap, cur, rfl, h2, h3, h4, h5, h6, h7⟩
  · exact ⟨none, 0, rfl, fun i hi => absurd hi (Nat.not_lt_zero _)⟩
  · refine ⟨_, cap, rfl, fun i hi => ⟨g, cur, rfl, h2, h3, ?_⟩⟩
    have rd : ∀ j u, j < N * 3 → (ll A N)[j]? = some u → cur[j]? = some u := fun j u hj hu => by
      rw [← h7, List.getElem?_take_of_lt hj] at hu
      simpa using hu
    obtain ⟨a1, a2, a3⟩ := ll_at A hi
    exact ⟨rd _ _ (by omega) a1, rd _ _ (by omega) a2, rd _ _ (by omega) a3⟩
theorem Lst.keep {w w' : World} {T N : Nat} {la : Option Addr} {A : Nat → Wt} (h : Lst w T la A N) (hb : ∀ (j : Nat) c, 0 < N → T + 3 ≤ j → w.heap[j]? = some (.cells c 73 (0, 0)) → w'.heap[j]? = some (.cells c 73 (0, 0))) : Lst w' T la A N := fun i hi => by
  obtain ⟨LB, c, h1, h2, h3, h4⟩ := h i hi
  exact ⟨LB, c, h1, h2, hb LB c (by omega) h2 h3, h4⟩

def srvC (X : Nat) : Array Value := #[.int .i64 0, .int .u64 0, .int .i64 0, .pointer none, .int .i32 0, .int .u32 0, .int .i64 0, .pointer none, .pointer (some ⟨X, 0, none⟩), .map none, .map none, .int .i64 0, .int .i64 0, .int .i64 0, .int .i64 0, .int .i64 0, .int .i64 0, .int .i64 0, .int .i64 0, .int .i64 0, .int .i64 0]
theorem srv_new (w : World) (X : Nat) : Srv (w.alloc (.cells (srvC X) 93)) w.heap.size X 0 0 :=
  ⟨⟨_, _, heap_alloc_new _ _⟩, by rw [alloc_new]; rfl, by rw [alloc_new]; rfl, by rw [alloc_new]; rfl⟩

theorem P1.sess {w wr : World} {hi SA CA : Nat} {SB : Fin 4 → Nat} {CB : Fin 4 → Option (Nat × Bool)} (Q : P1 w wr hi SA CA 4 SB CB) : Sess wr SB :=
  ⟨fun j => by
    have := Q.got j j.isLt 0 undef 0
    revert this
    generalize CB j = cj
    intro this
    match cj, this with
    | none, h => exact h.blk
    | some (C, true), h => exact h.1.blk
    | some (C, false), h => exact h.1.blk, fun a b e => Q.ss a b a.isLt b.isLt e⟩
theorem P1.env {w wr : World} {hi SA CA K V : Nat} {SB : Fin 4 → Nat} {CB : Fin 4 → Option (Nat × Bool)} (Q : P1 w wr hi SA CA 4 SB CB) (hK : wr.heap.size ≤ K) (hV : K ≤ V) : Env wr.heap.size K V SB CB :=
  ⟨fun i => (Q.ls i i.isLt).2.1, fun i C cl h => (Q.lc i C cl i.isLt h).2.1, fun i j e => Q.ss i j i.isLt j.isLt e, fun i j C cl h => Q.sc i j C cl i.isLt j.isLt h, fun i j C cl cl' h h' => Q.cc i j C cl cl' i.isLt j.isLt h h', hV, hK⟩
theorem P1.gots {w wr wv : World} {hi SA CA : Nat} {SB : Fin 4 → Nat} {CB : Fin 4 → Option (Nat × Bool)} (Q : P1 w wr hi SA CA 4 SB CB) (hb : Below wr.heap.size wr wv) (i : Fin 4) (lo : Nat) (fr : Value) (len : Int) : Got wv lo (SB i) fr len (CB i) false :=
  ((Q.got i i.isLt wr.heap.size fr len).keep (hb.block _ (Q.ls i i.isLt).2.1) (fun C cl h => hb.block _ (Q.lc i C cl i.isLt h).2.1) (fun g h1 h2 => by omega)).free
end Go.Proofs.YbulkcrxoDoor.F
