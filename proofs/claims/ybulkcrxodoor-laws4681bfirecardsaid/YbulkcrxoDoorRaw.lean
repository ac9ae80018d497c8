/-
  MAPS THAT THE CALL ITSELF MAKES, told entry by entry, whatever their keys and elements: no program in sight.
-/
import Derived.WalkKit
import Derived.Maps.RangeRun
import Derived.MapKept
namespace Go.RM
set_option linter.unusedSectionVars false
set_option linter.unusedSimpArgs false
open Go.ChangeMaps (setBlock)

/-- An entry: its key as a plain datum, its element, its stamp. -/
structure Ent (κ : Type) where
  k : κ
  v : Value
  n : Nat

section
variable {κ : Type} [DecidableEq κ] (kv : κ → Value)

def Ent.raw (e : Ent κ) : MapEntry := ⟨kv e.k, e.v, e.n⟩

/-- Block b of w is the map of just these entries. -/
def IsMap (w : World) (b : Nat) (l : List (Ent κ)) (c : Nat) : Prop := w.heap[b]? = some (.map (l.map (Ent.raw kv)).toArray c)

def idx (l : List (Ent κ)) (k : κ) : Option Nat := l.findIdx? (fun e => decide (e.k = k))
def get (l : List (Ent κ)) (k : κ) : Option Value := (l.find? (fun e => decide (e.k = k))).map (·.v)
def ins (l : List (Ent κ)) (k : κ) (v : Value) (c : Nat) : List (Ent κ) := match idx l k with | some i => l.modify i (fun e => { e with v := v }) | none => l ++ [⟨k, v, c⟩]
def insC (l : List (Ent κ)) (k : κ) (c : Nat) : Nat := match idx l k with | some _ => c | none => c + 1
def del (l : List (Ent κ)) (k : κ) : List (Ent κ) := match idx l k with | some i => l.eraseIdx i | none => l
def found (l : List (Ent κ)) (k : κ) : Option (Nat × Value) := (idx l k).bind fun i => (l[i]?).map fun e => (i, e.v)

/-- What a key's type must be good for in the world w. -/
structure KeyT (P : Program) (kt : TypeId) (w : World) : Prop where
  inj : ∀ a b, kv a = kv b → a = b
  check : ∀ k em, (Instr.checkKey em 10000 kt (kv k)).run P w = .ok () w
  find : ∀ k (l : List (Ent κ)), (Instr.findKey kt (kv k) (l.map (Ent.raw kv))).run P w = .ok (found l k) w
  bits : ∀ k, Instr.sameBits 10000 (kv k) (kv k) = true

theorem found_cons (e : Ent κ) (l : List (Ent κ)) (k : κ) : found (e :: l) k = if e.k = k then some (0, e.v) else (found l k).map fun x => (x.1 + 1, x.2) := by
  unfold found idx
  rw [List.findIdx?_cons]
  by_cases h : e.k = k
  · simp [h]
  · simp only [h, decide_false, if_false, Bool.false_eq_true]
    cases List.findIdx? (fun e => decide (e.k = k)) l with
    | none => rfl
    | some i => simp [Option.map_map, Function.comp_def]

theorem findNow_eq {d : TypeDesc} {k : κ} (hk : ∀ a b, Instr.sameNow d (kv a) (kv b) = some (decide (a = b))) : ∀ (l : List (Ent κ)) (i : Nat), Instr.findNow d (kv k) (l.map (Ent.raw kv)) i = some ((found l k).map fun x => (x.1 + i, x.2))
  | [], i => by simp [Instr.findNow, found, idx]
  | e :: l, i => by
    simp only [List.map_cons, Instr.findNow, Ent.raw]
    rw [hk k e.k, found_cons]
    by_cases h : e.k = k
    · simp [h]
    · have h' : ¬ k = e.k := fun q => h q.symm
      simp only [h', decide_false, h, if_false]
      rw [findNow_eq hk l (i + 1)]
      simp [Option.map_map, Function.comp_def, Nat.add_assoc, Nat.add_comm 1 i]

/-- Keys that the model compares at once: strings, integers, bools. -/
theorem keyT_now {P : Program} {kt : TypeId} {d : TypeDesc} (w : World) (hd : P.underlying kt = some d) (hkey : ∀ a, MapKept.IsKey d (kv a)) (hk : ∀ a b, Instr.sameNow d (kv a) (kv b) = some (decide (a = b))) (hinj : ∀ a b, kv a = kv b → a = b)
    (hbits : ∀ k, Instr.sameBits 10000 (kv k) (kv k) = true) : KeyT kv P kt w :=
  ⟨hinj, fun k em => MapKept.run_checkKey hd (hkey k) em 9999, fun k l => MapKept.run_findKey hd (by rw [findNow_eq kv hk l 0]; simp), hbits⟩

theorem findAsking_eq {P : Program} {kt : TypeId} {w : World} (heq : ∀ a b, (Op.equal kt (kv a) (kv b)).run P w = .ok (decide (a = b)) w) (k : κ) : ∀ (l : List (Ent κ)) (i : Nat), (Instr.findAsking kt (kv k) (l.map (Ent.raw kv)) i).run P w = .ok ((found l k).map fun x => (x.1 + i, x.2)) w
  | [], i => by simp [Instr.findAsking, found, idx]
  | e :: l, i => by
    simp only [List.map_cons, Instr.findAsking, Ent.raw, Sem.run_bind, heq k e.k, Result.andThen_ok]
    rw [found_cons]
    by_cases h : e.k = k
    · simp [h]
    · have h' : ¬ k = e.k := fun q => h q.symm
      simp only [h', decide_false, h, if_false, Bool.false_eq_true]
      rw [findAsking_eq heq k l (i + 1)]
      simp [Option.map_map, Function.comp_def, Nat.add_assoc, Nat.add_comm 1 i]

/-- Keys that are compared by '=='. -/
theorem keyT_ask {P : Program} {kt : TypeId} {d : TypeDesc} {w : World} (hd : P.underlying kt = some d) (hno : ∀ a b, Instr.sameNow d (kv a) (kv b) = none) (hinj : ∀ a b, kv a = kv b → a = b) (hcheck : ∀ k em, (Instr.checkKey em 10000 kt (kv k)).run P w = .ok () w)
    (heq : ∀ a b, (Op.equal kt (kv a) (kv b)).run P w = .ok (decide (a = b)) w) (hbits : ∀ k, Instr.sameBits 10000 (kv k) (kv k) = true) : KeyT kv P kt w := by
  refine ⟨hinj, hcheck, fun k l => ?_, hbits⟩
  cases l with
  | nil => simp [Instr.findKey, run_underlying hd, Instr.findNow, found, idx]
  | cons e l =>
    have h := findAsking_eq kv heq k (e :: l) 0
    have hn : Instr.findNow d (kv k) ((e :: l).map (Ent.raw kv)) 0 = none := by simp [Instr.findNow, Ent.raw, hno]
    simp only [Instr.findKey, Sem.run_bind, run_underlying hd, Result.andThen_ok, hn]
    rw [h]
    simp

variable {kv}

theorem found_some {l : List (Ent κ)} {k : κ} {i : Nat} {v : Value} (h : found l k = some (i, v)) : idx l k = some i ∧ get l k = some v := by
  unfold found at h
  cases hi : idx l k with
  | none => rw [hi] at h; cases h
  | some j =>
    rw [hi] at h
    simp only [Option.bind_some, Option.map_eq_some_iff, Prod.mk.injEq] at h
    obtain ⟨e, he, rfl, rfl⟩ := h
    refine ⟨rfl, ?_⟩
    unfold idx at hi
    rw [List.findIdx?_eq_some_iff_getElem] at hi
    obtain ⟨hlt, hp, hbefore⟩ := hi
    have : l.find? (fun e => decide (e.k = k)) = some e := by
      rw [List.find?_eq_some_iff_getElem]
      exact ⟨by rw [List.getElem?_eq_getElem hlt] at he; cases he; exact hp, j, hlt, by rw [List.getElem?_eq_getElem hlt] at he; exact Option.some.inj he, fun x hx => by simpa using hbefore x hx⟩
    simp [get, this]

theorem found_none {l : List (Ent κ)} {k : κ} (h : found l k = none) : idx l k = none ∧ get l k = none := by
  unfold found at h
  cases hi : idx l k with
  | none =>
    refine ⟨rfl, ?_⟩
    unfold idx at hi
    rw [List.findIdx?_eq_none_iff] at hi
    simp only [get, Option.map_eq_none_iff, List.find?_eq_none]
    intro e he
    have := hi e he
    simpa using this
  | some j =>
    rw [hi] at h
    unfold idx at hi
    rw [List.findIdx?_eq_some_iff_getElem] at hi
    obtain ⟨hlt, _⟩ := hi
    simp [List.getElem?_eq_getElem hlt] at h

section runs
variable {P : Program} {w : World} {tM kt et : TypeId} {b c : Nat} {l : List (Ent κ)}

theorem run_lookup_ok (hM : P.underlying tM = some (.map kt et)) (K : KeyT kv P kt w) (hb : IsMap kv w b l c) {z : Value} (hz : (zeroValue et).run P w = .ok z w) (k : κ) :
    (Instr.lookup tM (.map (some b)) (kv k) true).run P w = .ok (.tuple #[(get l k).getD z, .bool (get l k).isSome]) w := by
  have hf := K.find k l
  simp only [Instr.lookup, Sem.run_bind, run_underlying hM, Result.andThen_ok, MapKept.run_getObj_map hb, K.check, Sem.run_pure, List.toList_toArray, hf]
  cases h : found l k with
  | none => simp [(found_none h).2, hz]
  | some x => obtain ⟨i, v⟩ := x; simp [(found_some h).2]

theorem run_lookup (hM : P.underlying tM = some (.map kt et)) (K : KeyT kv P kt w) (hb : IsMap kv w b l c) {z : Value} (hz : (zeroValue et).run P w = .ok z w) (k : κ) :
    (Instr.lookup tM (.map (some b)) (kv k) false).run P w = .ok ((get l k).getD z) w := by
  have hf := K.find k l
  simp only [Instr.lookup, Sem.run_bind, run_underlying hM, Result.andThen_ok, MapKept.run_getObj_map hb, K.check, Sem.run_pure, List.toList_toArray, hf]
  cases h : found l k with
  | none => simp [(found_none h).2, hz]
  | some x => obtain ⟨i, v⟩ := x; simp [(found_some h).2]

theorem modify_raw {i : Nat} {k : κ} (v : Value) (h : idx l k = some i) :
    ((l.map (Ent.raw kv)).toArray.modify i fun e => { e with key := kv k, val := v }) = ((l.modify i fun e => { e with v := v }).map (Ent.raw kv)).toArray := by
  unfold idx at h
  rw [List.findIdx?_eq_some_iff_getElem] at h
  obtain ⟨hlt, hp, _⟩ := h
  have hk : (l[i]).k = k := by simpa using hp
  apply Array.ext'
  simp only [Array.toList_modify]
  apply List.ext_getElem?
  intro j
  simp only [List.getElem?_modify, List.getElem?_map]
  by_cases e : i = j
  · subst e
    simp [hlt, Ent.raw, hk]
  · simp [e]

theorem run_update (hM : P.underlying tM = some (.map kt et)) (K : KeyT kv P kt w) (hb : IsMap kv w b l c) (k : κ) (v : Value) :
    (Instr.mapUpdate tM (.map (some b)) (kv k) v).run P w = .ok () (setBlock w b (.map ((ins l k v c).map (Ent.raw kv)).toArray (insC l k c))) := by
  have hf := K.find k l
  simp only [Instr.mapUpdate, Sem.run_bind, run_underlying hM, Result.andThen_ok, MapKept.run_getObj_map hb, K.check, List.toList_toArray, hf]
  cases h : found l k with
  | none =>
    have h1 := (found_none h).1
    simp only [MapKept.run_setObj_map _ hb, ins, insC, h1]
    simp [setBlock, Ent.raw]
  | some x =>
    obtain ⟨i, v0⟩ := x
    have h1 := (found_some h).1
    have hk : (((l.map (Ent.raw kv)).toArray[i]?).map (·.key)).getD (kv k) = kv k := by
      have := h1
      unfold idx at this
      rw [List.findIdx?_eq_some_iff_getElem] at this
      obtain ⟨hlt, hp, _⟩ := this
      have hk : (l[i]).k = k := by simpa using hp
      simp [hlt, Ent.raw, hk]
    simp only [hk, Instr.keyThatStays, K.bits, if_true, Sem.run_pure, Sem.run_bind, Result.andThen_ok, MapKept.run_setObj_map _ hb, ins, insC, h1]
    rw [modify_raw v h1]
    rfl

theorem run_delete (hM : P.underlying tM = some (.map kt et)) (K : KeyT kv P kt w) (hb : IsMap kv w b l c) (k : κ) (ty t2 : TypeId) :
    (Builtin.delete_ #[tM, t2] ty #[.map (some b), kv k]).run P w = .ok (.tuple #[]) (setBlock w b (.map ((del l k).map (Ent.raw kv)).toArray c)) := by
  have hf := K.find k l
  simp only [Builtin.delete_, Sem.run_bind, List.getElem?_toArray, List.getElem?_cons_zero, List.getElem?_cons_succ, run_underlying hM, Result.andThen_ok, MapKept.run_getObj_map hb, K.check, List.toList_toArray, hf]
  cases h : found l k with
  | none =>
    have h1 := (found_none h).1
    simp only [del, h1, Sem.run_bind, MapKept.run_setObj_map _ hb, Result.andThen_ok, Sem.run_pure]
    rfl
  | some x =>
    obtain ⟨i, v0⟩ := x
    have h1 := (found_some h).1
    have e : (l.map (Ent.raw kv)).toArray.eraseIdxIfInBounds i = ((l.eraseIdx i).map (Ent.raw kv)).toArray := by
      have := h1
      unfold idx at this
      rw [List.findIdx?_eq_some_iff_getElem] at this
      obtain ⟨hlt, _⟩ := this
      simp [Array.eraseIdxIfInBounds, hlt, ChangeMaps.map_eraseIdx]
    simp only [e, del, h1, Sem.run_bind, MapKept.run_setObj_map _ hb, Result.andThen_ok, Sem.run_pure]
    rfl

theorem run_len (hM : P.underlying tM = some (.map kt et)) (hb : IsMap kv w b l c) (ty : TypeId) : (Builtin.len_ #[tM] ty #[.map (some b)]).run P w = .ok (.int .i64 (l.length : Int)) w := by
  simp [Builtin.len_, run_underlying hM, MapKept.run_getObj_map hb, goInt]
end runs

theorem isMap_set {w : World} {b : Nat} {l l' : List (Ent κ)} {c c' : Nat} (h : IsMap kv w b l c) : IsMap kv (setBlock w b (.map (l'.map (Ent.raw kv)).toArray c')) b l' c' :=
  (MapKept.heap_set (o' := .map (l'.map (Ent.raw kv)).toArray c') h).1

theorem raw_inj {hk : ∀ a b : κ, kv a = kv b → a = b} : ∀ {l l' : List (Ent κ)}, l.map (Ent.raw kv) = l'.map (Ent.raw kv) → l = l'
  | [], [], _ => rfl
  | [], _ :: _, h => by simp at h
  | _ :: _, [], h => by simp at h
  | a :: l, b :: l', h => by
    simp only [List.map_cons, List.cons.injEq] at h
    obtain ⟨h1, h2⟩ := h
    have e := raw_inj (hk := hk) h2
    subst e
    obtain ⟨ak, av, an⟩ := a
    obtain ⟨bk, bv, bn⟩ := b
    simp only [Ent.raw, MapEntry.mk.injEq] at h1
    obtain ⟨e1, e2, e3⟩ := h1
    have := hk _ _ e1
    subst this e2 e3
    rfl

theorem heap_set_other {w : World} {b j : Nat} (o : Obj) (h : j ≠ b) : (setBlock w b o).heap[j]? = w.heap[j]? := by
  simp [setBlock, Ne.symm h]

/-! ### What the entries hold -/

theorem get_cons (e : Ent κ) (l : List (Ent κ)) (k : κ) : get (e :: l) k = if e.k = k then some e.v else get l k := by
  unfold get
  rw [List.find?_cons]
  by_cases h : e.k = k <;> simp [h]

theorem idx_none {l : List (Ent κ)} {k : κ} : idx l k = none ↔ get l k = none := by
  unfold idx get
  rw [List.findIdx?_eq_none_iff, Option.map_eq_none_iff, List.find?_eq_none]
  simp

theorem get_append (l m : List (Ent κ)) (k : κ) : get (l ++ m) k = (get l k).or (get m k) := by
  unfold get
  rw [List.find?_append]
  cases l.find? (fun e => decide (e.k = k)) <;> simp

theorem get_modify (l : List (Ent κ)) (k q : κ) (v : Value) (i : Nat) (h : idx l k = some i) : get (l.modify i fun e => { e with v := v }) q = if q = k then some v else get l q := by
  induction l generalizing i with
  | nil => simp [idx] at h
  | cons e l ih =>
    by_cases hk : e.k = k
    · have hi : i = 0 := by simp [idx, List.findIdx?_cons, hk] at h; omega
      subst hi
      simp only [List.modify_zero_cons, get_cons, hk]
      by_cases hq : q = k
      · simp [hq]
      · have : ¬ k = q := fun x => hq x.symm
        simp [hq, this]
    · unfold idx at h
      rw [List.findIdx?_cons] at h
      simp only [hk, decide_false, Bool.false_eq_true, if_false, Option.map_eq_some_iff] at h
      obtain ⟨j, hj, rfl⟩ := h
      rw [List.modify_succ_cons, get_cons, get_cons, ih j hj]
      by_cases hq : q = k
      · subst hq; simp [hk]
      · simp [hq]

theorem get_ins (l : List (Ent κ)) (k q : κ) (v : Value) (c : Nat) : get (ins l k v c) q = if q = k then some v else get l q := by
  unfold ins
  cases h : idx l k with
  | some i => exact get_modify l k q v i h
  | none =>
    simp only
    rw [get_append]
    by_cases hq : q = k
    · subst hq
      rw [idx_none.1 h]
      simp [get]
    · have : ¬ k = q := fun x => hq x.symm
      simp [hq, get, this]

theorem get_mem {l : List (Ent κ)} {k : κ} {v : Value} (h : get l k = some v) : ∃ e ∈ l, e.k = k ∧ e.v = v := by
  unfold get at h
  rw [Option.map_eq_some_iff] at h
  obtain ⟨e, he, hv⟩ := h
  exact ⟨e, List.mem_of_find?_eq_some he, by simpa using List.find?_some he, hv⟩

/-- No key twice. -/
def Uniq (l : List (Ent κ)) : Prop := (l.map (·.k)).Nodup

theorem get_of_mem {l : List (Ent κ)} (hu : Uniq l) {e : Ent κ} (h : e ∈ l) : get l e.k = some e.v := by
  induction l with
  | nil => cases h
  | cons x l ih =>
    rw [get_cons]
    unfold Uniq at hu
    rw [List.map_cons, List.nodup_cons] at hu
    cases h with
    | head => simp
    | tail _ h =>
      have hne : x.k ≠ e.k := fun q => hu.1 (List.mem_map.2 ⟨e, h, q.symm⟩)
      simp only [hne, if_false]
      exact ih hu.2 h

theorem keys_modify (l : List (Ent κ)) (i : Nat) (v : Value) : (l.modify i fun e => { e with v := v }).map (·.k) = l.map (·.k) := by
  apply List.ext_getElem?
  intro j
  simp only [List.getElem?_map, List.getElem?_modify]
  by_cases e : i = j
  · subst e; cases l[i]? <;> simp
  · simp [e]

theorem stamps_modify (l : List (Ent κ)) (i : Nat) (v : Value) : (l.modify i fun e => { e with v := v }).map (·.n) = l.map (·.n) := by
  apply List.ext_getElem?
  intro j
  simp only [List.getElem?_map, List.getElem?_modify]
  by_cases e : i = j
  · subst e; cases l[i]? <;> simp
  · simp [e]

theorem uniq_ins {l : List (Ent κ)} (h : Uniq l) (k : κ) (v : Value) (c : Nat) : Uniq (ins l k v c) := by
  unfold ins Uniq
  cases hi : idx l k with
  | some i => simp only; rw [keys_modify]; exact h
  | none =>
    simp only [List.map_append, List.map_cons, List.map_nil]
    rw [List.nodup_append]
    refine ⟨h, by simp, ?_⟩
    intro a ha b hb e
    simp only [List.mem_singleton] at hb
    rw [hb] at e
    rw [List.mem_map] at ha
    obtain ⟨x, hx, hxa⟩ := ha
    have := get_of_mem h hx
    rw [hxa, e, idx_none.1 hi] at this
    cases this

theorem uniq_del {l : List (Ent κ)} (h : Uniq l) (k : κ) : Uniq (del l k) := by
  unfold del
  cases idx l k with
  | none => exact h
  | some i =>
    unfold Uniq
    exact ((List.eraseIdx_sublist l i).map _).nodup h

theorem del_cons {e : Ent κ} {l : List (Ent κ)} (k : κ) : del (e :: l) k = if e.k = k then l else e :: del l k := by
  unfold del idx
  rw [List.findIdx?_cons]
  by_cases h : e.k = k
  · simp [h]
  · simp only [h, decide_false, Bool.false_eq_true, if_false]
    cases List.findIdx? (fun e => decide (e.k = k)) l with
    | none => rfl
    | some i => rfl

theorem mem_del {l : List (Ent κ)} (hu : Uniq l) (k : κ) (e : Ent κ) : e ∈ del l k ↔ e ∈ l ∧ e.k ≠ k := by
  induction l with
  | nil => simp [del, idx]
  | cons x l ih =>
    unfold Uniq at hu
    rw [List.map_cons, List.nodup_cons] at hu
    rw [del_cons]
    by_cases h : x.k = k
    · rw [if_pos h]
      constructor
      · intro he
        exact ⟨.tail _ he, fun q => hu.1 (List.mem_map.2 ⟨e, he, by rw [q, h]⟩)⟩
      · rintro ⟨he, hk⟩
        cases he with
        | head => exact absurd h hk
        | tail _ he => exact he
    · rw [if_neg h, List.mem_cons, List.mem_cons, ih hu.2]
      constructor
      · rintro (rfl | ⟨h1, h2⟩)
        · exact ⟨.inl rfl, h⟩
        · exact ⟨.inr h1, h2⟩
      · rintro ⟨rfl | h1, h2⟩
        · exact .inl rfl
        · exact .inr ⟨h1, h2⟩

theorem get_del {l : List (Ent κ)} (hu : Uniq l) (k q : κ) : get (del l k) q = if q = k then none else get l q := by
  induction l with
  | nil => simp [del, idx, get]
  | cons x l ih =>
    have hu' := hu
    unfold Uniq at hu
    rw [List.map_cons, List.nodup_cons] at hu
    rw [del_cons]
    by_cases h : x.k = k
    · rw [if_pos h]
      by_cases hq : q = k
      · subst hq
        simp only [if_true]
        cases hg : get l q with
        | none => rfl
        | some v =>
          obtain ⟨e, he, hk, _⟩ := get_mem hg
          exact absurd (List.mem_map.2 ⟨e, he, by rw [hk, h]⟩) hu.1
      · rw [get_cons, if_neg hq, if_neg (fun e => hq (by rw [← e, h]))]
    · rw [if_neg h, get_cons, get_cons, ih hu.2]
      by_cases hq : q = k
      · subst hq; simp [h]
      · simp [hq]

theorem length_ins (l : List (Ent κ)) (k : κ) (v : Value) (c : Nat) : (ins l k v c).length = if (get l k).isSome then l.length else l.length + 1 := by
  unfold ins
  cases h : idx l k with
  | some i =>
    have : (get l k).isSome = true := by
      cases hg : get l k with
      | none => rw [idx_none.2 hg] at h; cases h
      | some v => rfl
    simp [this]
  | none => simp [idx_none.1 h]

theorem length_del (l : List (Ent κ)) (k : κ) : (del l k).length = if (get l k).isSome then l.length - 1 else l.length := by
  unfold del
  cases h : idx l k with
  | some i =>
    have : (get l k).isSome = true := by
      cases hg : get l k with
      | none => rw [idx_none.2 hg] at h; cases h
      | some v => rfl
    have hlt : i < l.length := by
      unfold idx at h
      rw [List.findIdx?_eq_some_iff_getElem] at h
      exact h.1
    simp [this, List.length_eraseIdx, hlt]
  | none => simp [idx_none.1 h]

/-- The stamps: each below the clock, none twice. -/
def Stamps (l : List (Ent κ)) (c : Nat) : Prop := (∀ e ∈ l, e.n < c) ∧ (l.map (·.n)).Nodup

theorem stamps_ins {l : List (Ent κ)} {c : Nat} (h : Stamps l c) (k : κ) (v : Value) : Stamps (ins l k v c) (insC l k c) := by
  unfold ins insC
  cases hi : idx l k with
  | some i =>
    refine ⟨fun e he => ?_, by simp only; rw [stamps_modify]; exact h.2⟩
    have : e.n ∈ (l.modify i fun e => { e with v := v }).map (·.n) := List.mem_map.2 ⟨e, he, rfl⟩
    rw [stamps_modify] at this
    obtain ⟨x, hx, e⟩ := List.mem_map.1 this
    exact e ▸ h.1 x hx
  | none =>
    refine ⟨fun e he => ?_, ?_⟩
    · simp only [List.mem_append, List.mem_singleton] at he
      rcases he with he | rfl
      · have := h.1 e he; show e.n < c + 1; omega
      · show c < c + 1; omega
    · simp only [List.map_append, List.map_cons, List.map_nil]
      rw [List.nodup_append]
      refine ⟨h.2, by simp, ?_⟩
      intro a ha b hb e
      simp only [List.mem_singleton] at hb
      rw [List.mem_map] at ha
      obtain ⟨x, hx, hxa⟩ := ha
      have := h.1 x hx
      omega

theorem stamps_del {l : List (Ent κ)} {c : Nat} (h : Stamps l c) (k : κ) : Stamps (del l k) c := by
  unfold del
  cases idx l k with
  | none => exact h
  | some i => exact ⟨fun e he => h.1 e ((List.eraseIdx_sublist l i).subset he), ((List.eraseIdx_sublist l i).map _).nodup h.2⟩
end
end Go.RM
