/-
  LawS4694CScript: the window's map against the plain model; 'broadcast', 'acked' by contracts.
-/
import Derived.Test.YbulkcseoCWin
set_option linter.unusedVariables false
namespace Go.Proofs.Ybulkcseo.C
open Go.RowKit
open Go.ChangeMaps (setBlock)

def num (p : Nat → Bool) : Nat → Nat
  | 0 => 0
  | n + 1 => num p n + (if p n = true then 1 else 0)
theorem num_le (p : Nat → Bool) : ∀ n, num p n ≤ n
  | 0 => Nat.le_refl _
  | n + 1 => by
    have := num_le p n
    show num p n + _ ≤ n + 1
    split <;> omega
theorem num_congr {p q : Nat → Bool} : ∀ {n : Nat}, (∀ j, j < n → p j = q j) → num p n = num q n
  | 0, _ => rfl
  | n + 1, h => by
    show num p n + _ = num q n + _
    rw [num_congr (n := n) (fun j hj => h j (by omega)), h n (by omega)]
theorem num_upd {p q : Nat → Bool} {s : Nat} (h : ∀ j, j ≠ s → q j = p j) : ∀ {n : Nat}, s < n → (num q n : Int) = num p n + b2z (p s) (-1) + b2z (q s) 1
  | 0, hs => by omega
  | n + 1, hs => by
    by_cases e : s = n
    · subst e
      have h1 : num q s = num p s := num_congr fun j hj => h j (by omega)
      show ((num q s + _ : Nat) : Int) = ((num p s + _ : Nat) : Int) + _ + _
      rw [h1]
      unfold b2z
      cases p s <;> cases q s <;> simp <;> omega
    · have ih := num_upd h (n := n) (by omega)
      show ((num q n + _ : Nat) : Int) = ((num p n + _ : Nat) : Int) + _ + _
      rw [h n (by omega)]
      push_cast
      omega

def upd (m : Nat → Nat) (s v : Nat) : Nat → Nat := fun j => if j = s then v else m j
theorem upd_same (m : Nat → Nat) (s v : Nat) : upd m s v s = v := if_pos rfl
theorem upd_other (m : Nat → Nat) {s v j : Nat} (h : j ≠ s) : upd m s v j = m j := if_neg h
theorem upd_self (m : Nat → Nat) (s : Nat) : upd m s (m s) = m := by
  funext j
  unfold upd
  split
  · subst_vars; rfl
  · rfl

theorem num_upd' (p : Nat → Bool) (m : Nat → Nat) {s v : Nat} (hs : s < 8) : (num (fun j => p (upd m s v j)) 8 : Int) = num (fun j => p (m j)) 8 + b2z (p (m s)) (-1) + b2z (p v) 1 := by
  have := num_upd (p := fun j => p (m j)) (q := fun j => p (upd m s v j)) (s := s) (fun j hj => by rw [upd_other m hj]) (n := 8) hs
  simpa [upd_same] using this

def kvN (k : Nat) : Value := .int .u64 (k : Int)
theorem natKeys (w : World) : RM.KeyT kvN Yba.prog 30 w :=
  RM.keyT_now kvN w Yba.underlying30 (fun _ => rfl) (fun a b => by
    show some (decide ((a : Int) = (b : Int))) = some (decide (a = b))
    congr 1
    rw [decide_eq_decide]; omega) (fun a b h => by unfold kvN at h; injection h with _ h; omega) (fun k => by
    unfold kvN
    simp [Instr.sameBits])
theorem zero30 (w : World) : (zeroValue 30).run Yba.prog w = .ok (.int .u64 0) w := by kernel_rfl

/-- The map reads as the model. -/
structure MP (w : World) (M : Nat) (m : Nat → Nat) (l : List (RM.Ent Nat)) (c : Nat) : Prop where
  map : RM.IsMap kvN w M l c
  uq : RM.Uniq l
  st : RM.Stamps l c
  gt : ∀ s, RM.get l s = if m s = 0 then none else some (.int .u64 (m s))
  hi : ∀ s, 8 ≤ s → m s = 0
  bd : ∀ s, m s < 18446744073709551616
  ln : l.length = num (fun s => decide (m s ≠ 0)) 8
  lt : M < w.heap.size

theorem MP.block {w w' : World} {M : Nat} {m : Nat → Nat} {l : List (RM.Ent Nat)} {c : Nat} (h : MP w M m l c) (hb : w'.heap[M]? = w.heap[M]?) (hs : w.heap.size ≤ w'.heap.size) : MP w' M m l c :=
  ⟨hb.trans h.map, h.uq, h.st, h.gt, h.hi, h.bd, h.ln, Nat.lt_of_lt_of_le h.lt hs⟩
theorem MP.look {w : World} {M : Nat} {m : Nat → Nat} {l : List (RM.Ent Nat)} {c : Nat} (h : MP w M m l c) (s : Nat) : (Instr.lookup 42 (.map (some M)) (.int .u64 (s : Int)) false).run Yba.prog w = .ok (.int .u64 (m s)) w := by
  have := RM.run_lookup Yba.underlying42 (natKeys w) h.map (zero30 w) s
  rw [h.gt s] at this
  refine this.trans ?_
  by_cases e : m s = 0
  · simp [e]
  · simp [e]
theorem MP.look_ok {w : World} {M : Nat} {m : Nat → Nat} {l : List (RM.Ent Nat)} {c : Nat} (h : MP w M m l c) (s : Nat) : (Instr.lookup 42 (.map (some M)) (.int .u64 (s : Int)) true).run Yba.prog w = .ok (.tuple #[.int .u64 (m s), .bool (decide (m s ≠ 0))]) w := by
  have := RM.run_lookup_ok Yba.underlying42 (natKeys w) h.map (zero30 w) s
  rw [h.gt s] at this
  refine this.trans ?_
  by_cases e : m s = 0
  · simp [e]
  · simp [e]
theorem MP.put {w : World} {M : Nat} {m : Nat → Nat} {l : List (RM.Ent Nat)} {c : Nat} (h : MP w M m l c) (s v : Nat) (hs : s < 8) (hv : v ≠ 0) (hb : v < 18446744073709551616) :
    ∃ w', (Instr.mapUpdate 42 (.map (some M)) (.int .u64 (s : Int)) (.int .u64 (v : Int))).run Yba.prog w = .ok () w' ∧ (∃ l' c', MP w' M (upd m s v) l' c') ∧ (∀ j, j ≠ M → w'.heap[j]? = w.heap[j]?) ∧ w'.heap.size = w.heap.size ∧ w'.os = w.os ∧ w'.tape = w.tape ∧ w'.output = w.output := by
  refine ⟨_, RM.run_update Yba.underlying42 (natKeys w) h.map s (.int .u64 (v : Int)), ⟨_, _, RM.isMap_set h.map, RM.uniq_ins h.uq _ _ _, RM.stamps_ins h.st _ _, fun q => ?_, fun q hq => ?_, fun q => ?_, ?_, by simpa [setBlock] using h.lt⟩, fun j hj => RM.heap_set_other _ hj, by simp [setBlock], rfl, rfl, rfl⟩
  · rw [RM.get_ins, h.gt]
    by_cases e : q = s
    · subst e; rw [upd_same]; simp [hv]
    · rw [upd_other m e]; simp [e]
  · rw [upd_other m (by omega)]; exact h.hi q hq
  · by_cases e : q = s
    · subst e; rw [upd_same]; exact hb
    · rw [upd_other m e]; exact h.bd q
  · rw [RM.length_ins, h.gt, h.ln]
    have := num_upd' (fun x => decide (x ≠ 0)) m (s := s) (v := v) hs
    by_cases e : m s = 0
    · simp [e, hv, b2z] at this ⊢; omega
    · simp [e, hv, b2z] at this ⊢; omega
theorem MP.drop {w : World} {M : Nat} {m : Nat → Nat} {l : List (RM.Ent Nat)} {c : Nat} (h : MP w M m l c) (s : Nat) (hs : s < 8) (ty t2 : TypeId) :
    ∃ w', (Builtin.delete_ #[42, t2] ty #[.map (some M), .int .u64 (s : Int)]).run Yba.prog w = .ok (.tuple #[]) w' ∧ (∃ l' c', MP w' M (upd m s 0) l' c') ∧ (∀ j, j ≠ M → w'.heap[j]? = w.heap[j]?) ∧ w'.heap.size = w.heap.size ∧ w'.os = w.os ∧ w'.tape = w.tape ∧ w'.output = w.output := by
  refine ⟨_, RM.run_delete Yba.underlying42 (natKeys w) h.map s ty t2, ⟨_, _, RM.isMap_set h.map, RM.uniq_del h.uq _, RM.stamps_del h.st _, fun q => ?_, fun q hq => ?_, fun q => ?_, ?_, by simpa [setBlock] using h.lt⟩, fun j hj => RM.heap_set_other _ hj, by simp [setBlock], rfl, rfl, rfl⟩
  · rw [RM.get_del h.uq, h.gt]
    by_cases e : q = s
    · subst e; rw [upd_same]; simp
    · rw [upd_other m e]; simp [e]
  · by_cases e : q = s
    · subst e; rw [upd_same]
    · rw [upd_other m e]; exact h.hi q hq
  · by_cases e : q = s
    · subst e; rw [upd_same]; decide
    · rw [upd_other m e]; exact h.bd q
  · rw [RM.length_del, h.gt, h.ln]
    have := num_upd' (fun x => decide (x ≠ 0)) m (s := s) (v := 0) hs
    by_cases e : m s = 0
    · simp [e, b2z] at this ⊢; omega
    · simp [e, b2z] at this ⊢; omega

/-- Of the old blocks none but X and M has turned. -/
structure Tw (X M : Nat) (w w' : World) : Prop where
  os : w'.os = w.os
  tape : w'.tape = w.tape
  output : w'.output = w.output
  size : w.heap.size ≤ w'.heap.size
  block : ∀ j, j < w.heap.size → j ≠ X → j ≠ M → w'.heap[j]? = w.heap[j]?
theorem Tw.refl (X M : Nat) (w : World) : Tw X M w w := ⟨rfl, rfl, rfl, Nat.le_refl _, fun _ _ _ _ => rfl⟩
theorem Tw.trans {X M : Nat} {a b c : World} (h : Tw X M a b) (k : Tw X M b c) : Tw X M a c := ⟨k.os.trans h.os, k.tape.trans h.tape, k.output.trans h.output, Nat.le_trans h.size k.size, fun j h1 h2 h3 => (k.block j (Nat.lt_of_lt_of_le h1 h.size) h2 h3).trans (h.block j h1 h2 h3)⟩
theorem Off.tw {X : Nat} {w w' : World} (h : Off X w w') (M : Nat) : Tw X M w w' := ⟨h.os, h.tape, h.output, Nat.le_of_eq h.size.symm, fun j _ h2 _ => h.block j h2⟩
theorem Tw.below {X M B : Nat} {w w' a : World} (h : Tw X M w w') (k : Below B a w) (hX : B ≤ X) (hM : B ≤ M) (hB : B ≤ w.heap.size) : Below B a w' :=
  k.trans ⟨h.os, h.tape, h.output, h.size, fun j hj => h.block j (Nat.lt_of_lt_of_le hj hB) (by omega) (by omega)⟩

theorem b2z_bd (b : Bool) : -1 ≤ b2z b (-1) ∧ b2z b (-1) ≤ 0 ∧ 0 ≤ b2z b 1 ∧ b2z b 1 ≤ 1 ∧ b2z b (-1) + b2z b 1 = 0 := by cases b <;> simp [b2z]

theorem or_ne {a b : Nat} (h : b ≠ 0) : a ||| b ≠ 0 := fun e => by
  have : b ≤ a ||| b := Nat.right_le_or
  omega

set_option maxHeartbeats 2000000 in
theorem broadcast (X S W M s to : Nat) (o k : Int) (m : Nat → Nat) (l : List (RM.Ent Nat)) (c : Nat) (w : World) (h : Win w X S W M o k) (hm : MP w M m l c) (hX : X ≠ M) (hS : S < 18446744073709551616) (hW : W < 18446744073709551616) (hto : to < 18446744073709551616)
    (hs : s < 8) (ho : 0 ≤ o ∧ o ≤ 8) (hk : 0 ≤ k ∧ k ≤ 8) :
    Calls Yba.prog 12 #[.pointer (some ⟨X, 0, none⟩), .int .u64 s, .int .u64 to] w fun e w' => e = .returned (.tuple #[]) ∧ Win w' X S W M (o + b2z (oT W S (m s)) (-1) + b2z (oT W S (m s ||| to)) 1) (k + b2z (kT S (m s)) (-1) + b2z (kT S (m s ||| to)) 1) ∧ (∃ l' c', MP w' M (upd m s (m s ||| to)) l' c') ∧ Tw X M w w' := by
  have H : Hid (Win w X S W M o k) := h
  have HM : Hid (MP w M m l c) := hm
  by_cases h0 : to = 0
  · subst h0
    clear h hm
    go_enter Yba.func12, Yba.ntmps12
    go_wp2
    refine bodyPost_ret (results_none rfl _ _ _) rfl ?_
    rw [Nat.or_zero, upd_self]
    refine ⟨rfl, ?_, ⟨_, _, HM.out⟩, Tw.refl _ _ _⟩
    have b1 := b2z_bd (oT W S (m s))
    have b2 := b2z_bd (kT S (m s))
    have e1 : o + b2z (oT W S (m s)) (-1) + b2z (oT W S (m s)) 1 = o := by omega
    have e2 : k + b2z (kT S (m s)) (-1) + b2z (kT S (m s)) 1 = k := by omega
    rw [e1, e2]
    exact H.out
  · have h0' : ¬ (to : Int) = 0 := by omega
    have bm := hm.bd s
    have blt : m s ||| to < 18446744073709551616 := Nat.or_lt_two_pow (n := 64) bm hto
    have e1 := u64_or_nat (m s) to bm hto
    have hl := hm.look s
    obtain ⟨w1, hp, ⟨l', c', hm1⟩, hb1, hs1, ho1, ht1, hu1⟩ := hm.put s (m s ||| to) hs (or_ne h0) blt
    have g3 := h.c3
    have h1 : Hid (Win w1 X S W M o k) := h.block (hb1 X hX)
    have g3' := h1.out.c3
    have HM1 : Hid (MP w1 M (upd m s (m s ||| to)) l' c') := hm1
    have T1 : Hid (Tw X M w w1) := ⟨ho1, ht1, hu1, Nat.le_of_eq hs1.symm, fun j _ _ h3 => hb1 j h3⟩
    have b1 := b2z_bd (oT W S (m s))
    have b2 := b2z_bd (kT S (m s))
    have HB : Hid ((-1 ≤ b2z (oT W S (m s)) (-1) ∧ b2z (oT W S (m s)) (-1) ≤ 0) ∧ (-1 ≤ b2z (kT S (m s)) (-1) ∧ b2z (kT S (m s)) (-1) ≤ 0)) := ⟨⟨b1.1, b1.2.1⟩, ⟨b2.1, b2.2.1⟩⟩
    clear h hm hm1 hb1 ho1 ht1 hu1 b1 b2
    go_enter Yba.func12, Yba.ntmps12
    go_wp2_with fail
    refine (tally X S W M (m s) o k (-1) w1 h1.out hS hW bm (by omega) (by omega) (by omega)).mono ?_
    rintro e w2 ⟨rfl, h2, k2⟩
    have H2 : Hid (Win w2 X S W M (o + b2z (oT W S (m s)) (-1)) (k + b2z (kT S (m s)) (-1))) := h2
    have K2 : Hid (Off X w1 w2) := k2
    clear h2 k2
    go_wp2_with fail
    refine (tally X S W M (m s ||| to) _ _ 1 w2 H2.out hS hW blt (by have := HB.out; omega) (by have := HB.out; omega) (by omega)).mono ?_
    rintro e w3 ⟨rfl, h3, k3⟩
    go_wp2
    refine bodyPost_end (results_none rfl _ _ _) rfl ?_
    refine ⟨rfl, h3, ⟨_, _, HM1.out.block ((k3.block M hX.symm).trans (K2.out.block M hX.symm)) ?_⟩, T1.out.trans ((K2.out.tw M).trans (k3.tw M))⟩
    rw [k3.size, K2.out.size]
    exact Nat.le_refl _

set_option maxHeartbeats 2000000 in
theorem acked (X S W M s by_ : Nat) (o k : Int) (m : Nat → Nat) (l : List (RM.Ent Nat)) (c : Nat) (w : World) (h : Win w X S W M o k) (hm : MP w M m l c) (hX : X ≠ M) (hS : S < 18446744073709551616) (hW : W < 18446744073709551616) (hto : by_ < 18446744073709551616)
    (hs : s < 8) (ho : 0 ≤ o ∧ o ≤ 8) (hk : 0 ≤ k ∧ k ≤ 8) :
    Calls Yba.prog 13 #[.pointer (some ⟨X, 0, none⟩), .int .u64 s, .int .u64 by_] w fun e w' => e = .returned (.tuple #[]) ∧ Win w' X S W M (o + b2z (oT W S (m s)) (-1) + b2z (oT W S (m s &&& (18446744073709551615 - by_))) 1) (k + b2z (kT S (m s)) (-1) + b2z (kT S (m s &&& (18446744073709551615 - by_))) 1) ∧ (∃ l' c', MP w' M (upd m s (m s &&& (18446744073709551615 - by_))) l' c') ∧ Tw X M w w' := by
  have H : Hid (Win w X S W M o k) := h
  have HM : Hid (MP w M m l c) := hm
  have g3 := h.c3
  by_cases h0 : m s = 0
  · have hl := hm.look_ok s
    have hd : decide (m s ≠ 0) = false := by simp [h0]
    rw [hd, h0] at hl
    clear h hm
    go_enter Yba.func13, Yba.ntmps13
    go_wp2
    refine bodyPost_ret (results_none rfl _ _ _) rfl ?_
    have e0 : m s &&& (18446744073709551615 - by_) = m s := by rw [h0]; simp
    rw [e0, upd_self]
    refine ⟨rfl, ?_, ⟨_, _, HM.out⟩, Tw.refl _ _ _⟩
    have b1 := b2z_bd (oT W S (m s))
    have b2 := b2z_bd (kT S (m s))
    have e1 : o + b2z (oT W S (m s)) (-1) + b2z (oT W S (m s)) 1 = o := by omega
    have e2 : k + b2z (kT S (m s)) (-1) + b2z (kT S (m s)) 1 = k := by omega
    rw [e1, e2]
    exact H.out
  · have hl := hm.look_ok s
    have hd : decide (m s ≠ 0) = true := by simp [h0]
    rw [hd] at hl
    have bm := hm.bd s
    have blt : m s &&& (18446744073709551615 - by_) < 18446744073709551616 := Nat.lt_of_le_of_lt Nat.and_le_left bm
    have e1 := u64_andNot_nat (m s) by_ bm hto
    have b1 := b2z_bd (oT W S (m s))
    have b2 := b2z_bd (kT S (m s))
    have HB : Hid ((-1 ≤ b2z (oT W S (m s)) (-1) ∧ b2z (oT W S (m s)) (-1) ≤ 0) ∧ (-1 ≤ b2z (kT S (m s)) (-1) ∧ b2z (kT S (m s)) (-1) ≤ 0)) := ⟨⟨b1.1, b1.2.1⟩, ⟨b2.1, b2.2.1⟩⟩
    clear h hm b1 b2 hd
    generalize hv : m s &&& (18446744073709551615 - by_) = v at blt e1 ⊢
    go_enter Yba.func13, Yba.ntmps13
    go_wp2_with fail
    refine (tally X S W M (m s) o k (-1) w H.out hS hW bm (by omega) (by omega) (by omega)).mono ?_
    rintro e w2 ⟨rfl, h2, k2⟩
    have H2 : Hid (Win w2 X S W M (o + b2z (oT W S (m s)) (-1)) (k + b2z (kT S (m s)) (-1))) := h2
    have K2 : Hid (Off X w w2) := k2
    clear h2 k2
    go_wp2_with fail
    refine (tally X S W M v _ _ 1 w2 H2.out hS hW blt (by have := HB.out; omega) (by have := HB.out; omega) (by omega)).mono ?_
    rintro e w3 ⟨rfl, h3, k3⟩
    have hm3 : MP w3 M m l c := HM.out.block ((k3.block M hX.symm).trans (K2.out.block M hX.symm)) (by rw [k3.size, K2.out.size]; exact Nat.le_refl _)
    have T3 : Hid (Tw X M w w3) := (K2.out.tw M).trans (k3.tw M)
    have H3 : Hid (Win w3 X S W M _ _) := h3
    have g3' := h3.c3
    by_cases hv0 : v = 0
    · obtain ⟨w4, hp, ⟨l', c', hm4⟩, hb4, hs4, ho4, ht4, hu4⟩ := hm3.drop s hs 0 30
      have T4 : Hid (Tw X M w3 w4) := ⟨ho4, ht4, hu4, Nat.le_of_eq hs4.symm, fun j _ _ h3 => hb4 j h3⟩
      have H4 : Hid (Win w4 X S W M _ _) := h3.block (hb4 X hX)
      have HM4 : Hid (MP w4 M (upd m s 0) l' c') := hm4
      clear h3 k3 hm3 hm4 hb4 ho4 ht4 hu4
      subst hv0
      go_wp2_with fail
      refine bodyPost_ret (results_none rfl _ _ _) rfl ?_
      exact ⟨rfl, H4.out, ⟨_, _, HM4.out⟩, T3.out.trans T4.out⟩
    · have hv0' : ¬ (v : Int) = 0 := by omega
      obtain ⟨w4, hp, ⟨l', c', hm4⟩, hb4, hs4, ho4, ht4, hu4⟩ := hm3.put s v hs hv0 blt
      have T4 : Hid (Tw X M w3 w4) := ⟨ho4, ht4, hu4, Nat.le_of_eq hs4.symm, fun j _ _ h3 => hb4 j h3⟩
      have H4 : Hid (Win w4 X S W M _ _) := h3.block (hb4 X hX)
      have HM4 : Hid (MP w4 M (upd m s v) l' c') := hm4
      clear h3 k3 hm3 hm4 hb4 ho4 ht4 hu4
      go_wp2
      refine bodyPost_end (results_none rfl _ _ _) rfl ?_
      exact ⟨rfl, H4.out, ⟨_, _, HM4.out⟩, T3.out.trans T4.out⟩
end Go.Proofs.Ybulkcseo.C
