/-
  LawS4694CScript: 'wait' by a contract: the map is ranged over in any order.
-/
import Derived.Test.YbulkcseoCMap
set_option linter.unusedVariables false
namespace Go.Proofs.Ybulkcseo.C
open Go.RowKit
open Go.ChangeMaps (setBlock)

def seenOf (w : World) (r : Nat) : Nat := match w.heap[r]? with
  | some (.mapIter _ _ seen _) => seen.size
  | _ => 0

theorem Win.grow {w w' : World} {X S W M : Nat} {o k : Int} (h : Win w X S W M o k) (hX : X < w.heap.size) (hb : Below w.heap.size w w') : Win w' X S W M o k := h.block (hb.block X hX)

theorem nodup_inj {α β : Type} {f : α → β} : ∀ {l : List α}, (l.map f).Nodup → ∀ {a b : α}, a ∈ l → b ∈ l → f a = f b → a = b
  | x :: r, h, a, b, ha, hb, e => by
    rw [List.map_cons, List.nodup_cons] at h
    rcases List.mem_cons.1 ha with rfl | ha'
    · rcases List.mem_cons.1 hb with rfl | hb'
      · rfl
      · exact absurd (e ▸ List.mem_map.2 ⟨b, hb', rfl⟩) h.1
    · rcases List.mem_cons.1 hb with rfl | hb'
      · exact absurd (e ▸ List.mem_map.2 ⟨a, ha', rfl⟩) h.1
      · exact nodup_inj h.2 ha' hb' e
theorem uniq_eq {l : List (RM.Ent Nat)} (h : RM.Uniq l) {a b : RM.Ent Nat} (ha : a ∈ l) (hb : b ∈ l) (e : a.k = b.k) : a = b := nodup_inj h ha hb e
theorem stamp_eq {l : List (RM.Ent Nat)} (h : (l.map (·.n)).Nodup) {a b : RM.Ent Nat} (ha : a ∈ l) (hb : b ∈ l) (e : a.n = b.n) : a = b := nodup_inj h ha hb e

set_option maxHeartbeats 2000000 in
theorem wait_ (X S W M wt : Nat) (m : Nat → Nat) (l : List (RM.Ent Nat)) (c : Nat) (w : World) (h : Win w X S W M (num (fun s => oT W S (m s)) 8) (num (fun s => kT S (m s)) 8)) (hm : MP w M m l c) (hX : X ≠ M) (hXs : X < w.heap.size) (hS : S < 18446744073709551616) (hW : W < 18446744073709551616) (hwt : wt < 18446744073709551616) :
    Calls Yba.prog 9 #[.pointer (some ⟨X, 0, none⟩), .int .u64 wt] w fun e w' => e = .returned (.tuple #[]) ∧ Win w' X S wt M (num (fun s => oT wt S (m s)) 8) (num (fun s => kT S (m s)) 8) ∧ MP w' M m l c ∧ Tw X M w w' := by
  have H : Hid (Win w X S W M _ _) := h
  have HM : Hid (MP w M m l c) := hm
  have g2 := h.c2
  have g3 := h.c3
  have g4 := h.c4
  have g5 := h.c5
  have f2 := h.f2
  have f4 := h.f4
  have f5 := h.f5
  by_cases he : wt = W
  · subst he
    clear h hm
    go_enter Yba.func9, Yba.ntmps9
    go_wp2
    refine bodyPost_ret (results_none rfl _ _ _) rfl ?_
    exact ⟨rfl, H.out, HM.out, Tw.refl _ _ _⟩
  · have he' : ¬ (wt : Int) = (W : Int) := by omega
    have he2 : ((wt : Int) == (W : Int)) = false := by rw [beq_eq_false_iff_ne]; exact he'
    have hmem : RM.IsMap kvN (((w.setCell ⟨X, 2, none⟩ (.int .u64 wt)).setCell ⟨X, 4, none⟩ (.int .i64 0)).setCell ⟨X, 5, none⟩ (.int .i64 0)) M l c :=
      ((Below.heap_setCell _ _ _ _ hX.symm).trans ((Below.heap_setCell _ _ _ _ hX.symm).trans (Below.heap_setCell _ _ _ _ hX.symm))).trans hm.map
    have hr := run_range_map (P := Yba.prog) _ 42 30 30 M _ c Yba.underlying42 hmem
    clear h hm
    go_enter Yba.func9, Yba.ntmps9
    go_wp2_with fail
    have LO : Hid (∀ s, 8 ≤ s → oT wt S (m s) = false ∧ kT S (m s) = false) := fun s hs => by rw [HM.out.hi s hs]; simp [oT, kT]
    go_loopw [] (fun wr => ∃ (seen : Array Nat) (V : Nat → Bool), wr.heap[w.heap.size]? = some (.mapIter (some M) c seen c) ∧ Hid (MP wr M m l c) ∧ Hid (Win wr X S wt M (num (fun s => oT wt S (m s) && V s) 8) (num (fun s => kT S (m s) && V s) 8)) ∧
      Hid (∀ e ∈ l, V e.k = seen.contains e.n) ∧ Hid (Tw X M w wr) ∧ seen.size = num V 8) (fun wr => 8 - seenOf wr w.heap.size)
    case atStart =>
      have hz : ∀ p : Nat → Bool, num (fun s => p s && false) 8 = 0 := fun p => by simp [num]
      have w3 : Win (((w.setCell ⟨X, 2, none⟩ (.int .u64 wt)).setCell ⟨X, 4, none⟩ (.int .i64 0)).setCell ⟨X, 5, none⟩ (.int .i64 0)) X S wt M 0 0 := ((H.out.set2 wt).set4 0).set5 0
      have o3 : Off X w (((w.setCell ⟨X, 2, none⟩ (.int .u64 wt)).setCell ⟨X, 4, none⟩ (.int .i64 0)).setCell ⟨X, 5, none⟩ (.int .i64 0)) := (((Off.refl X w).set 2 _).set 4 _).set 5 _
      generalize ((w.setCell ⟨X, 2, none⟩ (.int .u64 wt)).setCell ⟨X, 4, none⟩ (.int .i64 0)).setCell ⟨X, 5, none⟩ (.int .i64 0) = wq at w3 o3 hmem ⊢
      have hs3 := o3.size
      have hMs : M < wq.heap.size := by rw [hs3]; exact HM.out.lt
      refine ⟨#[], fun _ => false, ?_, ?_, ?_, ?_, ?_, ?_⟩
      · rw [← hs3]; exact heap_alloc_new wq _
      · exact ⟨(Below.heap_alloc wq _ M hMs).trans hmem, HM.out.uq, HM.out.st, HM.out.gt, HM.out.hi, HM.out.bd, HM.out.ln, by simp; omega⟩
      · show Win _ X S wt M _ _
        rw [hz, hz]
        exact w3.block (Below.heap_alloc wq _ X (by omega))
      · intro e he; simp
      · exact (o3.tw M).trans ⟨rfl, rfl, rfl, by simp, fun j hj _ _ => Below.heap_alloc wq _ j hj⟩
      · simp [num]
    case round =>
      obtain ⟨seen, V, hit, MM, Wn, HV, T, hsn⟩ := hrel
      clear hr hmem g2 g3 g4 g5 f2 f4 f5 H
      have hMr : M ≠ w.heap.size := by have := HM.out.lt; omega
      have hXr : X ≠ w.heap.size := by omega
      have hold : ∀ x ∈ ((l.map (RM.Ent.raw kvN)).toArray).toList, x.born < c := fun x hx => by
        simp at hx
        obtain ⟨e, he, rfl⟩ := hx
        exact MM.out.st.1 e he
      rcases run_next_at (P := Yba.prog) wr 0 w.heap.size M c c seen _ c hit MM.out.map hold (Nat.le_refl _) with ⟨hleft, hnx⟩ | ⟨e, hel, w1, hw1, hnx⟩
      · have hall : ∀ e ∈ l, V e.k = true := fun e he => by
          rw [HV.out e he]
          have h0 : leftOf (l.map (RM.Ent.raw kvN)).toArray seen = #[] := Array.eq_empty_of_size_eq_zero hleft
          unfold leftOf at h0
          rw [Array.filter_eq_empty_iff] at h0
          have := h0 (RM.Ent.raw kvN e) (by simp; exact ⟨e, he, rfl⟩)
          simpa [RM.Ent.raw] using this
        have hone : ∀ s, m s ≠ 0 → V s = true := fun s hs => by
          have hg := MM.out.gt s
          rw [if_neg hs] at hg
          obtain ⟨e, he, rfl, _⟩ := RM.get_mem hg
          exact hall e he
        have n1 : num (fun s => oT wt S (m s) && V s) 8 = num (fun s => oT wt S (m s)) 8 := num_congr fun s _ => by
          by_cases e : m s = 0
          · simp [e, oT]
          · simp [hone s e]
        have n2 : num (fun s => kT S (m s) && V s) 8 = num (fun s => kT S (m s)) 8 := num_congr fun s _ => by
          by_cases e : m s = 0
          · simp [e, kT]
          · simp [hone s e]
        rw [n1, n2] at Wn
        clear n1 n2 hone hall hleft hold
        go_wp2
        refine bodyPost_end (results_none rfl _ _ _) rfl ?_
        exact ⟨rfl, Wn.out, MM.out, T.out⟩
      · have hel' := hel
        unfold leftOf at hel'
        simp at hel'
        obtain ⟨⟨e0, he0, rfl⟩, hns⟩ := hel'
        have hns' : seen.contains e0.n = false := by simpa [RM.Ent.raw] using hns
        have hget := RM.get_of_mem MM.out.uq he0
        rw [MM.out.gt] at hget
        have hne : m e0.k ≠ 0 := fun e => by rw [if_pos e] at hget; cases hget
        rw [if_neg hne] at hget
        have hval : e0.v = .int .u64 (m e0.k) := (Option.some.inj hget).symm
        have hk8 : e0.k < 8 := by
          apply Classical.byContradiction
          intro hc
          exact hne (MM.out.hi e0.k (by omega))
        have hVk : V e0.k = false := (HV.out e0 he0).trans hns'
        have hit1 : w1.heap[w.heap.size]? = some (.mapIter (some M) c seen c) := by rcases hw1 with rfl | rfl <;> exact hit
        have hmap1 : w1.heap[M]? = wr.heap[M]? := by rcases hw1 with rfl | rfl <;> rfl
        have hbl : ∀ j, j ≠ w.heap.size → (setBlock w1 w.heap.size (.mapIter (some M) c (seen.push (RM.Ent.raw kvN e0).born) c)).heap[j]? = wr.heap[j]? := fun j hj => (RM.heap_set_other _ hj).trans (by rcases hw1 with rfl | rfl <;> rfl)
        have hsz2 : (setBlock w1 w.heap.size (.mapIter (some M) c (seen.push (RM.Ent.raw kvN e0).born) c)).heap.size = wr.heap.size := by rcases hw1 with rfl | rfl <;> simp [setBlock]
        have hself : (setBlock w1 w.heap.size (.mapIter (some M) c (seen.push (RM.Ent.raw kvN e0).born) c)).heap[w.heap.size]? = some (.mapIter (some M) c (seen.push e0.n) c) := by
          have hlt : w.heap.size < w1.heap.size := by
            rcases Array.getElem?_eq_some_iff.1 hit1 with ⟨h, _⟩
            exact h
          simp [setBlock, hlt, RM.Ent.raw]
        have hen := run_entry_at (P := Yba.prog) _ w.heap.size M c seen _ c (RM.Ent.raw kvN e0) hself ((hbl M hMr).trans MM.out.map) (by simp; exact ⟨e0, he0, rfl⟩) (by
          have := MM.out.st.2
          simpa [List.map_map, RM.Ent.raw, Function.comp_def] using this)
        have hT2 : Tw X M w (setBlock w1 w.heap.size (.mapIter (some M) c (seen.push (RM.Ent.raw kvN e0).born) c)) := by
          refine ⟨?_, ?_, ?_, ?_, fun j h1 h2 h3 => (hbl j (by omega)).trans (T.out.block j h1 h2 h3)⟩
          · rcases hw1 with rfl | rfl <;> exact T.out.os
          · rcases hw1 with rfl | rfl <;> exact T.out.tape
          · rcases hw1 with rfl | rfl <;> exact T.out.output
          · rw [hsz2]; exact T.out.size
        generalize setBlock w1 w.heap.size (.mapIter (some M) c (seen.push (RM.Ent.raw kvN e0).born) c) = w2 at hnx hbl hsz2 hself hen hT2
        have e1 : (RM.Ent.raw kvN e0).key = .int .u64 (e0.k : Int) := rfl
        have e2 : (RM.Ent.raw kvN e0).val = .int .u64 (m e0.k) := hval
        rw [e1, e2] at hnx hen
        have W2 : Hid (Win w2 X S wt M _ _) := Wn.out.block (hbl X hXr)
        have M2 : Hid (MP w2 M m l c) := MM.out.block (hbl M hMr) (by omega)
        have T2 : Hid (Tw X M w w2) := hT2
        have bo := num_le (fun s => oT wt S (m s) && V s) 8
        have bk := num_le (fun s => kT S (m s) && V s) 8
        have bm := MM.out.bd e0.k
        have hseen : seenOf wr w.heap.size = seen.size := by unfold seenOf; rw [hit]
        clear MM Wn T hit1 hmap1 hbl hold hel hns hget hw1 e1 e2 hT2
        go_wp2_with fail
        refine (tally X S wt M (m e0.k) _ _ 1 w2 W2.out hS hwt bm (by omega) (by omega) (by omega)).mono ?_
        rintro e w3 ⟨rfl, h3, k3⟩
        have hr3 : w3.heap[w.heap.size]? = some (.mapIter (some M) c (seen.push e0.n) c) := (k3.block _ (Ne.symm hXr)).trans hself
        have hupd : ∀ p : Nat → Bool, (num (fun s => p s && (V s || decide (s = e0.k))) 8 : Int) = num (fun s => p s && V s) 8 + b2z (p e0.k) 1 := fun p => by
          have := num_upd (p := fun s => p s && V s) (q := fun s => p s && (V s || decide (s = e0.k))) (s := e0.k) (fun j hj => by simp [hj]) (n := 8) hk8
          simpa [hVk, b2z] using this
        have hcnt : num (fun s => V s || decide (s = e0.k)) 8 = num V 8 + 1 := by
          have t1 : (num (fun s => V s || decide (s = e0.k)) 8 : Int) = num V 8 + b2z (V e0.k) (-1) + b2z (V e0.k || decide (e0.k = e0.k)) 1 := num_upd (p := V) (q := fun s => V s || decide (s = e0.k)) (s := e0.k) (fun j hj => by simp [hj]) (n := 8) hk8
          have t2 : b2z (V e0.k) (-1) = 0 := by rw [hVk]; rfl
          have t3 : b2z (V e0.k || decide (e0.k = e0.k)) 1 = 1 := by simp [b2z]
          rw [t2, t3] at t1
          omega
        have hle := num_le (fun s => V s || decide (s = e0.k)) 8
        have hV2 : ∀ e ∈ l, (V e.k || decide (e.k = e0.k)) = (seen.push e0.n).contains e.n := fun e he => by
          by_cases hk : e.k = e0.k
          · have g1 := RM.get_of_mem M2.out.uq he
            have hee : e = e0 := uniq_eq M2.out.uq he he0 hk
            subst hee
            simp
          · have hn : e.n ≠ e0.n := fun hn => hk (by rw [stamp_eq M2.out.st.2 he he0 hn])
            rw [HV.out e he]
            simp [hk, hn]
        go_wp2
        go_roundw
        case rel =>
          refine ⟨seen.push e0.n, fun s => V s || decide (s = e0.k), hr3, M2.out.block (k3.block M hX.symm) (by rw [k3.size]; exact Nat.le_refl _), ?_, hV2, T2.out.trans (k3.tw M), by simp; omega⟩
          show Win w3 X S wt M _ _
          rw [hupd, hupd]
          exact h3
        case measure =>
          have hs3 : seenOf w3 w.heap.size = seen.size + 1 := by unfold seenOf; rw [hr3]; simp
          rw [hs3, hseen]
          omega
end Go.Proofs.Ybulkcseo.C
