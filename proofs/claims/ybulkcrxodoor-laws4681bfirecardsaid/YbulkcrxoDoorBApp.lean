/-
  LawS4681BFire: an append tells whether its row is the old one or a new one.
-/
import Derived.Test.YbulkcrxoDoorFPush
import Derived.Deep.DeepAppendRoom
import Derived.ArgAppend
set_option linter.unusedVariables false
namespace Go.Proofs.YbulkcrxoDoor.F
open Go.RowKit Go.Any

/-- The old row, or a new one. -/
def NewOr (w : World) (v v' : Value) : Prop := v'.ownBlock = v.ownBlock ∨ ∃ g, v'.ownBlock = some g ∧ w.heap.size ≤ g

theorem newOr_of {w w' : World} {e size n : Nat} {v v' : Value} {xs : List Value} (h : w'.ownsRow w.heap.size e size v' n xs) (hn : v'.ownBlock = none → v.ownBlock = none) : NewOr w v v' := by
  rcases h.2 with ⟨rfl, _⟩ | ⟨g, cap, cur, rfl, hg, _⟩
  · exact .inl ((hn rfl).symm ▸ rfl)
  · exact .inr ⟨g, rfl, hg⟩

theorem run_append_own2 {P : Program} (w : World) (base : Nat) (t ty e : TypeId) (i : TypeInfo) (z : Value) (size bytes : Nat) (ht : P.underlying t = some (.slice e)) (hi : P.info? e = some i) (hz : i.zero = some z)
    (hsize : i.size = size) (hby : i.bytes = bytes) (hzs : z.cells.size = size) (hsz : 0 < size)
    (v : Value) (n : Nat) (xs : List Value) (hown : w.ownsRow base e size v n xs)
    (a : Addr) (m c : Nat) (news : List Value) (hl : news.length = m * size) (hnews : ∀ j u, news[j]? = some u → w.cell? (a.add j) = some u) (h1 : ∀ u ∈ news, u.oneCell' = true)
    (h63 : n + m ≤ maxLen) (hbytes : (n + m) * bytes ≤ 140737488355328) (hbase : base ≤ w.heap.size) :
    ∃ v' w', (Builtin.append_ #[t, t] ty #[v, .slice (some a) m c]).run P w = .ok v' w' ∧ w'.ownsRow base e size v' (n + m) (xs ++ news) ∧ w.grownBy w' v.ownBlock ∧ NewOr w v v' := by
  obtain ⟨v', w', hr, h2, h3, h4⟩ := run_append_own (P := P) w base t ty e i z size bytes ht hi hz hsize hby hzs hsz v n xs hown a m c news hl hnews h1 h63 hbytes hbase
  refine ⟨v', w', hr, h2, h3, ?_⟩
  rcases hown.2 with ⟨rfl, rfl⟩ | ⟨g, cap, cur, rfl, hbg, hg, hnc, hcm, hcs, htake⟩
  · have hx : xs = [] := List.eq_nil_of_length_eq_zero (by simpa using hown.1)
    subst hx
    obtain ⟨v2, w2, hr2, k2, _, _⟩ := run_append_own (P := P) w w.heap.size t ty e i z size bytes ht hi hz hsize hby hzs hsz (.slice none 0 0) 0 [] (World.ownsRow_nil w _ e size) a m c news hl hnews h1 h63 hbytes (Nat.le_refl _)
    rw [hr] at hr2
    injection hr2 with q1 q2
    subst q1 q2
    exact newOr_of k2 fun _ => rfl
  · by_cases hroom : n + m ≤ cap
    · obtain ⟨w2, hr2, _, _⟩ := run_append_own_spare (P := P) w base t ty e i size ht hi hsize g n cap xs hown a m c news hl hnews h1 hroom
      rw [hr] at hr2
      injection hr2 with q1 q2
      subst q1
      exact .inl rfl
    · obtain ⟨v2, w2, hr2, k2, _⟩ := run_append_arg_grows (P := P) w t ty e i z size bytes ht hi hz hsize hby hzs hsz ⟨g, 0, none⟩ n cap xs hown.1 (hown.cells (g := g) rfl) a m c news hl hnews (by omega) h63 hbytes
      rw [hr] at hr2
      injection hr2 with q1 q2
      subst q1 q2
      refine newOr_of k2 fun q => ?_
      rcases k2.2 with ⟨_, q0⟩ | ⟨g', cap', cur', rfl, _⟩
      · omega
      · cases q

theorem wpList_append_own2 {P : Program} (w : World) {ops : Array Oper} {rest : List Oper} {o : Oper} {a : Act} {Q : Exit → Act → World → Prop} (hgd : o.guard = none) (s x : Operand) (t : TypeId)
    (ho : o.op = .call { callee := .builtin .append, args := #[s, x], argTypes := #[t, t] })
    (base : Nat) (e : TypeId) (i : TypeInfo) (z : Value) (size bytes : Nat) (ht : P.underlying t = some (.slice e)) (hi : P.info? e = some i) (hz : i.zero = some z)
    (hsize : i.size = size) (hby : i.bytes = bytes) (hzs : z.cells.size = size) (hsz : 0 < size)
    (v : Value) (n : Nat) (xs : List Value) (hs : a.eval s = v) (hown : w.ownsRow base e size v n xs)
    (ad : Addr) (m c : Nat) (news : List Value) (hx : a.eval x = .slice (some ad) m c) (hl : news.length = m * size) (hnews : ∀ j u, news[j]? = some u → w.cell? (ad.add j) = some u) (h1 : ∀ u ∈ news, u.oneCell' = true)
    (h63 : n + m ≤ maxLen) (hbytes : (n + m) * bytes ≤ 140737488355328) (hbase : base ≤ w.heap.size)
    (h : ∀ v' w', w'.ownsRow base e size v' (n + m) (xs ++ news) → w.grownBy w' v.ownBlock → NewOr w v v' → wpList P ops Q rest (a.put o.dst v') w') : wpList P ops Q (o :: rest) a w := by
  refine wpList_plain hgd fun K hK => ?_
  obtain ⟨v', w', hr, h2, h3, h4⟩ := run_append_own2 (P := P) w base t o.type e i z size bytes ht hi hz hsize hby hzs hsz v n xs hown ad m c news hl hnews h1 h63 hbytes hbase
  unfold Oper.wp execOp
  simp only [ho, resolve, invoke, builtin, Sem.run_bind, Sem.run_pure, Result.andThen_ok, List.map_toArray, List.map_cons, List.map_nil, hs, hx, hr]
  exact hK _ _ (h v' w' h2 h3 h4)
end Go.Proofs.YbulkcrxoDoor.F
