/-
  LawS4681BFire: 'Server.fire' by a contract.
-/
import Derived.Test.YbulkcrxoDoorBAux
import Derived.Test.YbulkcrxoDoorFLs
set_option linter.unusedVariables false
namespace Go.Proofs.YbulkcrxoDoor.F
open Go.RowKit Go.Any

/-- Where all lies between two calls of 'notify'. -/
structure St (b1 b2 V X BK BS AB lo : Nat) (SB : Fin 4 → Nat) (CB : Fin 4 → Option (Nat × Bool)) (IK : Key → Nat) (JS : Fin 4 → Nat) (ρ : Nat → Role) (w : World) (A : Nat → Wt) (N : Nat) (a0 : Int) (Fs : Fin 4 → List Value) (Q : Fin 4 → Int) (RB : Fin 4 → Option Nat) : Prop where
  t : Tbl w b1 b2 X BK BS AB SB IK JS ρ A N
  s : Sess w SB
  g : ∀ i, Gn w lo (SB i) (Fs i) (Q i) (RB i) (CB i)
  v : Srv w V X a0 a0
  ha : 0 ≤ a0 ∧ a0 ≤ 100
  hF : ∀ i, (Fs i).length ≤ 4
  hQ : ∀ i, 0 ≤ Q i ∧ Q i ≤ 500
  hR : ∀ i g, RB i = some g → lo ≤ g ∧ g < w.heap.size
  hd : ∀ i j g, RB i = some g → RB j = some g → i = j
  hl : lo ≤ w.heap.size
  e0 : w.cell? ⟨1, 0, none⟩ = some (.int .i32 (-1))
  e1 : w.cell? ⟨1, 1, none⟩ = some (.int .i64 (-1))
  e2 : w.cell? ⟨1, 2, none⟩ = some (.int .i32 0)
  s1 : ∀ i, 1 < SB i
  c1 : ∀ i C cl, CB i = some (C, cl) → 1 < C
section
variable {b1 b2 V X BK BS AB lo : Nat} {SB : Fin 4 → Nat} {CB : Fin 4 → Option (Nat × Bool)} {IK : Key → Nat} {JS : Fin 4 → Nat} {ρ : Nat → Role} {w w' : World} {A : Nat → Wt} {N : Nat} {a0 : Int} {Fs : Fin 4 → List Value} {Q : Fin 4 → Int} {RB : Fin 4 → Option Nat}
theorem Gn.below {S : Nat} {fs : List Value} {q : Int} {rb : Option Nat} {c : Option (Nat × Bool)} (h : Gn w lo S fs q rb c) (k : Below w.heap.size w w') : Gn w' lo S fs q rb c := by
  have hS : S < w.heap.size := by
    match c, h with
    | none, ⟨p, h1, _⟩ => exact blk_lt h1.blk
    | some (C, true), h => exact blk_lt h.1.blk
    | some (C, false), h => exact blk_lt h.1.blk
  refine h.keep (k.block _ hS) (fun C cl e => ?_) (fun g hg => k.block g (h.rlt g hg).2)
  subst e
  match cl, h with
  | true, h => exact k.block _ (blk_lt h.2.1.blk)
  | false, ⟨_, o, h, _⟩ => exact k.block _ (blk_lt h.blk)
theorem St.below (h : St b1 b2 V X BK BS AB lo SB CB IK JS ρ w A N a0 Fs Q RB) (k : Below w.heap.size w w') : St b1 b2 V X BK BS AB lo SB CB IK JS ρ w' A N a0 Fs Q RB := by
  have l1 : 1 < w.heap.size := World.block_lt_of_cell? _ _ h.e0
  have lV : V < w.heap.size := World.block_lt_of_cell? _ _ h.v.s
  have hs := k.size
  exact ⟨h.t.below k, h.s.below k, fun i => (h.g i).below k, h.v.block (k.block V lV), h.ha, h.hF, h.hQ, fun i g hg => ⟨(h.hR i g hg).1, by have := (h.hR i g hg).2; omega⟩, h.hd, by have := h.hl; omega, (k.cell (p := ⟨1, 0, none⟩) l1).trans h.e0, (k.cell (p := ⟨1, 1, none⟩) l1).trans h.e1, (k.cell (p := ⟨1, 2, none⟩) l1).trans h.e2, h.s1, h.c1⟩

/-- Who got the frame; what each holds then. -/
def addF (Fs : Fin 4 → List Value) (D : Fin 4 → Bool) (fr : Value) : Fin 4 → List Value := fun i => if D i = true then Fs i ++ [fr] else Fs i
def addQ (Q : Fin 4 → Int) (D : Fin 4 → Bool) (len : Int) : Fin 4 → Int := fun i => if D i = true then Q i + len else Q i
def frv (FB : Nat) (p : ByteArray) : Value := .slice (some ⟨FB, 0, none⟩) (32 + p.size) 64

/-- 'notify' once. -/
theorem step (ev : Int) (u : Nat) (p : ByteArray) (KD n : Nat) (kd : Nat → Nat) (h : St b1 b2 V X BK BS AB lo SB CB IK JS ρ w A N a0 Fs Q RB) (he : Env2 b1 b2 V X AB SB CB) (hn : n ≤ 1024) (hk : ∀ j, j < n → w.cell? ⟨KD, j, none⟩ = some (.int .u8 (kd j))) (hKD : b2 ≤ KD) (hp : p.size ≤ 8) (hwr : IntKind.u32.wrap ev = (u : Int)) (hu : u < 4294967296) (hb1 : 2 ≤ b1) (hVl : V < lo)
    (hF : ∀ i, (Fs i).length ≤ 3) (hQ : ∀ i, Q i ≤ 400) (ha : a0 ≤ 90) :
    Calls Ybad.prog 9 #[.pointer (some ⟨V, 0, none⟩), .int .i32 ev, .string p, .slice (some ⟨KD, 0, none⟩) n n] w fun e w' => ∃ A' N' D FB RB', e = .returned (.tuple #[]) ∧ St b1 b2 V X BK BS AB lo SB CB IK JS ρ w' A' N' (a0 + cnt fun i => D i && isOpen (CB i)) (addF Fs D (frv FB p)) (addQ Q D (32 + p.size : Nat)) RB' ∧
      (∀ x, Has A' N' x ↔ Has A N x ∧ ¬ Hit p kd n x) ∧ (∀ s, D s = true ↔ ∃ x, Has A N x ∧ x.2 = s ∧ Hit p kd n x) ∧ ((∃ s, D s = true) → Buf w' FB 64 (frm u p)) ∧ (w.heap.size ≤ FB ∧ ∀ i, RB' i ≠ some FB) ∧ Fr (fun j => b1 ≤ j ∨ (∃ i, j = SB i) ∨ ∃ i cl, CB i = some (j, cl)) w w' ∧ Alien3 X AB V SB CB RB w w' := by
  refine (notify2 b1 b2 V X BK BS AB lo SB CB IK JS ρ A N ev u p (some ⟨KD, 0, none⟩) n n kd w h.t h.s he hn (fun j hj => ⟨KD, rfl, hk j hj, hKD⟩) hp hwr hu hb1 h.e0 h.e1 h.e2 a0 Fs Q RB h.g h.v h.ha h.hF h.hQ h.hR h.hd h.hl hVl).mono ?_
  rintro e w' ⟨A', N', D, FB, RB', rfl, T9, H9, D9, AF9, BF9, FB9, R9, d9, F9, X9⟩
  have hcn := cnt_bd fun i => D i && isOpen (CB i)
  have l1 : 1 < w.heap.size := World.block_lt_of_cell? _ _ h.e0
  have b1e : w'.heap[1]? = w.heap[1]? := F9.block 1 l1 (by
    rintro (q | ⟨i, q⟩ | ⟨i, cl, q⟩)
    · omega
    · have := h.s1 i; omega
    · have := h.c1 i _ _ q; omega)
  refine ⟨A', N', D, FB, RB', rfl, ⟨T9, ⟨fun i => ?_, h.s.inj⟩, AF9.got, AF9.srv, by have := h.ha; omega, fun i => ?_, fun i => ?_, R9, d9, Nat.le_trans h.hl F9.size, (cellB b1e 0).trans h.e0, (cellB b1e 1).trans h.e1, (cellB b1e 2).trans h.e2, h.s1, h.c1⟩, H9, D9, BF9, FB9, F9, X9⟩
  · have hg := AF9.got i
    revert hg
    generalize CB i = c
    intro hg
    match c, hg with
    | none, ⟨p, h1, _⟩ => exact h1.blk
    | some (C, true), h => exact h.1.blk
    | some (C, false), h => exact h.1.blk
  · unfold addF
    have := hF i
    split
    · simp; omega
    · omega
  · unfold addQ
    have := hQ i
    have := h.hQ i
    split <;> omega

/-- Which watches a change takes: on the path, on its parent. -/
def T1 (ev fp : Nat) (x : Wt) : Prop := x.1.1 = pb fp ∧ (((ev = 1 ∨ ev = 2 ∨ ev = 3) ∧ x.1.2 = 0) ∨ (ev = 2 ∧ x.1.2 = 1))
def T2 (ev fp : Nat) (x : Wt) : Prop := x.1.1 = pb (pr fp) ∧ (ev = 1 ∨ ev = 2) ∧ x.1.2 = 1
theorem T12 {ev fp : Nat} (hf : 1 ≤ fp ∧ fp ≤ 3) {x : Wt} (h1 : T1 ev fp x) (h2 : T2 ev fp x) : False := by
  have e : pb fp = pb (pr fp) := h1.1.symm.trans h2.1
  have := pb_inj (by omega) (by unfold pr; split <;> omega) e
  unfold pr at this
  split at this <;> omega

/-- What stands behind 'fire'. -/
structure Fd (b1 b2 V X BK BS AB lo : Nat) (SB : Fin 4 → Nat) (CB : Fin 4 → Option (Nat × Bool)) (IK : Key → Nat) (JS : Fin 4 → Nat) (ρ : Nat → Role) (w w' : World) (A : Nat → Wt) (N : Nat) (ev fp : Nat) (A' : Nat → Wt) (N' : Nat) (D1 D2 : Fin 4 → Bool) (F1 F2 : Nat) (RB : Fin 4 → Option Nat) : Prop where
  st : St b1 b2 V X BK BS AB lo SB CB IK JS ρ w' A' N' ((cnt fun i => D1 i && isOpen (CB i)) + cnt fun i => D2 i && isOpen (CB i)) (addF (addF (fun _ => []) D1 (frv F1 (pb fp))) D2 (frv F2 (pb (pr fp)))) (addQ (addQ (fun _ => 0) D1 (32 + (pb fp).size : Nat)) D2 (32 + (pb (pr fp)).size : Nat)) RB
  has : ∀ x, Has A' N' x ↔ Has A N x ∧ ¬ T1 ev fp x ∧ ¬ T2 ev fp x
  d1 : ∀ s, D1 s = true ↔ ∃ x, Has A N x ∧ x.2 = s ∧ T1 ev fp x
  d2 : ∀ s, D2 s = true ↔ ∃ x, Has A N x ∧ x.2 = s ∧ T2 ev fp x
  f1 : (∃ s, D1 s = true) → Buf w' F1 64 (frm ev (pb fp))
  f2 : (∃ s, D2 s = true) → Buf w' F2 64 (frm 4 (pb (pr fp)))
  fr : Fr (fun j => b1 ≤ j ∨ (∃ i, j = SB i) ∨ ∃ i cl, CB i = some (j, cl)) w w'
  al : Alien3 X AB V SB CB (fun _ => none) w w'

theorem addF_no (Fs : Fin 4 → List Value) (fr : Value) : addF Fs (fun _ => false) fr = Fs := by funext i; simp [addF]
theorem addQ_no (Q : Fin 4 → Int) (len : Int) : addQ Q (fun _ => false) len = Q := by funext i; simp [addQ]
theorem cnt_no (f : Fin 4 → Bool) : (cnt fun i => (fun _ => false) i && f i) = 0 := by simp [cnt, b2z]

/-- None. -/
theorem Fd.none_ {ev fp : Nat} (h : St b1 b2 V X BK BS AB lo SB CB IK JS ρ w A N 0 (fun _ => []) (fun _ => 0) (fun _ => none)) (hev : ev = 0 ∨ ev = 4) (k : Below w.heap.size w w') : Fd b1 b2 V X BK BS AB lo SB CB IK JS ρ w w' A N ev fp A N (fun _ => false) (fun _ => false) 0 0 (fun _ => none) := by
  have n1 : ∀ x, ¬ T1 ev fp x := fun x h => by unfold T1 at h; omega
  have n2 : ∀ x, ¬ T2 ev fp x := fun x h => by unfold T2 at h; omega
  refine ⟨?_, fun x => ⟨fun h => ⟨h, n1 x, n2 x⟩, fun h => h.1⟩, fun s => ⟨fun q => (by cases q), fun ⟨x, _, _, q⟩ => absurd q (n1 x)⟩, fun s => ⟨fun q => (by cases q), fun ⟨x, _, _, q⟩ => absurd q (n2 x)⟩, fun ⟨s, q⟩ => (by cases q), fun ⟨s, q⟩ => (by cases q), Fr.of_below k, fun j c t f _ _ _ _ _ _ e => ?_⟩
  · rw [addF_no, addF_no, addQ_no, addQ_no, cnt_no]
    exact h.below k
  · exact (k.block j (by rcases Array.getElem?_eq_some_iff.1 e with ⟨h, _⟩; exact h)).trans e

theorem cells_of_cell {w : World} {B j : Nat} {v : Value} (h : w.cell? ⟨B, j, none⟩ = some v) : ∃ c t f, w.heap[B]? = some (.cells c t f) := by
  unfold World.cell? at h
  cases hb : w.heap[B]? with
  | none => simp [hb] at h
  | some o =>
    cases o with
    | cells c t f => exact ⟨c, t, f, rfl⟩
    | _ => simp [hb] at h

/-- One 'notify'. -/
theorem Fd.one {fp : Nat} {A' : Nat → Wt} {N' F1 : Nat} {D : Fin 4 → Bool} {RB' : Fin 4 → Option Nat} {w1 : World} {kd : Nat → Nat} {n : Nat} (k : Below w.heap.size w w1) (hfp : 1 ≤ fp ∧ fp ≤ 3)
    (h : St b1 b2 V X BK BS AB lo SB CB IK JS ρ w' A' N' (0 + cnt fun i => D i && isOpen (CB i)) (addF (fun _ => []) D (frv F1 (pb fp))) (addQ (fun _ => 0) D (32 + (pb fp).size : Nat)) RB') (hh : ∀ x, Has A' N' x ↔ Has A N x ∧ ¬ Hit (pb fp) kd n x) (hd : ∀ s, D s = true ↔ ∃ x, Has A N x ∧ x.2 = s ∧ Hit (pb fp) kd n x) (hb : (∃ s, D s = true) → Buf w' F1 64 (frm 3 (pb fp)))
    (hf : Fr (fun j => b1 ≤ j ∨ (∃ i, j = SB i) ∨ ∃ i cl, CB i = some (j, cl)) w1 w') (ha : Alien3 X AB V SB CB (fun _ => none) w1 w') (hk : ∀ x, Hit (pb fp) kd n x ↔ T1 3 fp x) : Fd b1 b2 V X BK BS AB lo SB CB IK JS ρ w w' A N 3 fp A' N' D (fun _ => false) F1 0 RB' := by
  have n2 : ∀ x, ¬ T2 3 fp x := fun x h => by unfold T2 at h; omega
  refine ⟨?_, fun x => ?_, fun s => ?_, fun s => ⟨fun q => (by cases q), fun ⟨x, _, _, q⟩ => absurd q (n2 x)⟩, hb, fun ⟨s, q⟩ => (by cases q), (Fr.of_below k).trans hf, fun j c t f h1 h2 h3 h4 h5 h6 e => ha j c t f h1 h2 h3 h4 h5 h6 ((k.block j (by rcases Array.getElem?_eq_some_iff.1 e with ⟨h, _⟩; exact h)).trans e)⟩
  · rw [addF_no, addQ_no, cnt_no, Int.add_zero]
    rw [Int.zero_add] at h
    exact h
  · rw [hh x, hk x]
    exact ⟨fun q => ⟨q.1, q.2, n2 x⟩, fun q => ⟨q.1, q.2.1⟩⟩
  · rw [hd s]
    exact ⟨fun ⟨x, q1, q2, q3⟩ => ⟨x, q1, q2, (hk x).1 q3⟩, fun ⟨x, q1, q2, q3⟩ => ⟨x, q1, q2, (hk x).2 q3⟩⟩

/-- Two. -/
theorem Fd.two {ev fp : Nat} {A' A'' : Nat → Wt} {N' N'' F1 F2 : Nat} {D1 D2 : Fin 4 → Bool} {R1 R2 : Fin 4 → Option Nat} {w1 w2 w3 : World} {kd kd' : Nat → Nat} {n n' : Nat} (k : Below w.heap.size w w1) (hfp : 1 ≤ fp ∧ fp ≤ 3) (hlo : lo = w.heap.size) (he : Env2 b1 b2 V X AB SB CB) (hVl : V < lo) (hX : X < lo) (hAB : AB < lo)
    (h1 : St b1 b2 V X BK BS AB lo SB CB IK JS ρ w2 A' N' (0 + cnt fun i => D1 i && isOpen (CB i)) (addF (fun _ => []) D1 (frv F1 (pb fp))) (addQ (fun _ => 0) D1 (32 + (pb fp).size : Nat)) R1) (hh1 : ∀ x, Has A' N' x ↔ Has A N x ∧ ¬ Hit (pb fp) kd n x) (hd1 : ∀ s, D1 s = true ↔ ∃ x, Has A N x ∧ x.2 = s ∧ Hit (pb fp) kd n x) (hb1 : (∃ s, D1 s = true) → Buf w2 F1 64 (frm ev (pb fp))) (hF1 : w1.heap.size ≤ F1 ∧ ∀ i, R1 i ≠ some F1)
    (hf1 : Fr (fun j => b1 ≤ j ∨ (∃ i, j = SB i) ∨ ∃ i cl, CB i = some (j, cl)) w1 w2) (ha1 : Alien3 X AB V SB CB (fun _ => none) w1 w2) (hk1 : ∀ x, Hit (pb fp) kd n x ↔ T1 ev fp x)
    (k2 : Below w2.heap.size w2 w3)
    (h2 : St b1 b2 V X BK BS AB lo SB CB IK JS ρ w' A'' N'' (0 + (cnt fun i => D1 i && isOpen (CB i)) + cnt fun i => D2 i && isOpen (CB i)) (addF (addF (fun _ => []) D1 (frv F1 (pb fp))) D2 (frv F2 (pb (pr fp)))) (addQ (addQ (fun _ => 0) D1 (32 + (pb fp).size : Nat)) D2 (32 + (pb (pr fp)).size : Nat)) R2) (hh2 : ∀ x, Has A'' N'' x ↔ Has A' N' x ∧ ¬ Hit (pb (pr fp)) kd' n' x) (hd2 : ∀ s, D2 s = true ↔ ∃ x, Has A' N' x ∧ x.2 = s ∧ Hit (pb (pr fp)) kd' n' x) (hb2 : (∃ s, D2 s = true) → Buf w' F2 64 (frm 4 (pb (pr fp))))
    (hf2 : Fr (fun j => b1 ≤ j ∨ (∃ i, j = SB i) ∨ ∃ i cl, CB i = some (j, cl)) w3 w') (ha2 : Alien3 X AB V SB CB R1 w3 w') (hk2 : ∀ x, Hit (pb (pr fp)) kd' n' x ↔ T2 ev fp x) : Fd b1 b2 V X BK BS AB lo SB CB IK JS ρ w w' A N ev fp A'' N'' D1 D2 F1 F2 R2 := by
  have kb : ∀ {a b : World} {j : Nat} {o : Obj}, Below a.heap.size a b → a.heap[j]? = some o → b.heap[j]? = some o := fun k e => (k.block _ (by rcases Array.getElem?_eq_some_iff.1 e with ⟨h, _⟩; exact h)).trans e
  refine ⟨?_, fun x => ?_, fun s => ?_, fun s => ?_, fun q => ?_, hb2, ((Fr.of_below k).trans hf1).trans ((Fr.of_below k2).trans hf2), fun j c t f q1 q2 q3 q4 q5 q6 e => ?_⟩
  · rw [Int.zero_add] at h2
    exact h2
  · rw [hh2 x, hh1 x, hk1 x, hk2 x]
    exact ⟨fun q => ⟨q.1.1, q.1.2, q.2⟩, fun q => ⟨⟨q.1, q.2.1⟩, q.2.2⟩⟩
  · rw [hd1 s]
    exact ⟨fun ⟨x, q1, q2, q3⟩ => ⟨x, q1, q2, (hk1 x).1 q3⟩, fun ⟨x, q1, q2, q3⟩ => ⟨x, q1, q2, (hk1 x).2 q3⟩⟩
  · rw [hd2 s]
    exact ⟨fun ⟨x, q1, q2, q3⟩ => ⟨x, ((hh1 x).1 q1).1, q2, (hk2 x).1 q3⟩, fun ⟨x, q1, q2, q3⟩ => ⟨x, (hh1 x).2 ⟨q1, fun q => T12 hfp ((hk1 x).1 q) q3⟩, q2, (hk2 x).2 q3⟩⟩
  · have hb := hb1 q
    obtain ⟨v, hv⟩ := Option.isSome_iff_exists.1 (hb.th 0 (by omega)).1
    obtain ⟨c, t, f, e⟩ := cells_of_cell hv
    have hs := k.size
    have hv2 := he.v
    have hb12 := he.b12
    have e3 := kb k2 e
    have e4 := ha2 F1 c t f (by omega) (by omega) (by omega) (fun i => by have := he.sl i; omega) (fun i cl q => by have := he.cl i F1 cl q; omega) hF1.2 e3
    exact hb.block (e4.trans e.symm)
  · have lj : j < w.heap.size := by rcases Array.getElem?_eq_some_iff.1 e with ⟨h, _⟩; exact h
    exact ha2 j c t f q1 q2 q3 q4 q5 (fun i q => by have := (h1.hR i j q).1; omega) (kb k2 (ha1 j c t f q1 q2 q3 q4 q5 q6 (kb k e)))

theorem hit1 (p : ByteArray) (d : Nat) (x : Wt) : Hit p (fun _ => d) 1 x ↔ x.1.1 = p ∧ x.1.2 = d := by
  unfold Hit
  exact ⟨fun ⟨h1, t, _, h2⟩ => ⟨h1, h2.symm⟩, fun ⟨h1, h2⟩ => ⟨h1, 0, by omega, h2.symm⟩⟩
theorem hit2 (p : ByteArray) (x : Wt) : Hit p (fun j => j) 2 x ↔ x.1.1 = p ∧ (x.1.2 = 0 ∨ x.1.2 = 1) := by
  unfold Hit
  exact ⟨fun ⟨h1, t, ht, h2⟩ => ⟨h1, by have h3 : t = x.1.2 := h2; omega⟩, fun ⟨h1, h2⟩ => ⟨h1, x.1.2, by omega, rfl⟩⟩

set_option maxHeartbeats 4000000 in
set_option maxRecDepth 100000 in
theorem fire (ev fp : Nat) (hev : ev ≤ 4) (hfp : 1 ≤ fp ∧ fp ≤ 3) (h : St b1 b2 V X BK BS AB lo SB CB IK JS ρ w A N 0 (fun _ => []) (fun _ => 0) (fun _ => none)) (he : Env2 b1 b2 V X AB SB CB) (hb1 : 2 ≤ b1) (hlo : lo = w.heap.size) (hVl : V < lo) (hX : X < lo) (hAB : AB < lo) :
    Calls Ybad.prog 14 #[.pointer (some ⟨V, 0, none⟩), .int .i32 (ev : Int), .string (pb fp)] w fun e w' => ∃ A' N' D1 D2 F1 F2 RB, e = .returned (.tuple #[]) ∧ Fd b1 b2 V X BK BS AB lo SB CB IK JS ρ w w' A N ev fp A' N' D1 D2 F1 F2 RB := by
  have H : Hid (St b1 b2 V X BK BS AB lo SB CB IK JS ρ w A N 0 (fun _ => []) (fun _ => 0) (fun _ => none)) := h
  have HE : Hid (Env2 b1 b2 V X AB SB CB) := he
  have hv := he.v
  have hp1 := pb_size fp
  have hp2 := pb_size (pr fp)
  clear h he
  rcases (show ev = 0 ∨ ev = 1 ∨ ev = 2 ∨ ev = 3 ∨ ev = 4 by omega) with rfl | rfl | rfl | rfl | rfl
  · go_enter Ybad.func14, Ybad.ntmps14
    go_wp2
    refine bodyPost_end (results_none rfl _ _ _) rfl ?_
    exact ⟨_, _, _, _, _, _, _, rfl, Fd.none_ H.out (.inl rfl) (Below.refl _ _)⟩
  · obtain ⟨p, hp⟩ : ∃ p, Hid (p = pb fp) := ⟨_, rfl⟩
    have hsp := split_ fp hfp
    rw [← hp.out] at hp1 hsp ⊢
    go_enter Ybad.func14, Ybad.ntmps14
    go_wp2_with fail
    have B1 : Below w.heap.size w (w.alloc (Obj.cells #[.int .u8 0] 59)) := (Below.refl _ _).alloc (Nat.le_refl _) _
    refine (step 1 1 p w.heap.size 1 (fun _ => 0) (H.out.below B1) HE.out (by omega) (fun j hj => ?_) (by omega) hp1 (by decide) (by decide) hb1 hVl (fun i => by simp) (fun i => by simp) (by omega)).mono ?_
    · rw [alloc_new]
      obtain rfl : j = 0 := by omega
      rfl
    · rintro e w2 ⟨A', N', D, FB, RB', rfl, h1, h2, h3, h4, h5, h6, h7⟩
      have H1 : Hid (St b1 b2 V X BK BS AB lo SB CB IK JS ρ w2 A' N' (0 + cnt fun i => D i && isOpen (CB i)) (addF (fun _ => []) D (frv FB p)) (addQ (fun _ => 0) D (32 + p.size : Nat)) RB' ∧ (∀ x, Has A' N' x ↔ Has A N x ∧ ¬ Hit p (fun _ => 0) 1 x) ∧ (∀ s, D s = true ↔ ∃ x, Has A N x ∧ x.2 = s ∧ Hit p (fun _ => 0) 1 x) ∧ ((∃ s, D s = true) → Buf w2 FB 64 (frm 1 p)) ∧ ((w.alloc (Obj.cells #[.int .u8 0] 59)).heap.size ≤ FB ∧ ∀ i, RB' i ≠ some FB) ∧ Fr (fun j => b1 ≤ j ∨ (∃ i, j = SB i) ∨ ∃ i cl, CB i = some (j, cl)) (w.alloc (Obj.cells #[.int .u8 0] 59)) w2 ∧ Alien3 X AB V SB CB (fun _ => none) (w.alloc (Obj.cells #[.int .u8 0] 59)) w2 ∧ Below w.heap.size w (w.alloc (Obj.cells #[.int .u8 0] 59))) := ⟨h1, h2, h3, h4, h5, h6, h7, B1⟩
      clear h1 h2 h3 h4 h5 h6 h7 B1
      go_wp2_with (go_at_call 25; refine (hsp _).mono ?_; rintro e w3 ⟨⟨nm, rfl⟩, k3⟩)
      obtain ⟨p2, hpp⟩ : ∃ q, Hid (q = pb (pr fp)) := ⟨_, rfl⟩
      rw [← hpp.out] at hp2 ⊢
      have B3 : Below w2.heap.size w2 (w3.alloc (Obj.cells #[.int .u8 1] 59)) := k3.alloc k3.size _
      have hcn := cnt_bd fun i => D i && isOpen (CB i)
      have lw2 := H1.out.1.hl
      have lw3 := k3.size
      refine (step 4 4 p2 w3.heap.size 1 (fun _ => 1) (H1.out.1.below B3) HE.out (by omega) (fun j hj => ?_) (by omega) hp2 (by decide) (by decide) hb1 hVl (fun i => by unfold addF; split <;> simp) (fun i => by unfold addQ; dsimp only; split <;> omega) (by omega)).mono ?_
      · obtain rfl : j = 0 := by omega
        rw [alloc_new]; rfl
      · rintro e w4 ⟨A'', N'', D2, F2, R2, rfl, q1, q2, q3, q4, q5, q6, q7⟩
        have HF : Hid (Fd b1 b2 V X BK BS AB lo SB CB IK JS ρ w w4 A N 1 fp A'' N'' D D2 FB F2 R2) := by
          obtain ⟨h1, h2, h3, h4, h5, h6, h7, h8⟩ := H1.out
          rw [hp.out] at h1 h2 h3 h4 q1
          rw [hpp.out] at q1 q2 q3 q4
          exact Fd.two h8 hfp hlo HE.out hVl hX hAB h1 h2 h3 h4 h5 h6 h7 (fun x => by rw [hit1]; simp [T1]) B3 q1 q2 q3 q4 q6 q7 (fun x => by rw [hit1]; simp [T2])
        clear q1 q2 q3 q4 q5 q6 q7 B3 H1 k3
        go_wp2
        refine bodyPost_end (results_none rfl _ _ _) rfl ?_
        exact ⟨_, _, _, _, _, _, _, rfl, HF.out⟩
  · obtain ⟨p, hp⟩ : ∃ p, Hid (p = pb fp) := ⟨_, rfl⟩
    have hsp := split_ fp hfp
    rw [← hp.out] at hp1 hsp ⊢
    go_enter Ybad.func14, Ybad.ntmps14
    go_wp2_with fail
    have B1 : Below w.heap.size w (w.alloc (Obj.cells #[.int .u8 0, .int .u8 1] 59)) := (Below.refl _ _).alloc (Nat.le_refl _) _
    refine (step 2 2 p w.heap.size 2 (fun j => j) (H.out.below B1) HE.out (by omega) (fun j hj => ?_) (by omega) hp1 (by decide) (by decide) hb1 hVl (fun i => by simp) (fun i => by simp) (by omega)).mono ?_
    · rw [alloc_new]
      rcases (show j = 0 ∨ j = 1 by omega) with rfl | rfl <;> rfl
    · rintro e w2 ⟨A', N', D, FB, RB', rfl, h1, h2, h3, h4, h5, h6, h7⟩
      have H1 : Hid (St b1 b2 V X BK BS AB lo SB CB IK JS ρ w2 A' N' (0 + cnt fun i => D i && isOpen (CB i)) (addF (fun _ => []) D (frv FB p)) (addQ (fun _ => 0) D (32 + p.size : Nat)) RB' ∧ (∀ x, Has A' N' x ↔ Has A N x ∧ ¬ Hit p (fun j => j) 2 x) ∧ (∀ s, D s = true ↔ ∃ x, Has A N x ∧ x.2 = s ∧ Hit p (fun j => j) 2 x) ∧ ((∃ s, D s = true) → Buf w2 FB 64 (frm 2 p)) ∧ ((w.alloc (Obj.cells #[.int .u8 0, .int .u8 1] 59)).heap.size ≤ FB ∧ ∀ i, RB' i ≠ some FB) ∧ Fr (fun j => b1 ≤ j ∨ (∃ i, j = SB i) ∨ ∃ i cl, CB i = some (j, cl)) (w.alloc (Obj.cells #[.int .u8 0, .int .u8 1] 59)) w2 ∧ Alien3 X AB V SB CB (fun _ => none) (w.alloc (Obj.cells #[.int .u8 0, .int .u8 1] 59)) w2 ∧ Below w.heap.size w (w.alloc (Obj.cells #[.int .u8 0, .int .u8 1] 59))) := ⟨h1, h2, h3, h4, h5, h6, h7, B1⟩
      clear h1 h2 h3 h4 h5 h6 h7 B1
      go_wp2_with (go_at_call 25; refine (hsp _).mono ?_; rintro e w3 ⟨⟨nm, rfl⟩, k3⟩)
      obtain ⟨p2, hpp⟩ : ∃ q, Hid (q = pb (pr fp)) := ⟨_, rfl⟩
      rw [← hpp.out] at hp2 ⊢
      have B3 : Below w2.heap.size w2 (w3.alloc (Obj.cells #[.int .u8 1] 59)) := k3.alloc k3.size _
      have hcn := cnt_bd fun i => D i && isOpen (CB i)
      have lw2 := H1.out.1.hl
      have lw3 := k3.size
      refine (step 4 4 p2 w3.heap.size 1 (fun _ => 1) (H1.out.1.below B3) HE.out (by omega) (fun j hj => ?_) (by omega) hp2 (by decide) (by decide) hb1 hVl (fun i => by unfold addF; split <;> simp) (fun i => by unfold addQ; dsimp only; split <;> omega) (by omega)).mono ?_
      · obtain rfl : j = 0 := by omega
        rw [alloc_new]; rfl
      · rintro e w4 ⟨A'', N'', D2, F2, R2, rfl, q1, q2, q3, q4, q5, q6, q7⟩
        have HF : Hid (Fd b1 b2 V X BK BS AB lo SB CB IK JS ρ w w4 A N 2 fp A'' N'' D D2 FB F2 R2) := by
          obtain ⟨h1, h2, h3, h4, h5, h6, h7, h8⟩ := H1.out
          rw [hp.out] at h1 h2 h3 h4 q1
          rw [hpp.out] at q1 q2 q3 q4
          exact Fd.two h8 hfp hlo HE.out hVl hX hAB h1 h2 h3 h4 h5 h6 h7 (fun x => by rw [hit2]; simp [T1]) B3 q1 q2 q3 q4 q6 q7 (fun x => by rw [hit1]; simp [T2])
        clear q1 q2 q3 q4 q5 q6 q7 B3 H1 k3
        go_wp2
        refine bodyPost_end (results_none rfl _ _ _) rfl ?_
        exact ⟨_, _, _, _, _, _, _, rfl, HF.out⟩
  · obtain ⟨p, hp⟩ : ∃ p, Hid (p = pb fp) := ⟨_, rfl⟩
    rw [← hp.out] at hp1 ⊢
    go_enter Ybad.func14, Ybad.ntmps14
    go_wp2_with fail
    have B1 : Below w.heap.size w (w.alloc (Obj.cells #[.int .u8 0] 59)) := (Below.refl _ _).alloc (Nat.le_refl _) _
    refine (step 3 3 p w.heap.size 1 (fun _ => 0) (H.out.below B1) HE.out (by omega) (fun j hj => ?_) (by omega) hp1 (by decide) (by decide) hb1 hVl (fun i => by simp) (fun i => by simp) (by omega)).mono ?_
    · obtain rfl : j = 0 := by omega
      rw [alloc_new]; rfl
    · rintro e w' ⟨A', N', D, FB, RB', rfl, h1, h2, h3, h4, h5, h6, h7⟩
      have HF : Hid (Fd b1 b2 V X BK BS AB lo SB CB IK JS ρ w w' A N 3 fp A' N' D (fun _ => false) FB 0 RB') := by
        rw [hp.out] at h1 h2 h3 h4
        exact Fd.one B1 hfp h1 h2 h3 h4 h6 h7 (fun x => by rw [hit1]; simp [T1])
      clear h1 h2 h3 h4 h5 h6 h7 B1
      go_wp2
      refine bodyPost_end (results_none rfl _ _ _) rfl ?_
      exact ⟨_, _, _, _, _, _, _, rfl, HF.out⟩
  · go_enter Ybad.func14, Ybad.ntmps14
    go_wp2
    refine bodyPost_end (results_none rfl _ _ _) rfl ?_
    exact ⟨_, _, _, _, _, _, _, rfl, Fd.none_ H.out (.inr rfl) (Below.refl _ _)⟩
end
end Go.Proofs.YbulkcrxoDoor.F
