/-
  LawS4681AFires: 'Server.notify' by a contract: each session that held a taken watch gets the frame.
-/
import Derived.Test.YbulkcrxoDoorFPush
set_option linter.unusedVariables false
namespace Go.Proofs.YbulkcrxoDoor.F
open Go.RowKit Go.Any
open Go.ChangeMaps (setBlock)

/-- A session and its conn: whether the frame fr has come. -/
def Got (w : World) (lo S : Nat) (fr : Value) (len : Int) : Option (Nat × Bool) → Bool → Prop
  | none, false => Se w S none (.slice none 0 0)
  | none, true => ∃ g cp, Se w S none (.slice (some ⟨g, 0, none⟩) 1 cp) ∧ lo ≤ g ∧ w.cell? ⟨g, 0, none⟩ = some fr
  | some (C, true), _ => Se w S (some C) (.slice none 0 0) ∧ Cn w C true (.slice none 0 0) 0
  | some (C, false), false => Se w S (some C) (.slice none 0 0) ∧ Cn w C false (.slice none 0 0) 0
  | some (C, false), true => Se w S (some C) (.slice none 0 0) ∧ ∃ g cp, Cn w C false (.slice (some ⟨g, 0, none⟩) 1 cp) len ∧ lo ≤ g ∧ w.cell? ⟨g, 0, none⟩ = some fr

theorem Got.keep {w w' : World} {lo S : Nat} {fr : Value} {len : Int} {c : Option (Nat × Bool)} {d : Bool} (h : Got w lo S fr len c d) (hS : w'.heap[S]? = w.heap[S]?) (hC : ∀ C cl, c = some (C, cl) → w'.heap[C]? = w.heap[C]?) (hg : ∀ g, lo ≤ g → g < w.heap.size → w'.heap[g]? = w.heap[g]?) : Got w' lo S fr len c d := by
  match c, d, h with
  | none, false, h => exact Se.block h hS
  | none, true, ⟨g, cp, h1, h2, h3⟩ => exact ⟨g, cp, h1.block hS, h2, (cellB (hg g h2 (World.block_lt_of_cell? _ _ h3)) 0).trans h3⟩
  | some (C, true), _, ⟨h1, h2⟩ => exact ⟨h1.block hS, h2.block (hC C true rfl)⟩
  | some (C, false), false, ⟨h1, h2⟩ => exact ⟨h1.block hS, h2.block (hC C false rfl)⟩
  | some (C, false), true, ⟨h1, g, cp, h2, h3, h4⟩ => exact ⟨h1.block hS, g, cp, h2.block (hC C false rfl), h3, (cellB (hg g h3 (World.block_lt_of_cell? _ _ h4)) 0).trans h4⟩

def isOpen : Option (Nat × Bool) → Bool
  | some (_, false) => true
  | _ => false
def b2z (b : Bool) : Int := match b with | true => 1 | false => 0

theorem own1 {w : World} {lo : Nat} {v : Value} {x : Value} (h : w.ownsRow lo 24 1 v (0 + 1) ([] ++ [x])) : ∃ g cp, v = .slice (some ⟨g, 0, none⟩) 1 cp ∧ lo ≤ g ∧ w.cell? ⟨g, 0, none⟩ = some x := by
  rcases h.2 with ⟨_, q⟩ | ⟨g, cp, cur, e, hg, hb, _⟩
  · omega
  · refine ⟨g, cp, e, hg, ?_⟩
    have := h.cells (g := g) (by rw [e]; rfl) 0 x rfl
    rwa [add0] at this

/-- One session is sent the frame. -/
theorem send1 (V X S lo : Nat) (a b : Int) (B len : Nat) (c : Option (Nat × Bool)) (w : World) (h : Got w lo S (.slice (some ⟨B, 0, none⟩) len 64) len c false) (hV : Srv w V X a b) (hlo : lo ≤ w.heap.size) (hS : S < lo) (hVl : V < lo) (hC : ∀ C cl, c = some (C, cl) → C < lo ∧ V ≠ C ∧ S ≠ C) (hVS : V ≠ S) (hl : len ≤ 64) (ha : 0 ≤ a ∧ a ≤ 1000) (hb : 0 ≤ b ∧ b ≤ 1000) :
    Calls Ybad.prog 23 #[.pointer (some ⟨V, 0, none⟩), .pointer (some ⟨S, 0, none⟩), .slice (some ⟨B, 0, none⟩) len 64] w fun e w' => e = .returned (.tuple #[]) ∧ Got w' lo S (.slice (some ⟨B, 0, none⟩) len 64) len c true ∧ Srv w' V X (a + b2z (isOpen c)) (b + b2z (isOpen c)) ∧ Fr (fun j => j = V ∨ j = S ∨ ∃ cl, c = some (j, cl)) w w' := by
  have nilO : w.ownsRow lo 24 1 (.slice none 0 0) 0 [] := World.ownsRow_nil w lo 24 1
  match c, h, hC with
  | none, h, _ =>
    refine (send_none V S lo 0 _ [] B len w h nilO hlo hS (by omega)).mono fun e w' ⟨he, p', h1, h2, h3⟩ => ⟨he, ?_, ?_, ?_⟩
    · obtain ⟨g, cp, rfl, hg, hc⟩ := own1 h2
      exact ⟨g, cp, h1, hg, hc⟩
    · have lV : V < w.heap.size := by omega
      simpa [isOpen, b2z] using hV.block (h3.block V lV (fun q => by
        rcases q with q | q
        · exact hVS q
        · cases q))
    · exact h3.mono fun j hj => by
        rcases hj with hj | hj
        · exact .inr (.inl hj)
        · cases hj
  | some (C, true), ⟨h1, h2⟩, hC =>
    refine (send_closed V X S C a b _ _ 0 _ w h1 hV h2 (hC C true rfl).2.1).mono fun e w' ⟨he, k1, k2, k3⟩ => ⟨he, ⟨?_, k2⟩, by simpa [isOpen, b2z] using k1, k3.mono fun j hj => .inr (.inr ⟨true, by rw [hj]⟩)⟩
    have lS : S < w.heap.size := by omega
    exact h1.block (k3.block S lS (hC C true rfl).2.2)
  | some (C, false), ⟨h1, h2⟩, hC =>
    refine (send_open V X S C lo 0 a b _ _ [] 0 B len w h1 hV h2 nilO hlo (hC C false rfl).1 hVl (hC C false rfl).2.1 (by omega) (by omega) hl ha hb).mono fun e w' ⟨he, o', k1, k2, k3, k4⟩ => ⟨he, ⟨?_, ?_⟩, by simpa [isOpen, b2z] using k1, k4.mono fun j hj => ?_⟩
    · exact h1.block (k4.block S (by omega) (fun q => by
        rcases q with q | q | q
        · exact hVS q.symm
        · exact (hC C false rfl).2.2 q
        · cases q))
    · obtain ⟨g, cp, rfl, hg, hc⟩ := own1 k3
      exact ⟨g, cp, by simpa using k2, hg, hc⟩
    · rcases hj with hj | hj | hj
      · exact .inl hj
      · exact .inr (.inr ⟨false, by rw [hj]⟩)
      · cases hj

/-- Where the sessions, their conns and the server lie. -/
structure Env (b1 b2 V : Nat) (SB : Fin 4 → Nat) (CB : Fin 4 → Option (Nat × Bool)) : Prop where
  sb : ∀ i, SB i < b1
  cb : ∀ i C cl, CB i = some (C, cl) → C < b1
  ss : ∀ i j, SB i = SB j → i = j
  sc : ∀ i j C cl, CB j = some (C, cl) → SB i ≠ C
  cc : ∀ i j C cl cl', CB i = some (C, cl) → CB j = some (C, cl') → i = j
  v : b2 ≤ V
  b12 : b1 ≤ b2

def cnt (f : Fin 4 → Bool) : Int := b2z (f 0) + b2z (f 1) + b2z (f 2) + b2z (f 3)
theorem b2z_bd (b : Bool) : 0 ≤ b2z b ∧ b2z b ≤ 1 := by cases b <;> simp [b2z]
theorem cnt_bd (f : Fin 4 → Bool) : 0 ≤ cnt f ∧ cnt f ≤ 4 := by
  unfold cnt
  have := b2z_bd (f 0)
  have := b2z_bd (f 1)
  have := b2z_bd (f 2)
  have := b2z_bd (f 3)
  omega
theorem cnt_add (f : Fin 4 → Bool) (D : Fin 4 → Bool) (t : Fin 4) (h : D t = false) : cnt (fun i => (D i || decide (i = t)) && f i) = cnt (fun i => D i && f i) + b2z (f t) := by
  have key : ∀ i : Fin 4, i ≠ t → ((D i || decide (i = t)) && f i) = (D i && f i) := fun i hi => by simp [hi]
  have ht : ((D t || decide (t = t)) && f t) = f t := by simp
  have ht' : (D t && f t) = false := by simp [h]
  unfold cnt
  match t, h, key, ht, ht' with
  | 0, h, key, ht, ht' => dsimp only; rw [ht, ht', key 1 (by decide), key 2 (by decide), key 3 (by decide)]; simp [b2z]; omega
  | 1, h, key, ht, ht' => dsimp only; rw [ht, ht', key 0 (by decide), key 2 (by decide), key 3 (by decide)]; simp [b2z]; omega
  | 2, h, key, ht, ht' => dsimp only; rw [ht, ht', key 0 (by decide), key 1 (by decide), key 3 (by decide)]; simp [b2z]; omega
  | 3, h, key, ht, ht' => dsimp only; rw [ht, ht', key 0 (by decide), key 1 (by decide), key 2 (by decide)]; simp [b2z]

/-- What stands behind 'notify': D: who was sent the frame. -/
structure After (w : World) (lo V X : Nat) (SB : Fin 4 → Nat) (CB : Fin 4 → Option (Nat × Bool)) (fr : Value) (len : Int) (D : Fin 4 → Bool) : Prop where
  got : ∀ i, Got w lo (SB i) fr len (CB i) (D i)
  srv : Srv w V X (cnt fun i => D i && isOpen (CB i)) (cnt fun i => D i && isOpen (CB i))

theorem After.keep {w w' : World} {lo V X : Nat} {SB : Fin 4 → Nat} {CB : Fin 4 → Option (Nat × Bool)} {fr : Value} {len : Int} {D : Fin 4 → Bool} (h : After w lo V X SB CB fr len D) (hS : ∀ i, w'.heap[SB i]? = w.heap[SB i]?) (hC : ∀ i C cl, CB i = some (C, cl) → w'.heap[C]? = w.heap[C]?) (hV : w'.heap[V]? = w.heap[V]?) (hg : ∀ g, lo ≤ g → g < w.heap.size → w'.heap[g]? = w.heap[g]?) : After w' lo V X SB CB fr len D :=
  ⟨fun i => (h.got i).keep (hS i) (hC i) hg, h.srv.block hV⟩

/-- The table is still there when no block of its zone has turned. -/
theorem Tbl.zone {w w' : World} {b1 b2 X BK BS AB : Nat} {SB : Fin 4 → Nat} {IK : Key → Nat} {JS : Fin 4 → Nat} {ρ : Nat → Role} {A : Nat → Wt} {N : Nat} (h : Tbl w b1 b2 X BK BS AB SB IK JS ρ A N) (k : ∀ j, b1 ≤ j → j < b2 → w'.heap[j]? = w.heap[j]?) : Tbl w' b1 b2 X BK BS AB SB IK JS ρ A N := by
  have hX := k X h.zX.1 h.zX.2
  have hA : 0 < N → w'.heap[AB]? = w.heap[AB]? := fun hN => k AB (h.zA hN).1 (h.zA hN).2
  refine ⟨(cellB hX 0).trans h.c0, (cellB hX 1).trans h.c1, ?_, (World.frozen?_of_block (w := w) (a := ⟨X, 2, none⟩) hX).trans h.fX, h.inj, fun i hi => ?_, fun j hN => (World.frozen?_of_block (w := w) (a := ⟨AB, j, none⟩) (hA hN)).trans (h.fA j hN), ?_, fun i hi => ?_, ?_, fun i hi => ?_, h.rK, h.rS, h.rI, h.rJ, h.XA, h.zX, h.zK, h.zS, h.zA, h.zI, h.zJ, h.bN⟩
  · obtain ⟨ao, cap, h1, h2⟩ := h.c2
    exact ⟨ao, cap, (cellB hX 2).trans h1, h2⟩
  · obtain ⟨h1, h2, h3⟩ := h.ce i hi
    have := hA (by omega)
    exact ⟨(cellB this _).trans h1, (cellB this _).trans h2, (cellB this _).trans h3⟩
  · obtain ⟨l, c, h1, h2⟩ := h.mK
    exact ⟨l, c, (k _ h.zK.1 h.zK.2).trans h1, h2⟩
  · obtain ⟨l, c, h1, h2⟩ := h.mI i hi
    exact ⟨l, c, (k _ (h.zI i hi).1 (h.zI i hi).2).trans h1, h2⟩
  · obtain ⟨l, c, h1, h2⟩ := h.mS
    exact ⟨l, c, (k _ h.zS.1 h.zS.2).trans h1, h2⟩
  · obtain ⟨l, c, h1, h2⟩ := h.mJ i hi
    exact ⟨l, c, (k _ (h.zJ i hi).1 (h.zJ i hi).2).trans h1, h2⟩

def seenOf (w : World) (r : Nat) : Nat := match w.heap[r]? with
  | some (.mapIter _ _ seen _) => seen.size
  | _ => 0

/-- Blocks of cells that are none of the table's, the sessions', the conns', the server's are as they were. -/
def Alien2 (X AB V : Nat) (SB : Fin 4 → Nat) (CB : Fin 4 → Option (Nat × Bool)) (w w' : World) : Prop := ∀ j c t f, j ≠ X → j ≠ AB → j ≠ V → (∀ i, j ≠ SB i) → (∀ i cl, CB i ≠ some (j, cl)) → w.heap[j]? = some (.cells c t f) → w'.heap[j]? = some (.cells c t f)

theorem after0 {w w3 : World} {b1 b2 V X : Nat} {SB : Fin 4 → Nat} {CB : Fin 4 → Option (Nat × Bool)} (HS : Sess w SB) (HE : Env b1 b2 V SB CB) (HG : ∀ i lo fr len, Got w lo (SB i) fr len (CB i) false) (HV : Srv w V X 0 0) (h : ∀ j, j < w.heap.size → (j < b1 ∨ b2 ≤ j) → w3.heap[j]? = w.heap[j]?) (lo : Nat) (hlo : w.heap.size ≤ lo) (fr : Value) (len : Int) : After w3 lo V X SB CB fr len (fun _ => false) := by
  have lV : V < w.heap.size := World.block_lt_of_cell? _ _ HV.s
  have hv := HE.v
  have hb := HE.b12
  have lS : ∀ i, SB i < w.heap.size := fun i => by
    obtain ⟨c, t, e⟩ := HS.blk i
    rcases Array.getElem?_eq_some_iff.1 e with ⟨h, _⟩
    exact h
  refine ⟨fun i => (HG i lo _ _).keep (h _ (lS i) (.inl (HE.sb i))) (fun C cl hc => ?_) (fun g h1 h2 => by omega), ?_⟩
  · have := HE.cb i C cl hc
    exact h C (by omega) (.inl this)
  · have : (cnt fun i => (fun _ => false) i && isOpen (CB i)) = 0 := by simp [cnt, b2z]
    rw [this]
    exact HV.block (h V lV (.inr hv))

set_option maxHeartbeats 8000000 in
set_option maxRecDepth 100000 in
theorem notify (b1 b2 V X BK BS AB : Nat) (SB : Fin 4 → Nat) (CB : Fin 4 → Option (Nat × Bool)) (IK : Key → Nat) (JS : Fin 4 → Nat) (ρ : Nat → Role) (A : Nat → Wt) (N : Nat) (ev : Int) (u : Nat) (p : ByteArray) (ka : Option Addr) (n kc : Nat) (kd : Nat → Nat) (w : World) (h : Tbl w b1 b2 X BK BS AB SB IK JS ρ A N) (hS : Sess w SB) (he : Env b1 b2 V SB CB) (hn : n ≤ 1024)
    (hk : ∀ j, j < n → ∃ KD, ka = some ⟨KD, 0, none⟩ ∧ w.cell? ⟨KD, j, none⟩ = some (.int .u8 (kd j)) ∧ b2 ≤ KD) (hp : p.size ≤ 8) (hwr : IntKind.u32.wrap ev = (u : Int)) (hu : u < 4294967296) (hb1 : 3 ≤ b1)
    (e0 : w.cell? ⟨1, 0, none⟩ = some (.int .i32 (-1))) (e1 : w.cell? ⟨1, 1, none⟩ = some (.int .i64 (-1))) (e2 : w.cell? ⟨1, 2, none⟩ = some (.int .i32 0))
    (hse : ∀ i lo fr len, Got w lo (SB i) fr len (CB i) false) (hsv : Srv w V X 0 0) :
    Calls Ybad.prog 9 #[.pointer (some ⟨V, 0, none⟩), .int .i32 ev, .string p, .slice ka n kc] w fun e w' => ∃ A' N' D FB lo, e = .returned (.tuple #[]) ∧ Tbl w' b1 b2 X BK BS AB SB IK JS ρ A' N' ∧ (∀ x, Has A' N' x ↔ Has A N x ∧ ¬ Hit p kd n x) ∧ (∀ s, D s = true ↔ ∃ x, Has A N x ∧ x.2 = s ∧ Hit p kd n x) ∧
      After w' lo V X SB CB (.slice (some ⟨FB, 0, none⟩) (32 + p.size) 64) (32 + p.size : Nat) D ∧ ((∃ s, D s = true) → Buf w' FB 64 (frm u p)) ∧ w.heap.size ≤ lo ∧ Fr (fun j => b1 ≤ j ∨ (∃ i, j = SB i) ∨ ∃ i cl, CB i = some (j, cl)) w w' ∧ Alien2 X AB V SB CB w w' := by
  have HT : Hid (Tbl w b1 b2 X BK BS AB SB IK JS ρ A N) := h
  have HS : Hid (Sess w SB) := hS
  have HE : Hid (Env b1 b2 V SB CB) := he
  have HG : Hid (∀ i lo fr len, Got w lo (SB i) fr len (CB i) false) := hse
  have HV : Hid (Srv w V X 0 0) := hsv
  have HK : Hid (∀ j, j < n → ∃ KD, ka = some ⟨KD, 0, none⟩ ∧ w.cell? ⟨KD, j, none⟩ = some (.int .u8 (kd j)) ∧ b2 ≤ KD) := hk
  have gx := hsv.x
  have lV : V < w.heap.size := World.block_lt_of_cell? _ _ hsv.s
  have hv := he.v
  clear h hS he hse hsv hk
  go_enter Ybad.func9, Ybad.ntmps9
  go_wp2_with fail
  refine (take b1 b2 X BK BS AB SB IK JS ρ A N p ka n kc kd w HT.out HS.out HE.out.sb (by omega) hn HK.out).mono ?_
  rintro e w2 ⟨v, A', N', rfl, T2, H2, K2, R2, L2⟩
  have HL : Hid (Alien X AB w w2) := L2
  have P2 : Hid (Tbl w2 b1 b2 X BK BS AB SB IK JS ρ A' N' ∧ (∀ x, Has A' N' x ↔ Has A N x ∧ ¬ Hit p kd n x) ∧ Ring b1 b2 w w2) := ⟨T2, H2, R2⟩
  have old : Hid (∀ j, j < w.heap.size → (j < b1 ∨ b2 ≤ j) → w2.heap[j]? = w.heap[j]?) := R2.block
  have hb12 := HE.out.b12
  have AF : Hid (∀ w3 : World, Below w2.heap.size w2 w3 → ∀ lo, w.heap.size ≤ lo → ∀ fr len, After w3 lo V X SB CB fr len (fun _ => false)) := fun w3 k lo hlo fr len => after0 HS.out HE.out HG.out HV.out (fun j h1 h2 => (k.block j (Nat.lt_of_lt_of_le h1 R2.size)).trans (R2.block j h1 h2)) lo hlo fr len
  have FF : Hid (Fr (fun j => b1 ≤ j ∨ (∃ i, j = SB i) ∨ ∃ i cl, CB i = some (j, cl)) w w2) := ⟨R2.os, R2.tape, R2.output, R2.size, fun j h1 h2 => R2.block j h1 (.inl (by
      rcases Nat.lt_or_ge j b1 with q | q
      · exact q
      · exact absurd (.inl q) h2))⟩
  have lw := R2.size
  rcases K2 with ⟨rfl, hno⟩ | ⟨TB, l, c, rfl, mT, uT, stT, hT, loT⟩
  · have HN : Hid (∀ s, ¬ ∃ x, Has A N x ∧ x.2 = s ∧ Hit p kd n x) := hno
    clear T2 H2 R2 L2 hno
    go_wp2
    refine bodyPost_ret (results_none rfl _ _ _) rfl ?_
    exact ⟨A', N', fun _ => false, 0, w.heap.size, rfl, P2.out.1, P2.out.2.1, fun s => ⟨fun q => (by cases q), fun q => absurd q (HN.out s)⟩, AF.out w2 (Below.refl _ _) _ (Nat.le_refl _) _ _, fun ⟨s, q⟩ => (by cases q), Nat.le_refl _, FF.out, fun j c t f h1 h2 _ _ _ h => HL.out j c t f h1 h2 h⟩
  · have HT2 : Hid (RM.IsMap (kvS SB) w2 TB l c ∧ RM.Uniq l ∧ RM.Stamps l c ∧ (∀ s, (∃ u, RM.get l s = some u) ↔ ∃ x, Has A N x ∧ x.2 = s ∧ Hit p kd n x) ∧ w.heap.size ≤ TB) := ⟨mT, uT, stT, hT, loT⟩
    have NL : ∀ ty, (Builtin.len_ #[128] ty #[.map (some TB)]).run Ybad.prog w2 = .ok (.int .i64 (l.length : Int)) w2 := fun ty => RM.run_len Ybad.underlying128 mT ty
    have l1 : 1 < w.heap.size := World.block_lt_of_cell? _ _ e0
    replace e0 := (cellB (old.out 1 l1 (.inl (by omega))) 0).trans e0
    replace e1 := (cellB (old.out 1 l1 (.inl (by omega))) 1).trans e1
    replace e2 := (cellB (old.out 1 l1 (.inl (by omega))) 2).trans e2
    have l12 : 1 < w2.heap.size := by omega
    clear T2 H2 R2 L2 mT uT stT hT loT
    by_cases hnil : l = []
    · subst hnil
      go_wp2
      refine bodyPost_ret (results_none rfl _ _ _) rfl ?_
      refine ⟨A', N', fun _ => false, 0, w.heap.size, rfl, P2.out.1, P2.out.2.1, fun s => ⟨fun q => (by cases q), fun q => ?_⟩, AF.out w2 (Below.refl _ _) _ (Nat.le_refl _) _ _, fun ⟨s, q⟩ => (by cases q), Nat.le_refl _, FF.out, fun j c t f h1 h2 _ _ _ h => HL.out j c t f h1 h2 h⟩
      obtain ⟨u, hu⟩ := (HT2.out.2.2.2.1 s).2 q
      cases hu
    · have hl0 : ¬ (l.length : Int) = 0 := fun e => hnil (List.length_eq_zero_iff.1 (by omega))
      generalize l.length = ll at NL hl0
      go_wp2_with fail
      have sw : (w2.alloc (Obj.cells #[.iface 133 (.agg #[.int .i32 (-1), .int .i64 (-1), .int .i32 0]), .iface 135 (.agg #[.int .i32 ev, .int .i32 3, .string p])] 152)).heap.size = w2.heap.size + 1 := by simp
      refine (encode w2.heap.size ev u p _ hp hwr hu (by rw [alloc_new]; rfl) (by rw [alloc_new]; rfl)).mono ?_
      rintro e w4 ⟨FB, rfl, hbuf, hbel, hFB1, hFB2⟩
      have B4 : Hid (Below w2.heap.size w2 w4) := ((Below.refl _ _).alloc (Nat.le_refl _) _).trans (hbel.mono (by simp))
      rw [sw] at hFB1
      have M4 : RM.IsMap (kvS SB) w4 TB l c := (B4.out.block TB (IsMap.lt HT2.out.1)).trans HT2.out.1
      have RG := run_range_map (P := Ybad.prog) w4 128 25 36 TB _ c Ybad.underlying128 M4
      have B5 : Hid (Below w2.heap.size w2 (w4.alloc (.mapIter (some TB) c #[] c))) := B4.out.alloc B4.out.size _
      have J5 : Hid ((w4.alloc (.mapIter (some TB) c #[] c)).heap[w4.heap.size]? = some (.mapIter (some TB) c #[] c)) := heap_alloc_new w4 _
      have Z5 : Hid ((w4.alloc (.mapIter (some TB) c #[] c)).heap.size = w4.heap.size + 1) := by show _ = _; simp
      have U5 : Hid (Buf (w4.alloc (.mapIter (some TB) c #[] c)) FB 64 (frm u p)) := hbuf.block (Below.heap_alloc w4 _ FB hFB2)
      have l4 := B4.out.size
      have lTB := HT2.out.2.2.2.2
      have lTB2 : TB < w4.heap.size := IsMap.lt M4
      clear hbuf hbel sw NL
      go_wp2_with fail
      generalize w4.alloc (.mapIter (some TB) c #[] c) = w5 at B5 J5 Z5 U5 ⊢
      have I5 : Hid (RM.IsMap (kvS SB) w5 TB l c) := (B5.out.block TB (IsMap.lt HT2.out.1)).trans HT2.out.1
      have nRF : Hid (FB ≠ w4.heap.size ∧ TB ≠ w4.heap.size ∧ w2.heap.size ≤ w4.heap.size ∧ FB < w4.heap.size ∧ w2.heap.size ≤ FB ∧ TB < w4.heap.size) := ⟨by omega, by omega, l4, hFB2, by omega, lTB2⟩
      generalize hR : w4.heap.size = R at J5 Z5 nRF ⊢
      clear RG M4 l4 lTB2 hFB1 hFB2
      obtain ⟨fr, hfr⟩ : ∃ fr, Hid (fr = Value.slice (some ⟨FB, 0, none⟩) (32 + p.size) 64) := ⟨_, rfl⟩
      obtain ⟨len, hlen⟩ : ∃ len : Nat, Hid (len = 32 + p.size) := ⟨_, rfl⟩
      have hlen40 : len ≤ 64 := by have := hlen.out; omega
      rw [← hlen.out]
      go_loopw [] (fun wr => ∃ (seen : Array Nat) (D : Fin 4 → Bool), Hid (wr.heap[R]? = some (.mapIter (some TB) c seen c)) ∧ Hid (RM.IsMap (kvS SB) wr TB l c) ∧ Hid (After wr (R + 1) V X SB CB (.slice (some ⟨FB, 0, none⟩) len 64) len D) ∧ Hid (Tbl wr b1 b2 X BK BS AB SB IK JS ρ A' N') ∧ Hid (Fr (fun j => b1 ≤ j ∨ (∃ i, j = SB i) ∨ ∃ i cl, CB i = some (j, cl)) w wr) ∧ Hid (Buf wr FB 64 (frm u p)) ∧ Hid (∀ e ∈ l, D e.k = seen.contains e.n) ∧ Hid (∀ s, D s = true → ∃ e ∈ l, e.k = s) ∧ Hid ((seen.size : Int) = cnt fun i => D i && true) ∧ Hid (R + 1 ≤ wr.heap.size) ∧ Hid (Alien2 X AB V SB CB w wr)) (fun wr => 4 - seenOf wr R)
      case atStart =>
        exact ⟨#[], fun _ => false, J5, I5, AF.out w5 B5.out _ (by have := nRF.out; omega) _ _, P2.out.1.below B5.out, FF.out.trans (Fr.of_below B5.out), U5, fun e he => by simp, fun s q => (by cases q), by show _ = _; simp [cnt, b2z], by have := Z5.out; show _ ≤ _; omega, fun j c t f h1 h2 _ _ _ h => Alien.of_below (X := X) (AB := AB) B5.out j c t f h1 h2 (HL.out j c t f h1 h2 h)⟩
      case round =>
        obtain ⟨seen, D, J6, I6, A6, T6, F6, U6, HD, HE', HC, hlo6, X6⟩ := hrel
        clear J5 Z5 U5 I5 B5
        have hold : ∀ x ∈ ((l.map (RM.Ent.raw (kvS SB))).toArray).toList, x.born < c := fun x hx => by
          simp at hx
          obtain ⟨e, he, rfl⟩ := hx
          exact HT2.out.2.2.1.1 e he
        rcases run_next_at (P := Ybad.prog) wr 0 R TB c c seen _ c J6.out I6.out hold (Nat.le_refl _) with ⟨hleft, hnx⟩ | ⟨e, hel, w1, hw1, hnx⟩
        · have hall : ∀ e ∈ l, D e.k = true := fun e he => by
            rw [HD.out e he]
            have h0 : leftOf (l.map (RM.Ent.raw (kvS SB))).toArray seen = #[] := Array.eq_empty_of_size_eq_zero hleft
            unfold leftOf at h0
            rw [Array.filter_eq_empty_iff] at h0
            have := h0 (RM.Ent.raw (kvS SB) e) (by simp; exact ⟨e, he, rfl⟩)
            simpa [RM.Ent.raw] using this
          have hfin : Hid (∀ s, D s = true ↔ ∃ x, Has A N x ∧ x.2 = s ∧ Hit p kd n x) := fun s => by
            rw [← HT2.out.2.2.2.1 s]
            constructor
            · intro q
              obtain ⟨e, he, rfl⟩ := HE'.out s q
              exact ⟨e.v, RM.get_of_mem HT2.out.2.1 he⟩
            · rintro ⟨v, hv⟩
              obtain ⟨e, he, rfl, _⟩ := RM.get_mem hv
              exact hall e he
          clear hleft hold hall
          go_wp2
          refine bodyPost_end (results_none rfl _ _ _) rfl ?_
          refine ⟨A', N', D, FB, R + 1, rfl, T6.out, P2.out.2.1, hfin.out, ?_, fun _ => U6.out, by have := nRF.out; omega, F6.out, X6.out⟩
          have := A6.out
          rw [hlen.out] at this
          exact this
        · have hel' := hel
          unfold leftOf at hel'
          simp at hel'
          obtain ⟨⟨e0, he0, rfl⟩, hns⟩ := hel'
          have hns' : seen.contains e0.n = false := by simpa [RM.Ent.raw] using hns
          have hDf : D e0.k = false := (HD.out e0 he0).trans hns'
          have ltR : R < wr.heap.size := by have := hlo6.out; omega
          have ltR1 : R < w1.heap.size := by rcases hw1 with rfl | rfl <;> exact ltR
          have hTR := nRF.out.2.1
          have hbl : ∀ j, j ≠ R → (setBlock w1 R (.mapIter (some TB) c (seen.push (RM.Ent.raw (kvS SB) e0).born) c)).heap[j]? = wr.heap[j]? := fun j hj => (RM.heap_set_other _ hj).trans (by rcases hw1 with rfl | rfl <;> rfl)
          have hself : (setBlock w1 R (.mapIter (some TB) c (seen.push (RM.Ent.raw (kvS SB) e0).born) c)).heap[R]? = some (.mapIter (some TB) c (seen.push e0.n) c) := by
            simp [setBlock, ltR1, RM.Ent.raw]
          have hsz : (setBlock w1 R (.mapIter (some TB) c (seen.push (RM.Ent.raw (kvS SB) e0).born) c)).heap.size = wr.heap.size := by rcases hw1 with rfl | rfl <;> simp [setBlock]
          have hFr : Fr (fun j => b1 ≤ j ∨ (∃ i, j = SB i) ∨ ∃ i cl, CB i = some (j, cl)) w (setBlock w1 R (.mapIter (some TB) c (seen.push (RM.Ent.raw (kvS SB) e0).born) c)) := by
            have f := F6.out
            refine ⟨?_, ?_, ?_, by rw [hsz]; exact f.size, fun j h1 h2 => (hbl j (by have := nRF.out; omega)).trans (f.block j h1 h2)⟩
            · rcases hw1 with rfl | rfl <;> exact f.os
            · rcases hw1 with rfl | rfl <;> exact f.tape
            · rcases hw1 with rfl | rfl <;> exact f.output
          have hen := run_entry_at (P := Ybad.prog) _ R TB c seen _ c (RM.Ent.raw (kvS SB) e0) hself ((hbl _ hTR).trans I6.out) (by simp; exact ⟨e0, he0, rfl⟩) (by
            have := HT2.out.2.2.1.2
            simpa [List.map_map, RM.Ent.raw, Function.comp_def] using this)
          have hseen : seenOf wr R = seen.size := by unfold seenOf; rw [J6.out]
          generalize setBlock w1 R (.mapIter (some TB) c (seen.push (RM.Ent.raw (kvS SB) e0).born) c) = w6 at hnx hbl hself hsz hFr hen
          have ek : (RM.Ent.raw (kvS SB) e0).key = .pointer (some ⟨SB e0.k, 0, none⟩) := rfl
          rw [ek] at hnx hen
          obtain ⟨v0, hv0⟩ : ∃ v0, (RM.Ent.raw (kvS SB) e0).val = v0 := ⟨_, rfl⟩
          rw [hv0] at hnx hen
          have lS : ∀ i, SB i < w.heap.size := fun i => by
            obtain ⟨c, t, e⟩ := HS.out.blk i
            rcases Array.getElem?_eq_some_iff.1 e with ⟨h, _⟩
            exact h
          have lo1 : w.heap.size ≤ R := by have := nRF.out; omega
          have lC : ∀ i C cl, CB i = some (C, cl) → C < w.heap.size := fun i C cl h => by have := HE.out.cb i C cl h; omega
          have A7 : After w6 (R + 1) V X SB CB (.slice (some ⟨FB, 0, none⟩) len 64) len D := A6.out.keep (fun i => hbl _ (by have := lS i; omega)) (fun i C cl h => hbl _ (by have := lC i C cl h; omega)) (hbl V (by omega)) (fun g h1 h2 => hbl g (by omega))
          have T7 : Hid (Tbl w6 b1 b2 X BK BS AB SB IK JS ρ A' N') := T6.out.zone fun j h1 h2 => hbl j (by omega)
          have I7 : Hid (RM.IsMap (kvS SB) w6 TB l c) := (hbl _ hTR).trans I6.out
          have J7 : Hid (w6.heap[R]? = some (.mapIter (some TB) c (seen.push e0.n) c)) := hself
          have U7 : Hid (Buf w6 FB 64 (frm u p)) := U6.out.block (hbl FB nRF.out.1)
          have F7 : Hid (Fr (fun j => b1 ≤ j ∨ (∃ i, j = SB i) ∨ ∃ i cl, CB i = some (j, cl)) w w6) := hFr
          have X7 : Hid (Alien2 X AB V SB CB w w6) := fun j c t f h1 h2 h3 h4 h5 h => by
            have q := X6.out j c t f h1 h2 h3 h4 h5 h
            have hne : j ≠ R := fun e => by rw [e, J6.out] at q; cases q
            exact (hbl j hne).trans q
          have S7 : Hid (R + 1 ≤ w6.heap.size) := by show _ ≤ _; rw [hsz]; exact hlo6.out
          have hcn := cnt_bd fun i => D i && isOpen (CB i)
          have hcn2 := cnt_bd fun i => (D i || decide (i = e0.k)) && true
          have hadd := cnt_add (fun _ => true) D e0.k hDf
          have hadd2 := cnt_add (fun i => isOpen (CB i)) D e0.k hDf
          have hgot := A7.got e0.k
          rw [hDf] at hgot
          have HG7 : Hid (Got w6 (R + 1) (SB e0.k) (.slice (some ⟨FB, 0, none⟩) len 64) len (CB e0.k) false) := hgot
          have HA7 : Hid (After w6 (R + 1) V X SB CB (.slice (some ⟨FB, 0, none⟩) len 64) len D) := A7
          have PAD : Hid (cnt (fun i => (D i || decide (i = e0.k)) && true) = cnt (fun i => D i && true) + b2z true ∧ cnt (fun i => (D i || decide (i = e0.k)) && isOpen (CB i)) = cnt (fun i => D i && isOpen (CB i)) + b2z (isOpen (CB e0.k)) ∧ cnt (fun i => (D i || decide (i = e0.k)) && true) ≤ 4) := ⟨hadd, hadd2, hcn2.2⟩
          clear hadd hadd2 hcn2 hgot A7 A6 T6 I6 J6 U6 F6 hlo6 X6 hel hns hold hw1 ek hv0 hself hFr
          go_wp2_with fail
          refine (send1 V X (SB e0.k) (R + 1) (cnt fun i => D i && isOpen (CB i)) (cnt fun i => D i && isOpen (CB i)) FB len (CB e0.k) w6 HG7.out HA7.out.srv S7.out (by have := lS e0.k; omega) (by omega) (fun C cl h => ⟨by have := lC e0.k C cl h; omega, by have := HE.out.cb e0.k C cl h; omega, HE.out.sc e0.k e0.k C cl h⟩) (by have := HE.out.sb e0.k; omega) hlen40 (by omega) (by omega)).mono ?_
          rintro e w8 ⟨rfl, hG8, hV8, hF8⟩
          have nn : ∀ j, j < w6.heap.size → j ≠ V → j ≠ SB e0.k → (∀ cl, CB e0.k ≠ some (j, cl)) → w8.heap[j]? = w6.heap[j]? := fun j h1 h2 h3 h4 => hF8.block j h1 (fun q => by
            rcases q with q | q | ⟨cl, q⟩
            · exact h2 q
            · exact h3 q
            · exact h4 cl q)
          have s7 := S7.out
          have REL : ∃ (seen : Array Nat) (D : Fin 4 → Bool), Hid (w8.heap[R]? = some (.mapIter (some TB) c seen c)) ∧ Hid (RM.IsMap (kvS SB) w8 TB l c) ∧ Hid (After w8 (R + 1) V X SB CB (.slice (some ⟨FB, 0, none⟩) len 64) len D) ∧ Hid (Tbl w8 b1 b2 X BK BS AB SB IK JS ρ A' N') ∧ Hid (Fr (fun j => b1 ≤ j ∨ (∃ i, j = SB i) ∨ ∃ i cl, CB i = some (j, cl)) w w8) ∧ Hid (Buf w8 FB 64 (frm u p)) ∧ Hid (∀ e ∈ l, D e.k = seen.contains e.n) ∧ Hid (∀ s, D s = true → ∃ e ∈ l, e.k = s) ∧ Hid ((seen.size : Int) = cnt fun i => D i && true) ∧ Hid (R + 1 ≤ w8.heap.size) ∧ Hid (Alien2 X AB V SB CB w w8) := by
            have hbig : ∀ j, w.heap.size ≤ j → j < w6.heap.size → w8.heap[j]? = w6.heap[j]? := fun j h1 h2 => nn j h2 (by omega) (by have := lS e0.k; omega) (fun cl q => by have := lC _ _ _ q; omega)
            refine ⟨seen.push e0.n, fun i => D i || decide (i = e0.k), (hbig R lo1 (by omega)).trans J7.out, (hbig TB HT2.out.2.2.2.2 (by have := nRF.out; omega)).trans I7.out, ⟨fun i => ?_, ?_⟩, T7.out.zone fun j h1 h2 => nn j (by omega) (by omega) (by have := HE.out.sb e0.k; omega) (fun cl q => by have := HE.out.cb _ _ _ q; omega), ?_, U7.out.block (hbig FB (by have := nRF.out; omega) (by have := nRF.out; omega)), fun e he => ?_, fun s q => ?_, ?_, Nat.le_trans s7 hF8.size, fun j c t f h1 h2 h3 h4 h5 h => ?_⟩
            · by_cases ei : i = e0.k
              · subst ei
                simp only [decide_true, Bool.or_true]
                exact hG8
              · simp only [ei, decide_false, Bool.or_false]
                refine (HA7.out.got i).keep (nn _ (by have := lS i; omega) (by have := HE.out.sb i; omega) (fun q => ei (HE.out.ss _ _ q)) (fun cl q => HE.out.sc i e0.k _ cl q rfl)) (fun C cl hc => nn C (by have := lC i C cl hc; omega) (by have := HE.out.cb i C cl hc; omega) (fun q => HE.out.sc e0.k i C cl hc q.symm) (fun cl' q => ei (HE.out.cc i e0.k C cl cl' hc q))) (fun g h1 h2 => hbig g (by omega) h2)
            · show Srv w8 V X (cnt fun i => (D i || decide (i = e0.k)) && isOpen (CB i)) (cnt fun i => (D i || decide (i = e0.k)) && isOpen (CB i))
              rw [PAD.out.2.1]
              exact hV8
            · refine F7.out.trans (hF8.mono fun j hj => ?_)
              rcases hj with rfl | rfl | ⟨cl, q⟩
              · exact .inl (by omega)
              · exact .inr (.inl ⟨e0.k, rfl⟩)
              · exact .inr (.inr ⟨e0.k, cl, q⟩)
            · by_cases hk : e.k = e0.k
              · have hee : e = e0 := nodup_inj HT2.out.2.1 he he0 hk
                subst hee
                simp
              · have hn' : e.n ≠ e0.n := fun q => hk (by rw [nodup_inj HT2.out.2.2.1.2 he he0 q])
                show (D e.k || decide (e.k = e0.k)) = _
                rw [HD.out e he]
                simp [hk, hn']
            · simp only [Bool.or_eq_true, decide_eq_true_eq] at q
              rcases q with q | rfl
              · exact HE'.out s q
              · exact ⟨e0, he0, rfl⟩
            · show ((seen.push e0.n).size : Int) = cnt fun i => (D i || decide (i = e0.k)) && true
              rw [PAD.out.1, ← HC.out]
              simp [b2z]
            · have q := X7.out j c t f h1 h2 h3 h4 h5 h
              have hlt : j < w6.heap.size := by
                rcases Array.getElem?_eq_some_iff.1 q with ⟨h, _⟩
                exact h
              exact (nn j hlt h3 (h4 e0.k) (fun cl => h5 e0.k cl)).trans q
          have hm : seenOf w8 R = seen.size + 1 := by
            unfold seenOf
            rw [nn R (by omega) (by omega) (by have := lS e0.k; omega) (fun cl q => by have := lC _ _ _ q; omega), J7.out]
            simp
          have hms : seen.size < 4 := by
            have h1 := PAD.out.1
            have h2 := PAD.out.2.2
            have h3 := HC.out
            have h4 : b2z true = 1 := rfl
            omega
          clear nn hG8 hV8 hF8
          go_wp2
          exact ⟨REL, by omega⟩
end Go.Proofs.YbulkcrxoDoor.F
