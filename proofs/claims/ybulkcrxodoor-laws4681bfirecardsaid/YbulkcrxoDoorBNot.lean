/-
  LawS4681BFire: 'Server.notify' by a contract, whatever frames the sessions hold already.
-/
import Derived.Test.YbulkcrxoDoorFNot
import Derived.Test.YbulkcrxoDoorBPush
import Derived.Test.YbulkcrxoDoorBTake
set_option linter.unusedVariables false
namespace Go.Proofs.YbulkcrxoDoor.F
open Go.RowKit Go.Any
open Go.ChangeMaps (setBlock)

/-- A session and its conn: the frames that have come, the bytes in the queue, the row's block. -/
def Gn (w : World) (lo S : Nat) (fs : List Value) (q : Int) (rb : Option Nat) : Option (Nat × Bool) → Prop
  | none => ∃ p, Se w S none p ∧ w.ownsRow lo 24 1 p fs.length fs ∧ p.ownBlock = rb
  | some (C, true) => Se w S (some C) (.slice none 0 0) ∧ Cn w C true (.slice none 0 0) 0 ∧ rb = none
  | some (C, false) => Se w S (some C) (.slice none 0 0) ∧ ∃ o, Cn w C false o q ∧ w.ownsRow lo 24 1 o fs.length fs ∧ o.ownBlock = rb

theorem Gn.keep {w w' : World} {lo S : Nat} {fs : List Value} {q : Int} {rb : Option Nat} {c : Option (Nat × Bool)} (h : Gn w lo S fs q rb c) (hS : w'.heap[S]? = w.heap[S]?) (hC : ∀ C cl, c = some (C, cl) → w'.heap[C]? = w.heap[C]?) (hg : ∀ g, rb = some g → w'.heap[g]? = w.heap[g]?) : Gn w' lo S fs q rb c := by
  match c, h with
  | none, ⟨p, h1, h2, h3⟩ => exact ⟨p, h1.block hS, own_block h2 fun g _ e => hg g (h3.symm.trans e), h3⟩
  | some (C, true), ⟨h1, h2, h3⟩ => exact ⟨h1.block hS, h2.block (hC C true rfl), h3⟩
  | some (C, false), ⟨h1, o, h2, h3, h4⟩ => exact ⟨h1.block hS, o, h2.block (hC C false rfl), own_block h3 fun g _ e => hg g (h4.symm.trans e), h4⟩
theorem Gn.rlt {w : World} {lo S : Nat} {fs : List Value} {q : Int} {rb : Option Nat} {c : Option (Nat × Bool)} (h : Gn w lo S fs q rb c) (g : Nat) (hg : rb = some g) : lo ≤ g ∧ g < w.heap.size := by
  match c, h with
  | none, ⟨p, h1, h2, h3⟩ => exact h2.lt g (h3.trans hg)
  | some (C, true), ⟨h1, h2, h3⟩ => rw [h3] at hg; cases hg
  | some (C, false), ⟨h1, o, h2, h3, h4⟩ => exact h3.lt g (h4.trans hg)

/-- One session is sent the frame. -/
theorem send2 (V X S lo : Nat) (a b : Int) (B len : Nat) (c : Option (Nat × Bool)) (w : World) (fs : List Value) (q : Int) (rb : Option Nat) (h : Gn w lo S fs q rb c) (hV : Srv w V X a b) (hlo : lo ≤ w.heap.size) (hS : S < lo) (hVl : V < lo) (hC : ∀ C cl, c = some (C, cl) → C < lo ∧ V ≠ C ∧ S ≠ C) (hVS : V ≠ S) (hl : len ≤ 64) (ha : 0 ≤ a ∧ a ≤ 1000) (hb : 0 ≤ b ∧ b ≤ 1000) (hn : fs.length ≤ 8) (hq : 0 ≤ q ∧ q ≤ 1000) :
    Calls Ybad.prog 23 #[.pointer (some ⟨V, 0, none⟩), .pointer (some ⟨S, 0, none⟩), .slice (some ⟨B, 0, none⟩) len 64] w fun e w' => e = .returned (.tuple #[]) ∧ ∃ rb', Gn w' lo S (fs ++ [.slice (some ⟨B, 0, none⟩) len 64]) (q + len) rb' c ∧ (rb' = rb ∨ ∃ g, rb' = some g ∧ w.heap.size ≤ g) ∧ Srv w' V X (a + b2z (isOpen c)) (b + b2z (isOpen c)) ∧ Fr (fun j => j = V ∨ j = S ∨ (∃ cl, c = some (j, cl)) ∨ rb = some j) w w' := by
  have el : (fs ++ [Value.slice (some ⟨B, 0, none⟩) len 64]).length = fs.length + 1 := by simp
  match c, h, hC with
  | none, ⟨p, h1, h2, h3⟩, _ =>
    refine (send_none2 V S lo fs.length p fs B len w h1 h2 hlo hS hn).mono fun e w' ⟨he, p', k1, k2, k3, k4⟩ => ⟨he, p'.ownBlock, ⟨p', k1, by rw [el]; exact k2, rfl⟩, ?_, ?_, ?_⟩
    · rw [← h3]; exact k4
    · have lV : V < w.heap.size := by omega
      simpa [isOpen, b2z] using hV.block (k3.block V lV (fun q => by
        rcases q with q | q
        · exact hVS q
        · exact own_ne h2 hVl q.symm))
    · exact k3.mono fun j hj => by
        rcases hj with hj | hj
        · exact .inr (.inl hj)
        · exact .inr (.inr (.inr (h3.symm.trans hj)))
  | some (C, true), ⟨h1, h2, h3⟩, hC =>
    refine (send_closed V X S C a b _ _ 0 _ w h1 hV h2 (hC C true rfl).2.1).mono fun e w' ⟨he, k1, k2, k3⟩ => ⟨he, rb, ⟨?_, k2, h3⟩, .inl rfl, by simpa [isOpen, b2z] using k1, k3.mono fun j hj => .inr (.inr (.inl ⟨true, by rw [hj]⟩))⟩
    have lS : S < w.heap.size := by omega
    exact h1.block (k3.block S lS (hC C true rfl).2.2)
  | some (C, false), ⟨h1, o, h2, h3, h4⟩, hC =>
    refine (send_open2 V X S C lo fs.length a b _ o fs q B len w h1 hV h2 h3 hlo (hC C false rfl).1 hVl (hC C false rfl).2.1 hn hq hl ha hb).mono fun e w' ⟨he, o', k1, k2, k3, k4, k5⟩ => ⟨he, o'.ownBlock, ⟨?_, o', k2, by rw [el]; exact k3, rfl⟩, by rw [← h4]; exact k5, by simpa [isOpen, b2z] using k1, k4.mono fun j hj => ?_⟩
    · exact h1.block (k4.block S (by omega) (fun q => by
        rcases q with q | q | q
        · exact hVS q.symm
        · exact (hC C false rfl).2.2 q
        · exact own_ne h3 hS q.symm))
    · rcases hj with hj | hj | hj
      · exact .inl hj
      · exact .inr (.inr (.inl ⟨false, by rw [hj]⟩))
      · exact .inr (.inr (.inr (h4.symm.trans hj)))

/-- What stands behind 'notify': D: who was sent the frame. -/
structure After2 (w : World) (lo V X : Nat) (SB : Fin 4 → Nat) (CB : Fin 4 → Option (Nat × Bool)) (fr : Value) (len a0 : Int) (Fs : Fin 4 → List Value) (Q : Fin 4 → Int) (D : Fin 4 → Bool) (RB : Fin 4 → Option Nat) : Prop where
  got : ∀ i, Gn w lo (SB i) (if D i = true then Fs i ++ [fr] else Fs i) (if D i = true then Q i + len else Q i) (RB i) (CB i)
  srv : Srv w V X (a0 + cnt fun i => D i && isOpen (CB i)) (a0 + cnt fun i => D i && isOpen (CB i))
theorem After2.keep {w w' : World} {lo V X : Nat} {SB : Fin 4 → Nat} {CB : Fin 4 → Option (Nat × Bool)} {fr : Value} {len a0 : Int} {Fs : Fin 4 → List Value} {Q : Fin 4 → Int} {D : Fin 4 → Bool} {RB : Fin 4 → Option Nat} (h : After2 w lo V X SB CB fr len a0 Fs Q D RB) (hS : ∀ i, w'.heap[SB i]? = w.heap[SB i]?) (hC : ∀ i C cl, CB i = some (C, cl) → w'.heap[C]? = w.heap[C]?) (hV : w'.heap[V]? = w.heap[V]?) (hg : ∀ i g, RB i = some g → w'.heap[g]? = w.heap[g]?) : After2 w' lo V X SB CB fr len a0 Fs Q D RB :=
  ⟨fun i => (h.got i).keep (hS i) (hC i) (hg i), h.srv.block hV⟩
def Alien3 (X AB V : Nat) (SB : Fin 4 → Nat) (CB : Fin 4 → Option (Nat × Bool)) (RB : Fin 4 → Option Nat) (w w' : World) : Prop := ∀ j c t f, j ≠ X → j ≠ AB → j ≠ V → (∀ i, j ≠ SB i) → (∀ i cl, CB i ≠ some (j, cl)) → (∀ i, RB i ≠ some j) → w.heap[j]? = some (.cells c t f) → w'.heap[j]? = some (.cells c t f)

/-- Where the sessions, their conns and the server lie. -/
structure Env2 (b1 b2 V X AB : Nat) (SB : Fin 4 → Nat) (CB : Fin 4 → Option (Nat × Bool)) : Prop where
  sx : ∀ i, SB i ≠ X ∧ SB i ≠ AB
  cx : ∀ i C cl, CB i = some (C, cl) → C ≠ X ∧ C ≠ AB
  sl : ∀ i, SB i < V
  cl : ∀ i C cl, CB i = some (C, cl) → C < V
  ss : ∀ i j, SB i = SB j → i = j
  sc : ∀ i j C cl, CB j = some (C, cl) → SB i ≠ C
  cc : ∀ i j C cl cl', CB i = some (C, cl) → CB j = some (C, cl') → i = j
  v : b2 ≤ V
  vx : V ≠ X ∧ V ≠ AB
  b12 : b1 ≤ b2
theorem Gn.blks {w : World} {lo S : Nat} {fs : List Value} {q : Int} {rb : Option Nat} {c : Option (Nat × Bool)} (h : Gn w lo S fs q rb c) : (∃ x t, w.heap[S]? = some (.cells x t (0, 0))) ∧ (∀ C cl, c = some (C, cl) → ∃ x t, w.heap[C]? = some (.cells x t (0, 0))) ∧ ∀ g, rb = some g → ∃ x t, w.heap[g]? = some (.cells x t (0, 0)) := by
  have row : ∀ {v : Value} {n : Nat} {xs : List Value}, w.ownsRow lo 24 1 v n xs → ∀ g, v.ownBlock = some g → ∃ x t, w.heap[g]? = some (.cells x t (0, 0)) := fun h g e => by
    rcases h.2 with ⟨rfl, _⟩ | ⟨g', cap, cur, rfl, _, h2, _⟩
    · cases e
    · injection e with e
      subst e
      exact ⟨_, _, h2⟩
  match c, h with
  | none, ⟨p, h1, h2, h3⟩ => exact ⟨h1.blk, fun C cl e => (by cases e), fun g e => row h2 g (h3.trans e)⟩
  | some (C, true), ⟨h1, h2, h3⟩ => exact ⟨h1.blk, fun C' cl e => (by injection e with e; injection e with e _; subst e; exact h2.blk), fun g e => (by rw [h3] at e; cases e)⟩
  | some (C, false), ⟨h1, o, h2, h3, h4⟩ => exact ⟨h1.blk, fun C' cl e => (by injection e with e; injection e with e _; subst e; exact h2.blk), fun g e => row h3 g (h4.trans e)⟩
/-- The table is still there when its maps and its two blocks of cells are. -/
theorem Tbl.alien {w w' : World} {b1 b2 X BK BS AB : Nat} {SB : Fin 4 → Nat} {IK : Key → Nat} {JS : Fin 4 → Nat} {ρ : Nat → Role} {A : Nat → Wt} {N : Nat} (h : Tbl w b1 b2 X BK BS AB SB IK JS ρ A N) (hm : ∀ (j : Nat) es c, w.heap[j]? = some (Obj.map es c) → w'.heap[j]? = some (Obj.map es c)) (hX : w'.heap[X]? = w.heap[X]?) (hA : 0 < N → w'.heap[AB]? = w.heap[AB]?) : Tbl w' b1 b2 X BK BS AB SB IK JS ρ A N := by
  refine ⟨(cellB hX 0).trans h.c0, (cellB hX 1).trans h.c1, ?_, (World.frozen?_of_block (w := w) (a := ⟨X, 2, none⟩) hX).trans h.fX, h.inj, fun i hi => ?_, fun j hN => (World.frozen?_of_block (w := w) (a := ⟨AB, j, none⟩) (hA hN)).trans (h.fA j hN), ?_, fun i hi => ?_, ?_, fun i hi => ?_, h.rK, h.rS, h.rI, h.rJ, h.XA, h.zX, h.zK, h.zS, h.zA, h.zI, h.zJ, h.bN⟩
  · obtain ⟨ao, cap, h1, h2⟩ := h.c2
    exact ⟨ao, cap, (cellB hX 2).trans h1, h2⟩
  · obtain ⟨h1, h2, h3⟩ := h.ce i hi
    have := hA (by omega)
    exact ⟨(cellB this _).trans h1, (cellB this _).trans h2, (cellB this _).trans h3⟩
  · obtain ⟨l, c, h1, h2⟩ := h.mK
    exact ⟨l, c, hm _ _ _ h1, h2⟩
  · obtain ⟨l, c, h1, h2⟩ := h.mI i hi
    exact ⟨l, c, hm _ _ _ h1, h2⟩
  · obtain ⟨l, c, h1, h2⟩ := h.mS
    exact ⟨l, c, hm _ _ _ h1, h2⟩
  · obtain ⟨l, c, h1, h2⟩ := h.mJ i hi
    exact ⟨l, c, hm _ _ _ h1, h2⟩

theorem after2 {w w3 : World} {b1 b2 V X AB lo : Nat} {SB : Fin 4 → Nat} {CB : Fin 4 → Option (Nat × Bool)} {a0 : Int} {Fs : Fin 4 → List Value} {Q : Fin 4 → Int} {RB : Fin 4 → Option Nat} (HE : Env2 b1 b2 V X AB SB CB) (HG : ∀ i, Gn w lo (SB i) (Fs i) (Q i) (RB i) (CB i)) (HV : Srv w V X a0 a0) (HR : ∀ i g, RB i = some g → lo ≤ g ∧ g < w.heap.size) (hVl : V < lo) (ha : Alien X AB w w3) (h : ∀ j, j < w.heap.size → b2 ≤ j → w3.heap[j]? = w.heap[j]?) (fr : Value) (len : Int) : After2 w3 lo V X SB CB fr len a0 Fs Q (fun _ => false) RB := by
  have lV : V < w.heap.size := World.block_lt_of_cell? _ _ HV.s
  have hv := HE.v
  refine ⟨fun i => (HG i).keep ?_ (fun C cl hc => ?_) (fun g hg => h g (HR i g hg).2 (by have := (HR i g hg).1; omega)), ?_⟩
  · obtain ⟨c, t, e⟩ := (HG i).blks.1
    rw [ha _ _ _ _ (HE.sx i).1 (HE.sx i).2 e, e]
  · obtain ⟨c, t, e⟩ := (HG i).blks.2.1 C cl hc
    rw [ha _ _ _ _ (HE.cx i C cl hc).1 (HE.cx i C cl hc).2 e, e]
  · have : (a0 + cnt fun i => (fun _ => false) i && isOpen (CB i)) = a0 := by simp [cnt, b2z]
    rw [this]
    exact HV.block (h V lV hv)

set_option maxHeartbeats 8000000 in
set_option maxRecDepth 100000 in
theorem notify2 (b1 b2 V X BK BS AB lo : Nat) (SB : Fin 4 → Nat) (CB : Fin 4 → Option (Nat × Bool)) (IK : Key → Nat) (JS : Fin 4 → Nat) (ρ : Nat → Role) (A : Nat → Wt) (N : Nat) (ev : Int) (u : Nat) (p : ByteArray) (ka : Option Addr) (n kc : Nat) (kd : Nat → Nat) (w : World) (h : Tbl w b1 b2 X BK BS AB SB IK JS ρ A N) (hS : Sess w SB) (he : Env2 b1 b2 V X AB SB CB) (hn : n ≤ 1024)
    (hk : ∀ j, j < n → ∃ KD, ka = some ⟨KD, 0, none⟩ ∧ w.cell? ⟨KD, j, none⟩ = some (.int .u8 (kd j)) ∧ b2 ≤ KD) (hp : p.size ≤ 8) (hwr : IntKind.u32.wrap ev = (u : Int)) (hu : u < 4294967296) (hb1 : 2 ≤ b1)
    (e0 : w.cell? ⟨1, 0, none⟩ = some (.int .i32 (-1))) (e1 : w.cell? ⟨1, 1, none⟩ = some (.int .i64 (-1))) (e2 : w.cell? ⟨1, 2, none⟩ = some (.int .i32 0))
    (a0 : Int) (Fs : Fin 4 → List Value) (Q : Fin 4 → Int) (RB0 : Fin 4 → Option Nat) (hse : ∀ i, Gn w lo (SB i) (Fs i) (Q i) (RB0 i) (CB i)) (hsv : Srv w V X a0 a0) (ha0 : 0 ≤ a0 ∧ a0 ≤ 100) (hFs : ∀ i, (Fs i).length ≤ 4) (hQ : ∀ i, 0 ≤ Q i ∧ Q i ≤ 500) (hR0 : ∀ i g, RB0 i = some g → lo ≤ g ∧ g < w.heap.size) (hRd : ∀ i j g, RB0 i = some g → RB0 j = some g → i = j) (hlo : lo ≤ w.heap.size) (hVl : V < lo) :
    Calls Ybad.prog 9 #[.pointer (some ⟨V, 0, none⟩), .int .i32 ev, .string p, .slice ka n kc] w fun e w' => ∃ A' N' D FB RB, e = .returned (.tuple #[]) ∧ Tbl w' b1 b2 X BK BS AB SB IK JS ρ A' N' ∧ (∀ x, Has A' N' x ↔ Has A N x ∧ ¬ Hit p kd n x) ∧ (∀ s, D s = true ↔ ∃ x, Has A N x ∧ x.2 = s ∧ Hit p kd n x) ∧
      After2 w' lo V X SB CB (.slice (some ⟨FB, 0, none⟩) (32 + p.size) 64) (32 + p.size : Nat) a0 Fs Q D RB ∧ ((∃ s, D s = true) → Buf w' FB 64 (frm u p)) ∧ (w.heap.size ≤ FB ∧ ∀ i, RB i ≠ some FB) ∧ (∀ i g, RB i = some g → lo ≤ g ∧ g < w'.heap.size) ∧ (∀ i j g, RB i = some g → RB j = some g → i = j) ∧ Fr (fun j => b1 ≤ j ∨ (∃ i, j = SB i) ∨ ∃ i cl, CB i = some (j, cl)) w w' ∧ Alien3 X AB V SB CB RB0 w w' := by
  have HT : Hid (Tbl w b1 b2 X BK BS AB SB IK JS ρ A N) := h
  have HS : Hid (Sess w SB) := hS
  have HE : Hid (Env2 b1 b2 V X AB SB CB) := he
  have HG : Hid (∀ i, Gn w lo (SB i) (Fs i) (Q i) (RB0 i) (CB i)) := hse
  have HV : Hid (Srv w V X a0 a0) := hsv
  have HR0 : Hid (∀ i g, RB0 i = some g → lo ≤ g ∧ g < w.heap.size) := hR0
  have HRd : Hid (∀ i j g, RB0 i = some g → RB0 j = some g → i = j) := hRd
  have HFQ : Hid ((∀ i, (Fs i).length ≤ 4) ∧ ∀ i, 0 ≤ Q i ∧ Q i ≤ 500) := ⟨hFs, hQ⟩
  have HK : Hid (∀ j, j < n → ∃ KD, ka = some ⟨KD, 0, none⟩ ∧ w.cell? ⟨KD, j, none⟩ = some (.int .u8 (kd j)) ∧ b2 ≤ KD) := hk
  have gx := hsv.x
  have lV : V < w.heap.size := World.block_lt_of_cell? _ _ hsv.s
  have hv := he.v
  clear h hS he hse hsv hk hR0 hRd hFs hQ
  go_enter Ybad.func9, Ybad.ntmps9
  go_wp2_with fail
  refine (take2 b1 b2 X BK BS AB SB IK JS ρ A N p ka n kc kd w HT.out HS.out HE.out.sx (by omega) hn HK.out).mono ?_
  rintro e w2 ⟨v, A', N', rfl, T2, H2, K2, R2, L2⟩
  have HL : Hid (Alien X AB w w2) := L2
  have P2 : Hid (Tbl w2 b1 b2 X BK BS AB SB IK JS ρ A' N' ∧ (∀ x, Has A' N' x ↔ Has A N x ∧ ¬ Hit p kd n x) ∧ Ring b1 b2 w w2) := ⟨T2, H2, R2⟩
  have old : Hid (∀ j, j < w.heap.size → (j < b1 ∨ b2 ≤ j) → w2.heap[j]? = w.heap[j]?) := R2.block
  have hb12 := HE.out.b12
  have AF : Hid (∀ w3 : World, Below w2.heap.size w2 w3 → ∀ fr len, After2 w3 lo V X SB CB fr len a0 Fs Q (fun _ => false) RB0) := fun w3 k fr len => after2 HE.out HG.out HV.out HR0.out hVl (HL.out.trans (Alien.of_below k)) (fun j h1 h2 => (k.block j (Nat.lt_of_lt_of_le h1 R2.size)).trans (R2.block j h1 (.inr h2))) fr len
  have FF : Hid (Fr (fun j => b1 ≤ j ∨ (∃ i, j = SB i) ∨ ∃ i cl, CB i = some (j, cl)) w w2) := ⟨R2.os, R2.tape, R2.output, R2.size, fun j h1 h2 => R2.block j h1 (.inl (by
      rcases Nat.lt_or_ge j b1 with q | q
      · exact q
      · exact absurd (.inl q) h2))⟩
  have lw := R2.size
  rcases K2 with ⟨rfl, hno⟩ | ⟨TB, l, c, rfl, mT, uT, stT, hT, loT⟩
  · have HN : Hid (∀ s, ¬ ∃ x, Has A N x ∧ x.2 = s ∧ Hit p kd n x) := hno
    clear T2 H2 R2 L2 hno
    go_wp2
    refine bodyPost_ret (results_none rfl _ _ _) rfl ?_
    exact ⟨A', N', fun _ => false, w.heap.size, RB0, rfl, P2.out.1, P2.out.2.1, fun s => ⟨fun q => (by cases q), fun q => absurd q (HN.out s)⟩, AF.out w2 (Below.refl _ _) _ _, fun ⟨s, q⟩ => (by cases q), ⟨Nat.le_refl _, fun i q => by have := (HR0.out i _ q).2; omega⟩, fun i g q => ⟨(HR0.out i g q).1, by have := (HR0.out i g q).2; omega⟩, HRd.out, FF.out, fun j c t f h1 h2 _ _ _ _ h => HL.out j c t f h1 h2 h⟩
  · have HT2 : Hid (RM.IsMap (kvS SB) w2 TB l c ∧ RM.Uniq l ∧ RM.Stamps l c ∧ (∀ s, (∃ u, RM.get l s = some u) ↔ ∃ x, Has A N x ∧ x.2 = s ∧ Hit p kd n x) ∧ w.heap.size ≤ TB) := ⟨mT, uT, stT, hT, loT⟩
    have NL : ∀ ty, (Builtin.len_ #[128] ty #[.map (some TB)]).run Ybad.prog w2 = .ok (.int .i64 (l.length : Int)) w2 := fun ty => RM.run_len Ybad.underlying128 mT ty
    have l1 : 1 < w.heap.size := World.block_lt_of_cell? _ _ e0
    replace e0 := (cellB (old.out 1 l1 (.inl (by omega))) 0).trans e0
    replace e1 := (cellB (old.out 1 l1 (.inl (by omega))) 1).trans e1
    replace e2 := (cellB (old.out 1 l1 (.inl (by omega))) 2).trans e2
    have l12 : 1 < w2.heap.size := by omega
    clear T2 H2 R2 L2 mT uT stT hT loT
    by_cases hnil : l = []
    · subst hnil
      go_wp2
      refine bodyPost_ret (results_none rfl _ _ _) rfl ?_
      refine ⟨A', N', fun _ => false, w.heap.size, RB0, rfl, P2.out.1, P2.out.2.1, fun s => ⟨fun q => (by cases q), fun q => ?_⟩, AF.out w2 (Below.refl _ _) _ _, fun ⟨s, q⟩ => (by cases q), ⟨Nat.le_refl _, fun i q => by have := (HR0.out i _ q).2; omega⟩, fun i g q => ⟨(HR0.out i g q).1, by have := (HR0.out i g q).2; omega⟩, HRd.out, FF.out, fun j c t f h1 h2 _ _ _ _ h => HL.out j c t f h1 h2 h⟩
      obtain ⟨u, hu⟩ := (HT2.out.2.2.2.1 s).2 q
      cases hu
    · have hl0 : ¬ (l.length : Int) = 0 := fun e => hnil (List.length_eq_zero_iff.1 (by omega))
      generalize l.length = ll at NL hl0
      go_wp2_with fail
      have sw : (w2.alloc (Obj.cells #[.iface 133 (.agg #[.int .i32 (-1), .int .i64 (-1), .int .i32 0]), .iface 135 (.agg #[.int .i32 ev, .int .i32 3, .string p])] 152)).heap.size = w2.heap.size + 1 := by simp
      refine (encode w2.heap.size ev u p _ hp hwr hu (by rw [alloc_new]; rfl) (by rw [alloc_new]; rfl)).mono ?_
      rintro e w4 ⟨FB, rfl, hbuf, hbel, hFB1, hFB2⟩
      have B4 : Hid (Below w2.heap.size w2 w4) := ((Below.refl _ _).alloc (Nat.le_refl _) _).trans (hbel.mono (by simp))
      rw [sw] at hFB1
      have M4 : RM.IsMap (kvS SB) w4 TB l c := (B4.out.block TB (IsMap.lt HT2.out.1)).trans HT2.out.1
      have RG := run_range_map (P := Ybad.prog) w4 128 25 36 TB _ c Ybad.underlying128 M4
      have B5 : Hid (Below w2.heap.size w2 (w4.alloc (.mapIter (some TB) c #[] c))) := B4.out.alloc B4.out.size _
      have J5 : Hid ((w4.alloc (.mapIter (some TB) c #[] c)).heap[w4.heap.size]? = some (.mapIter (some TB) c #[] c)) := heap_alloc_new w4 _
      have Z5 : Hid ((w4.alloc (.mapIter (some TB) c #[] c)).heap.size = w4.heap.size + 1) := by show _ = _; simp
      have U5 : Hid (Buf (w4.alloc (.mapIter (some TB) c #[] c)) FB 64 (frm u p)) := hbuf.block (Below.heap_alloc w4 _ FB hFB2)
      have l4 := B4.out.size
      have lTB := HT2.out.2.2.2.2
      have lTB2 : TB < w4.heap.size := IsMap.lt M4
      clear hbuf hbel sw NL
      go_wp2_with fail
      generalize w4.alloc (.mapIter (some TB) c #[] c) = w5 at B5 J5 Z5 U5 ⊢
      have I5 : Hid (RM.IsMap (kvS SB) w5 TB l c) := (B5.out.block TB (IsMap.lt HT2.out.1)).trans HT2.out.1
      have nRF : Hid (FB ≠ w4.heap.size ∧ TB ≠ w4.heap.size ∧ w2.heap.size ≤ w4.heap.size ∧ FB < w4.heap.size ∧ w2.heap.size ≤ FB ∧ TB < w4.heap.size) := ⟨by omega, by omega, l4, hFB2, by omega, lTB2⟩
      generalize hR : w4.heap.size = R at J5 Z5 nRF ⊢
      clear RG M4 l4 lTB2 hFB1 hFB2
      obtain ⟨fr, hfr⟩ : ∃ fr, Hid (fr = Value.slice (some ⟨FB, 0, none⟩) (32 + p.size) 64) := ⟨_, rfl⟩
      obtain ⟨len, hlen⟩ : ∃ len : Nat, Hid (len = 32 + p.size) := ⟨_, rfl⟩
      have hlen40 : len ≤ 64 := by have := hlen.out; omega
      rw [← hlen.out]
      go_loopw [] (fun wr => ∃ (seen : Array Nat) (D : Fin 4 → Bool) (RB : Fin 4 → Option Nat), Hid (wr.heap[R]? = some (.mapIter (some TB) c seen c)) ∧ Hid (RM.IsMap (kvS SB) wr TB l c) ∧ Hid (After2 wr lo V X SB CB (.slice (some ⟨FB, 0, none⟩) len 64) len a0 Fs Q D RB ∧ (∀ i g, RB i = some g → lo ≤ g ∧ g < wr.heap.size ∧ (RB0 i = some g ∨ R + 1 ≤ g)) ∧ ∀ i j g, RB i = some g → RB j = some g → i = j) ∧ Hid (Tbl wr b1 b2 X BK BS AB SB IK JS ρ A' N') ∧ Hid (Fr (fun j => b1 ≤ j ∨ (∃ i, j = SB i) ∨ ∃ i cl, CB i = some (j, cl)) w wr) ∧ Hid (Buf wr FB 64 (frm u p)) ∧ Hid (∀ e ∈ l, D e.k = seen.contains e.n) ∧ Hid (∀ s, D s = true → ∃ e ∈ l, e.k = s) ∧ Hid ((seen.size : Int) = cnt fun i => D i && true) ∧ Hid (R + 1 ≤ wr.heap.size) ∧ Hid (Alien3 X AB V SB CB RB0 w wr)) (fun wr => 4 - seenOf wr R)
      case atStart =>
        exact ⟨#[], fun _ => false, RB0, J5, I5, ⟨AF.out w5 B5.out _ _, fun i g q => ⟨(HR0.out i g q).1, by have := (HR0.out i g q).2; have := nRF.out; have := Z5.out; omega, .inl q⟩, HRd.out⟩, P2.out.1.below B5.out, FF.out.trans (Fr.of_below B5.out), U5, fun e he => by simp, fun s q => (by cases q), by show _ = _; simp [cnt, b2z], by have := Z5.out; show _ ≤ _; omega, fun j c t f h1 h2 _ _ _ _ h => Alien.of_below (X := X) (AB := AB) B5.out j c t f h1 h2 (HL.out j c t f h1 h2 h)⟩
      case round =>
        obtain ⟨seen, D, RB, J6, I6, A6, T6, F6, U6, HD, HE', HC, hlo6, X6⟩ := hrel
        clear J5 Z5 U5 I5 B5
        have hold : ∀ x ∈ ((l.map (RM.Ent.raw (kvS SB))).toArray).toList, x.born < c := fun x hx => by
          simp at hx
          obtain ⟨e, he, rfl⟩ := hx
          exact HT2.out.2.2.1.1 e he
        rcases run_next_at (P := Ybad.prog) wr 0 R TB c c seen _ c J6.out I6.out hold (Nat.le_refl _) with ⟨hleft, hnx⟩ | ⟨e, hel, w1, hw1, hnx⟩
        · have hall : ∀ e ∈ l, D e.k = true := fun e he => by
            rw [HD.out e he]
            have h0 : leftOf (l.map (RM.Ent.raw (kvS SB))).toArray seen = #[] := Array.eq_empty_of_size_eq_zero hleft
            unfold leftOf at h0
            rw [Array.filter_eq_empty_iff] at h0
            have := h0 (RM.Ent.raw (kvS SB) e) (by simp; exact ⟨e, he, rfl⟩)
            simpa [RM.Ent.raw] using this
          have hfin : Hid (∀ s, D s = true ↔ ∃ x, Has A N x ∧ x.2 = s ∧ Hit p kd n x) := fun s => by
            rw [← HT2.out.2.2.2.1 s]
            constructor
            · intro q
              obtain ⟨e, he, rfl⟩ := HE'.out s q
              exact ⟨e.v, RM.get_of_mem HT2.out.2.1 he⟩
            · rintro ⟨v, hv⟩
              obtain ⟨e, he, rfl, _⟩ := RM.get_mem hv
              exact hall e he
          clear hleft hold hall
          go_wp2
          refine bodyPost_end (results_none rfl _ _ _) rfl ?_
          refine ⟨A', N', D, FB, RB, rfl, T6.out, P2.out.2.1, hfin.out, ?_, fun _ => U6.out, ⟨by have := nRF.out; omega, fun i q => ?_⟩, fun i g q => ⟨(A6.out.2.1 i g q).1, (A6.out.2.1 i g q).2.1⟩, A6.out.2.2, F6.out, X6.out⟩
          rotate_left
          · rcases (A6.out.2.1 i FB q).2.2 with q0 | q0
            · have := (HR0.out i FB q0).2; have := nRF.out; omega
            · have := nRF.out; omega
          have := A6.out.1
          rw [hlen.out] at this
          exact this
        · have hel' := hel
          unfold leftOf at hel'
          simp at hel'
          obtain ⟨⟨e0, he0, rfl⟩, hns⟩ := hel'
          have hns' : seen.contains e0.n = false := by simpa [RM.Ent.raw] using hns
          have hDf : D e0.k = false := (HD.out e0 he0).trans hns'
          have ltR : R < wr.heap.size := by have := hlo6.out; omega
          have ltR1 : R < w1.heap.size := by rcases hw1 with rfl | rfl <;> exact ltR
          have hTR := nRF.out.2.1
          have hbl : ∀ j, j ≠ R → (setBlock w1 R (.mapIter (some TB) c (seen.push (RM.Ent.raw (kvS SB) e0).born) c)).heap[j]? = wr.heap[j]? := fun j hj => (RM.heap_set_other _ hj).trans (by rcases hw1 with rfl | rfl <;> rfl)
          have hself : (setBlock w1 R (.mapIter (some TB) c (seen.push (RM.Ent.raw (kvS SB) e0).born) c)).heap[R]? = some (.mapIter (some TB) c (seen.push e0.n) c) := by
            simp [setBlock, ltR1, RM.Ent.raw]
          have hsz : (setBlock w1 R (.mapIter (some TB) c (seen.push (RM.Ent.raw (kvS SB) e0).born) c)).heap.size = wr.heap.size := by rcases hw1 with rfl | rfl <;> simp [setBlock]
          have hFr : Fr (fun j => b1 ≤ j ∨ (∃ i, j = SB i) ∨ ∃ i cl, CB i = some (j, cl)) w (setBlock w1 R (.mapIter (some TB) c (seen.push (RM.Ent.raw (kvS SB) e0).born) c)) := by
            have f := F6.out
            refine ⟨?_, ?_, ?_, by rw [hsz]; exact f.size, fun j h1 h2 => (hbl j (by have := nRF.out; omega)).trans (f.block j h1 h2)⟩
            · rcases hw1 with rfl | rfl <;> exact f.os
            · rcases hw1 with rfl | rfl <;> exact f.tape
            · rcases hw1 with rfl | rfl <;> exact f.output
          have hen := run_entry_at (P := Ybad.prog) _ R TB c seen _ c (RM.Ent.raw (kvS SB) e0) hself ((hbl _ hTR).trans I6.out) (by simp; exact ⟨e0, he0, rfl⟩) (by
            have := HT2.out.2.2.1.2
            simpa [List.map_map, RM.Ent.raw, Function.comp_def] using this)
          have hseen : seenOf wr R = seen.size := by unfold seenOf; rw [J6.out]
          generalize setBlock w1 R (.mapIter (some TB) c (seen.push (RM.Ent.raw (kvS SB) e0).born) c) = w6 at hnx hbl hself hsz hFr hen
          have ek : (RM.Ent.raw (kvS SB) e0).key = .pointer (some ⟨SB e0.k, 0, none⟩) := rfl
          rw [ek] at hnx hen
          obtain ⟨v0, hv0⟩ : ∃ v0, (RM.Ent.raw (kvS SB) e0).val = v0 := ⟨_, rfl⟩
          rw [hv0] at hnx hen
          have lS : ∀ i, SB i < w.heap.size := fun i => by
            obtain ⟨c, t, e⟩ := HS.out.blk i
            rcases Array.getElem?_eq_some_iff.1 e with ⟨h, _⟩
            exact h
          have lo1 : w.heap.size ≤ R := by have := nRF.out; omega
          have lC : ∀ i C cl, CB i = some (C, cl) → C < w.heap.size := fun i C cl h => by have := HE.out.cl i C cl h; omega
          have nR : ∀ i g, RB i = some g → g ≠ R := fun i g q e => by
            rcases (A6.out.2.1 i g q).2.2 with q0 | q0
            · have := (HR0.out i g q0).2; omega
            · omega
          have A7 : After2 w6 lo V X SB CB (.slice (some ⟨FB, 0, none⟩) len 64) len a0 Fs Q D RB := A6.out.1.keep (fun i => hbl _ (by have := lS i; omega)) (fun i C cl h => hbl _ (by have := lC i C cl h; omega)) (hbl V (by omega)) (fun i g h1 => hbl g (nR i g h1))
          have RB7 : Hid ((∀ i g, RB i = some g → lo ≤ g ∧ g < w6.heap.size ∧ (RB0 i = some g ∨ R + 1 ≤ g)) ∧ ∀ i j g, RB i = some g → RB j = some g → i = j) := ⟨fun i g q => by rw [hsz]; exact A6.out.2.1 i g q, A6.out.2.2⟩
          have T7 : Hid (Tbl w6 b1 b2 X BK BS AB SB IK JS ρ A' N') := T6.out.zone fun j h1 h2 => hbl j (by omega)
          have I7 : Hid (RM.IsMap (kvS SB) w6 TB l c) := (hbl _ hTR).trans I6.out
          have J7 : Hid (w6.heap[R]? = some (.mapIter (some TB) c (seen.push e0.n) c)) := hself
          have U7 : Hid (Buf w6 FB 64 (frm u p)) := U6.out.block (hbl FB nRF.out.1)
          have F7 : Hid (Fr (fun j => b1 ≤ j ∨ (∃ i, j = SB i) ∨ ∃ i cl, CB i = some (j, cl)) w w6) := hFr
          have X7 : Hid (Alien3 X AB V SB CB RB0 w w6) := fun j c t f h1 h2 h3 h4 h5 h6 h => by
            have q := X6.out j c t f h1 h2 h3 h4 h5 h6 h
            have hne : j ≠ R := fun e => by rw [e, J6.out] at q; cases q
            exact (hbl j hne).trans q
          have S7 : Hid (R + 1 ≤ w6.heap.size) := by show _ ≤ _; rw [hsz]; exact hlo6.out
          have hcn := cnt_bd fun i => D i && isOpen (CB i)
          have hcn2 := cnt_bd fun i => (D i || decide (i = e0.k)) && true
          have hadd := cnt_add (fun _ => true) D e0.k hDf
          have hadd2 := cnt_add (fun i => isOpen (CB i)) D e0.k hDf
          have hgot := A7.got e0.k
          rw [hDf] at hgot
          simp only [Bool.false_eq_true, if_false] at hgot
          have HG7 : Hid (Gn w6 lo (SB e0.k) (Fs e0.k) (Q e0.k) (RB e0.k) (CB e0.k)) := hgot
          have HA7 : Hid (After2 w6 lo V X SB CB (.slice (some ⟨FB, 0, none⟩) len 64) len a0 Fs Q D RB) := A7
          have PAD : Hid (cnt (fun i => (D i || decide (i = e0.k)) && true) = cnt (fun i => D i && true) + b2z true ∧ cnt (fun i => (D i || decide (i = e0.k)) && isOpen (CB i)) = cnt (fun i => D i && isOpen (CB i)) + b2z (isOpen (CB e0.k)) ∧ cnt (fun i => (D i || decide (i = e0.k)) && true) ≤ 4) := ⟨hadd, hadd2, hcn2.2⟩
          clear hadd hadd2 hcn2 hgot A7 A6 nR T6 I6 J6 U6 F6 hlo6 X6 hel hns hold hw1 ek hv0 hself hFr
          go_wp2_with fail
          refine (send2 V X (SB e0.k) lo (a0 + cnt fun i => D i && isOpen (CB i)) (a0 + cnt fun i => D i && isOpen (CB i)) FB len (CB e0.k) w6 (Fs e0.k) (Q e0.k) (RB e0.k) HG7.out HA7.out.srv (by have := S7.out; omega) (by have := lS e0.k; have := HE.out.sl e0.k; omega) hVl (fun C cl h => ⟨by have := HE.out.cl e0.k C cl h; omega, by have := HE.out.cl e0.k C cl h; omega, HE.out.sc e0.k e0.k C cl h⟩) (by have := HE.out.sl e0.k; omega) hlen40 (by omega) (by omega) (by have := HFQ.out.1 e0.k; omega) (by have := HFQ.out.2 e0.k; omega)).mono ?_
          rintro e w8 ⟨rfl, rb', hG8, hrb, hV8, hF8⟩
          have nn : ∀ j, j < w6.heap.size → j ≠ V → j ≠ SB e0.k → (∀ cl, CB e0.k ≠ some (j, cl)) → RB e0.k ≠ some j → w8.heap[j]? = w6.heap[j]? := fun j h1 h2 h3 h4 h5 => hF8.block j h1 (fun q => by
            rcases q with q | q | ⟨cl, q⟩ | q
            · exact h2 q
            · exact h3 q
            · exact h4 cl q
            · exact h5 q)
          have s7 := S7.out
          have hltG : ∀ g, rb' = some g → g < w8.heap.size := fun g hg => (hG8.rlt g hg).2
          have REL : ∃ (seen : Array Nat) (D : Fin 4 → Bool) (RB : Fin 4 → Option Nat), Hid (w8.heap[R]? = some (.mapIter (some TB) c seen c)) ∧ Hid (RM.IsMap (kvS SB) w8 TB l c) ∧ Hid (After2 w8 lo V X SB CB (.slice (some ⟨FB, 0, none⟩) len 64) len a0 Fs Q D RB ∧ (∀ i g, RB i = some g → lo ≤ g ∧ g < w8.heap.size ∧ (RB0 i = some g ∨ R + 1 ≤ g)) ∧ ∀ i j g, RB i = some g → RB j = some g → i = j) ∧ Hid (Tbl w8 b1 b2 X BK BS AB SB IK JS ρ A' N') ∧ Hid (Fr (fun j => b1 ≤ j ∨ (∃ i, j = SB i) ∨ ∃ i cl, CB i = some (j, cl)) w w8) ∧ Hid (Buf w8 FB 64 (frm u p)) ∧ Hid (∀ e ∈ l, D e.k = seen.contains e.n) ∧ Hid (∀ s, D s = true → ∃ e ∈ l, e.k = s) ∧ Hid ((seen.size : Int) = cnt fun i => D i && true) ∧ Hid (R + 1 ≤ w8.heap.size) ∧ Hid (Alien3 X AB V SB CB RB0 w w8) := by
            have hbig : ∀ j, w.heap.size ≤ j → j < w6.heap.size → RB e0.k ≠ some j → w8.heap[j]? = w6.heap[j]? := fun j h1 h2 h3 => nn j h2 (by omega) (by have := lS e0.k; omega) (fun cl q => by have := lC _ _ _ q; omega) h3
            have mid : ∀ j, w.heap.size ≤ j → j ≤ R → RB e0.k ≠ some j := fun j h1 h2 q => by
              rcases (RB7.out.1 _ _ q).2.2 with q0 | q0
              · have := (HR0.out _ _ q0).2; omega
              · omega
            have zone : ∀ j, j < lo → RB e0.k ≠ some j := fun j h1 q => by have := (RB7.out.1 _ _ q).1; omega
            have b6 := HG7.out.blks
            have T8 : Tbl w8 b1 b2 X BK BS AB SB IK JS ρ A' N' := by
              refine T7.out.alien (fun j es cc e => ?_) (nn X (World.block_lt_of_cell? _ _ T7.out.c0) (Ne.symm HE.out.vx.1) (Ne.symm (HE.out.sx e0.k).1) (fun cl q => (HE.out.cx _ _ _ q).1 rfl) (zone X (by have := T7.out.zX.2; omega))) (fun hN => nn AB (World.block_lt_of_cell? _ _ (T7.out.ce 0 hN).1) (Ne.symm HE.out.vx.2) (Ne.symm (HE.out.sx e0.k).2) (fun cl q => (HE.out.cx _ _ _ q).2 rfl) (zone AB (by have := (T7.out.zA hN).2; omega)))
              have nc : ∀ {k : Nat}, (∃ x t, w6.heap[k]? = some (.cells x t (0, 0))) → j ≠ k := fun ⟨x, t, e'⟩ q => by rw [← q, e] at e'; cases e'
              refine (nn j (by rcases Array.getElem?_eq_some_iff.1 e with ⟨h, _⟩; exact h) (nc HA7.out.srv.blk) (nc b6.1) (fun cl q => nc (b6.2.1 _ _ q) rfl) (fun q => nc (b6.2.2 _ q) rfl)).trans e
            refine ⟨seen.push e0.n, fun i => D i || decide (i = e0.k), fun i => if i = e0.k then rb' else RB i, (hbig R lo1 (by omega) (mid R lo1 (Nat.le_refl _))).trans J7.out, (hbig TB HT2.out.2.2.2.2 (by have := nRF.out; omega) (mid TB HT2.out.2.2.2.2 (by have := nRF.out; omega))).trans I7.out, ⟨⟨fun i => ?_, ?_⟩, fun i g q => ?_, fun i j g q q' => ?_⟩, T8, ?_, U7.out.block (hbig FB (by have := nRF.out; omega) (by have := nRF.out; omega) (mid FB (by have := nRF.out; omega) (by have := nRF.out; omega))), fun e he => ?_, fun s q => ?_, ?_, Nat.le_trans s7 hF8.size, fun j c t f h1 h2 h3 h4 h5 h6 h => ?_⟩
            · by_cases ei : i = e0.k
              · subst ei
                simp only [decide_true, Bool.or_true, if_true]
                exact hG8
              · simp only [ei, decide_false, Bool.or_false, if_false]
                refine (HA7.out.got i).keep (nn _ (by have := lS i; omega) (by have := HE.out.sl i; omega) (fun q => ei (HE.out.ss _ _ q)) (fun cl q => HE.out.sc i e0.k _ cl q rfl) (zone _ (by have := HE.out.sl i; omega))) (fun C cl hc => nn C (by have := lC i C cl hc; omega) (by have := HE.out.cl i C cl hc; omega) (fun q => HE.out.sc e0.k i C cl hc q.symm) (fun cl' q => ei (HE.out.cc i e0.k C cl cl' hc q)) (zone _ (by have := HE.out.cl i C cl hc; omega))) (fun g h1 => ?_)
                have hg := RB7.out.1 i g h1
                exact nn g hg.2.1 (by omega) (by have := HE.out.sl e0.k; omega) (fun cl q => by have := HE.out.cl _ _ _ q; omega) (fun q => ei (RB7.out.2 i e0.k g h1 q))
            · show Srv w8 V X (a0 + cnt fun i => (D i || decide (i = e0.k)) && isOpen (CB i)) (a0 + cnt fun i => (D i || decide (i = e0.k)) && isOpen (CB i))
              rw [PAD.out.2.1, ← Int.add_assoc]
              exact hV8
            · have q1 : (if i = e0.k then rb' else RB i) = some g := q
              clear q
              have hsz8 := hF8.size
              by_cases ei : i = e0.k
              · rw [if_pos ei] at q1
                subst ei
                rcases hrb with hrb | ⟨g', hrb, hg'⟩
                · rw [hrb] at q1
                  have h7 := RB7.out.1 _ g q1
                  exact ⟨h7.1, by omega, h7.2.2⟩
                · have h8 := hltG _ hrb
                  rw [hrb] at q1
                  injection q1 with q1
                  subst q1
                  exact ⟨by omega, h8, .inr (by omega)⟩
              · rw [if_neg ei] at q1
                have h7 := RB7.out.1 i g q1
                exact ⟨h7.1, by omega, h7.2.2⟩
            · have key : ∀ i j, i = e0.k → j ≠ e0.k → rb' = some g → RB j = some g → False := fun i j hi hj h1 h2 => by
                rcases hrb with hrb | ⟨g', hrb, hg'⟩
                · rw [hrb] at h1
                  exact hj (RB7.out.2 _ _ _ h2 h1)
                · rw [hrb] at h1
                  injection h1 with h1
                  have := (RB7.out.1 j g h2).2.1
                  omega
              have q1 : (if i = e0.k then rb' else RB i) = some g := q
              have q2 : (if j = e0.k then rb' else RB j) = some g := q'
              clear q q'
              by_cases ei : i = e0.k <;> by_cases ej : j = e0.k
              · rw [ei, ej]
              · rw [if_pos ei] at q1
                rw [if_neg ej] at q2
                exact (key i j ei ej q1 q2).elim
              · rw [if_neg ei] at q1
                rw [if_pos ej] at q2
                exact (key j i ej ei q2 q1).elim
              · rw [if_neg ei] at q1
                rw [if_neg ej] at q2
                exact RB7.out.2 i j g q1 q2
            · refine F7.out.trans (hF8.mono fun j hj => ?_)
              rcases hj with rfl | rfl | ⟨cl, q⟩ | q
              · exact .inl (by omega)
              · exact .inr (.inl ⟨e0.k, rfl⟩)
              · exact .inr (.inr ⟨e0.k, cl, q⟩)
              · exact .inl (by have := (RB7.out.1 _ _ q).1; omega)
            · by_cases hk : e.k = e0.k
              · have hee : e = e0 := nodup_inj HT2.out.2.1 he he0 hk
                subst hee
                simp
              · have hn' : e.n ≠ e0.n := fun q => hk (by rw [nodup_inj HT2.out.2.2.1.2 he he0 q])
                show (D e.k || decide (e.k = e0.k)) = _
                rw [HD.out e he]
                simp [hk, hn']
            · simp only [Bool.or_eq_true, decide_eq_true_eq] at q
              rcases q with q | rfl
              · exact HE'.out s q
              · exact ⟨e0, he0, rfl⟩
            · show ((seen.push e0.n).size : Int) = cnt fun i => (D i || decide (i = e0.k)) && true
              rw [PAD.out.1, ← HC.out]
              simp [b2z]
            · have q := X7.out j c t f h1 h2 h3 h4 h5 h6 h
              have hlt : j < w6.heap.size := by
                rcases Array.getElem?_eq_some_iff.1 q with ⟨h, _⟩
                exact h
              refine (nn j hlt h3 (h4 e0.k) (fun cl => h5 e0.k cl) (fun qr => ?_)).trans q
              rcases (RB7.out.1 _ _ qr).2.2 with q0 | q0
              · exact h6 _ q0
              · have hlt0 : j < w.heap.size := by
                  rcases Array.getElem?_eq_some_iff.1 h with ⟨h, _⟩
                  exact h
                omega
          have hm : seenOf w8 R = seen.size + 1 := by
            unfold seenOf
            rw [nn R (by omega) (by omega) (by have := lS e0.k; omega) (fun cl q => by have := lC _ _ _ q; omega) (fun q => by
              rcases (RB7.out.1 _ _ q).2.2 with q0 | q0
              · have := (HR0.out _ _ q0).2; omega
              · omega), J7.out]
            simp
          have hms : seen.size < 4 := by
            have h1 := PAD.out.1
            have h2 := PAD.out.2.2
            have h3 := HC.out
            have h4 : b2z true = 1 := rfl
            omega
          clear nn hG8 hV8 hF8
          go_wp2
          exact ⟨REL, by omega⟩
end Go.Proofs.YbulkcrxoDoor.F
