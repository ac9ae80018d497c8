/-
  LawS4681AFires, LawS4681BFire: what the table answers when it is asked.
-/
import Derived.Test.YbulkcrxoDoorFNf
set_option linter.unusedVariables false
namespace Go.Proofs.YbulkcrxoDoor.F
open Go.RowKit Go.Any

/-- What the outer maps answer. -/
structure Mk (A : Nat → Wt) (N : Nat) (IK : Key → Nat) (JS : Fin 4 → Nat) (k : Key) (s : Fin 4) (m m' : Option Nat) : Prop where
  k1 : KeyIn A N k → m = some (IK k)
  k0 : ¬ KeyIn A N k → m = none
  s1 : SesIn A N s → m' = some (JS s)
  s0 : ¬ SesIn A N s → m' = none
theorem mk_ex (A : Nat → Wt) (N : Nat) (IK : Key → Nat) (JS : Fin 4 → Nat) (k : Key) (s : Fin 4) : ∃ m m', Mk A N IK JS k s m m' := by
  by_cases h : KeyIn A N k <;> by_cases h' : SesIn A N s
  · exact ⟨some (IK k), some (JS s), fun _ => rfl, fun q => absurd h q, fun _ => rfl, fun q => absurd h' q⟩
  · exact ⟨some (IK k), none, fun _ => rfl, fun q => absurd h q, fun q => absurd q h', fun _ => rfl⟩
  · exact ⟨none, some (JS s), fun q => absurd q h, fun _ => rfl, fun _ => rfl, fun q => absurd h' q⟩
  · exact ⟨none, none, fun q => absurd q h, fun _ => rfl, fun q => absurd q h', fun _ => rfl⟩

section
variable {w : World} {b1 b2 X BK BS AB : Nat} {SB : Fin 4 → Nat} {IK : Key → Nat} {JS : Fin 4 → Nat} {ρ : Nat → Role} {A : Nat → Wt} {N : Nat} {k : Key} {s : Fin 4} {m m' : Option Nat}
theorem look64 (h : Tbl w b1 b2 X BK BS AB SB IK JS ρ A N) (hm : Mk A N IK JS k s m m') : (Instr.lookup 64 (.map (some BK)) (.agg #[.string k.1, .int .u8 (k.2 : Int)]) false).run Ybad.prog w = .ok (.map m) w := by
  obtain ⟨l, c, h1, h2⟩ := h.mK
  refine Eq.trans (RM.run_lookup Ybad.underlying64 (watchKeys w) h1 (zero63 _) k) ?_
  by_cases hki : KeyIn A N k
  · rw [(h2.2 k _).2 ⟨hki, rfl⟩, hm.k1 hki]; rfl
  · rw [get_none_of (fun v hv => hki ((h2.2 k v).1 hv).1), hm.k0 hki]; rfl
theorem look65 (h : Tbl w b1 b2 X BK BS AB SB IK JS ρ A N) (hS : Sess w SB) (hm : Mk A N IK JS k s m m') : (Instr.lookup 65 (.map (some BS)) (.pointer (some ⟨SB s, 0, none⟩)) false).run Ybad.prog w = .ok (.map m') w := by
  obtain ⟨l, c, h1, h2⟩ := h.mS
  refine Eq.trans (RM.run_lookup Ybad.underlying65 (sessKeys hS) h1 (zero71 _) s) ?_
  by_cases hki : SesIn A N s
  · rw [(h2.2 s _).2 ⟨hki, rfl⟩, hm.s1 hki]; rfl
  · rw [get_none_of (fun v hv => hki ((h2.2 s v).1 hv).1), hm.s0 hki]; rfl
theorem look63 (h : Tbl w b1 b2 X BK BS AB SB IK JS ρ A N) (hS : Sess w SB) (hm : Mk A N IK JS k s m m') {i : Nat} (hi : i < N) (e : A i = (k, s)) : (Instr.lookup 63 (.map m) (.pointer (some ⟨SB s, 0, none⟩)) true).run Ybad.prog w = .ok (.tuple #[.int .i64 (i : Int), .bool true]) w := by
  have e1 : (A i).1 = k := by rw [e]
  obtain ⟨l, c, h1, h2, _⟩ := h.mI i hi
  rw [e1] at h1 h2
  rw [hm.k1 ⟨i, hi, e1⟩]
  refine Eq.trans (RM.run_lookup_ok Ybad.underlying63 (sessKeys hS) h1 (zero3 _) s) ?_
  rw [(h2.2 s _).2 ⟨i, hi, e, rfl⟩]; rfl
theorem look63n (h : Tbl w b1 b2 X BK BS AB SB IK JS ρ A N) (hS : Sess w SB) (hm : Mk A N IK JS k s m m') (hx : ¬ Has A N (k, s)) : (Instr.lookup 63 (.map m) (.pointer (some ⟨SB s, 0, none⟩)) true).run Ybad.prog w = .ok (.tuple #[.int .i64 0, .bool false]) w := by
  by_cases hki : KeyIn A N k
  · obtain ⟨i, hi, e1⟩ := id hki
    obtain ⟨l, c, h1, h2, _⟩ := h.mI i hi
    rw [e1] at h1 h2
    rw [hm.k1 hki]
    refine Eq.trans (RM.run_lookup_ok Ybad.underlying63 (sessKeys hS) h1 (zero3 _) s) ?_
    rw [get_none_of (fun v hv => by obtain ⟨i0, hi0, e, _⟩ := (h2.2 s v).1 hv; exact hx ⟨i0, hi0, e⟩)]; rfl
  · rw [hm.k0 hki]
    exact nil63 hS s
theorem look71 (h : Tbl w b1 b2 X BK BS AB SB IK JS ρ A N) (hm : Mk A N IK JS k s m m') (hx : Has A N (k, s)) : (Instr.lookup 71 (.map m') (.agg #[.string k.1, .int .u8 (k.2 : Int)]) true).run Ybad.prog w = .ok (.tuple #[.agg #[], .bool true]) w := by
  obtain ⟨i, hi, e⟩ := hx
  have e1 : (A i).2 = s := by rw [e]
  obtain ⟨l, c, h1, h2⟩ := h.mJ i hi
  rw [e1] at h1 h2
  rw [hm.s1 ⟨i, hi, e1⟩]
  refine Eq.trans (RM.run_lookup_ok Ybad.underlying71 (watchKeys w) h1 (zero36 _) k) ?_
  rw [(h2.2 k _).2 ⟨⟨i, hi, e⟩, rfl⟩]; rfl
theorem look71n (h : Tbl w b1 b2 X BK BS AB SB IK JS ρ A N) (hm : Mk A N IK JS k s m m') (hx : ¬ Has A N (k, s)) : (Instr.lookup 71 (.map m') (.agg #[.string k.1, .int .u8 (k.2 : Int)]) true).run Ybad.prog w = .ok (.tuple #[.agg #[], .bool false]) w := by
  by_cases hki : SesIn A N s
  · obtain ⟨i, hi, e1⟩ := id hki
    obtain ⟨l, c, h1, h2⟩ := h.mJ i hi
    rw [e1] at h1 h2
    rw [hm.s1 hki]
    refine Eq.trans (RM.run_lookup_ok Ybad.underlying71 (watchKeys w) h1 (zero36 _) k) ?_
    rw [get_none_of (fun v hv => hx ((h2.2 k v).1 hv).1)]; rfl
  · rw [hm.s0 hki]
    exact nil71 k
end
theorem neq61 (w : World) (a : Key) : (binOp .neq 61 (.agg #[.string a.1, .int .u8 (a.2 : Int)]) (.agg #[.string a.1, .int .u8 (a.2 : Int)])).run Ybad.prog w = .ok (.bool false) w := by
  have := eq_key w a a
  unfold kvK at this
  simp only [binOp]
  simp [this]
theorem neq25 (w : World) (a : Addr) : (binOp .neq 25 (.pointer (some a)) (.pointer (some a))).run Ybad.prog w = .ok (.bool false) w := by
  obtain ⟨j, hj, hsz⟩ := info32
  have h : ∀ d : Nat, (Op.equalIn (d + 1) 25 (.pointer (some a)) (.pointer (some a))).run Ybad.prog w = .ok true w := fun d => by
    simp [Op.equalIn, run_underlying Ybad.underlying25, sizeOf, typeInfo, hj, run_sameAddr_same]
  simp only [binOp]
  simp [Op.equal, Op.maxDepth, h 9999]
theorem info52 : ∃ j, Ybad.prog.info? 52 = some j := by
  have h : (Ybad.prog.info? 52).isSome = true := by kernel_rfl
  exact Option.isSome_iff_exists.1 h
theorem neq27 (w : World) (a : Addr) : (binOp .neq 27 (.pointer (some a)) (.pointer (some a))).run Ybad.prog w = .ok (.bool false) w := by
  obtain ⟨j, hj⟩ := info52
  have h : ∀ d : Nat, (Op.equalIn (d + 1) 27 (.pointer (some a)) (.pointer (some a))).run Ybad.prog w = .ok true w := fun d => by
    simp [Op.equalIn, run_underlying Ybad.underlying27, sizeOf, typeInfo, hj, run_sameAddr_same]
  simp only [binOp]
  simp [Op.equal, Op.maxDepth, h 9999]

/-- The list's element under the hand. -/
def Pl (w : World) (P : Nat) (k : Key) (s : Fin 4) : Prop := w.heap[P]? = some (.cells #[.string k.1, .int .u8 (k.2 : Int), .int .i64 (s.val : Int)] 73 (0, 0))
theorem Pl.c0 {w : World} {P : Nat} {k : Key} {s : Fin 4} (h : Pl w P k s) : w.cell? ⟨P, 0, none⟩ = some (.string k.1) := by simp only [World.cell?, show w.heap[P]? = _ from h]; rfl
theorem Pl.c1 {w : World} {P : Nat} {k : Key} {s : Fin 4} (h : Pl w P k s) : w.cell? ⟨P, 1, none⟩ = some (.int .u8 (k.2 : Int)) := by simp only [World.cell?, show w.heap[P]? = _ from h]; rfl
theorem Pl.c2 {w : World} {P : Nat} {k : Key} {s : Fin 4} (h : Pl w P k s) : w.cell? ⟨P, 2, none⟩ = some (.int .i64 (s.val : Int)) := by simp only [World.cell?, show w.heap[P]? = _ from h]; rfl
theorem Pl.set {w : World} {P : Nat} {k : Key} {s : Fin 4} (h : Pl w P k s) {b o : Nat} (hb : P ≠ b) (v : Value) : Pl (w.setCell ⟨b, o, none⟩ v) P k s := (Below.heap_setCell _ _ _ _ (by exact hb)).trans h
theorem Pl.lt {w : World} {P : Nat} {k : Key} {s : Fin 4} (h : Pl w P k s) : P < w.heap.size := World.block_lt_of_cell? _ _ h.c0
theorem Pl.new (w : World) (k : Key) (s : Fin 4) : Pl (w.alloc (.cells #[.string k.1, .int .u8 (k.2 : Int), .int .i64 (s.val : Int)] 73)) w.heap.size k s := heap_alloc_new w _
theorem rc_skip {q : Wt → Bool} {A : Nat → Wt} {i : Nat} (h : q (A i) = false) : rc q A (i + 1) = rc q A i := by
  conv => lhs; unfold rc
  simp [h]
theorem rc_take {q : Wt → Bool} {A : Nat → Wt} {i : Nat} (h : q (A i) = true) : rc q A (i + 1) = rc q A i + 1 := by
  conv => lhs; unfold rc
  simp [h]
end Go.Proofs.YbulkcrxoDoor.F
