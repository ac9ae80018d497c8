/-
  LawS4689CSpend: the walk.
-/
import Derived.Test.YbulkcsbwDoorSpend
import Derived.Test.YbulkcsbwDoorRaw
import Derived.LaidEql
import Derived.Deep.DeepCutAuto
namespace Go.Proofs.YbulkcsbwDoor
open Go.RowKit
open Go.ChangeMaps (setBlock)

/-- The drawn registrations: what element i holds. -/
structure Drawn where
  tm : Nat → ByteArray
  im : Nat → ByteArray
  ka : Nat → Option Addr
  kn : Nat → Nat
  kc : Nat → Nat
  kz : Nat → Nat → Int
  ta : Nat → Option Addr
  tn : Nat → Nat
  tc : Nat → Nat
  tz : Nat → Nat → Int
  ot : Nat → ByteArray
  hd : Nat → Bool

/-- They lie in w, six cells each, from b, off on. -/
structure Lies (w : World) (R : Drawn) (a : Option Addr) (b off n : Nat) : Prop where
  addr : 0 < n → a = some ⟨b, off, none⟩
  c0 : ∀ i, i < n → w.cell? ⟨b, off + i * 6, none⟩ = some (.string (R.tm i))
  c1 : ∀ i, i < n → w.cell? ⟨b, off + i * 6 + 1, none⟩ = some (.string (R.im i))
  c2 : ∀ i, i < n → w.cell? ⟨b, off + i * 6 + 2, none⟩ = some (.slice (R.ka i) (R.kn i) (R.kc i))
  c3 : ∀ i, i < n → w.cell? ⟨b, off + i * 6 + 3, none⟩ = some (.slice (R.ta i) (R.tn i) (R.tc i))
  c4 : ∀ i, i < n → w.cell? ⟨b, off + i * 6 + 4, none⟩ = some (.string (R.ot i))
  c5 : ∀ i, i < n → w.cell? ⟨b, off + i * 6 + 5, none⟩ = some (.bool (R.hd i))
  key : ∀ i, i < n → Bs w (R.ka i) (R.kn i) (R.kz i)
  tok : ∀ i, i < n → Bs w (R.ta i) (R.tn i) (R.tz i)
  short : ∀ i, i < n → (R.ot i).size < 9223372036854775807

/-- What 'To' becomes. -/
def toV (R : Drawn) (i : Nat) : ByteArray := match R.hd i with | true => ⟨#[100]⟩ ++ R.ot i | false => ⟨#[]⟩
def regV (R : Drawn) (i : Nat) : Value := .agg (reg (R.tm i) (R.im i) (R.ka i) (R.kn i) (R.kc i) (R.ta i) (R.tn i) (R.tc i) (toV R i))

def fIdx : Option Nat → Int | none => -1 | some i => (i : Int)

/-- The last of the first j whose TMSI is q. -/
def lastIdx (tm : Nat → ByteArray) : Nat → ByteArray → Option Nat
  | 0, _ => none
  | j + 1, q => if tm j = q then some j else lastIdx tm j q

theorem lastIdx_lt {tm : Nat → ByteArray} : ∀ {j : Nat} {q : ByteArray} {i : Nat}, lastIdx tm j q = some i → i < j ∧ tm i = q
  | 0, _, _, h => by cases h
  | j + 1, q, i, h => by
    unfold lastIdx at h
    split at h
    · cases h; exact ⟨by omega, ‹_›⟩
    · have := lastIdx_lt h; exact ⟨by omega, this.2⟩

theorem strKeys (w : World) : RM.KeyT Value.string Ybad.prog 9 w :=
  RM.keyT_now Value.string w Ybad.underlying9 (fun _ => trivial) (fun a b => by
    show some (a == b) = _
    congr 1
    rw [Bool.eq_iff_iff, MapKept.bytes_beq]; simp) (fun a b h => by injection h) (fun k => by
    show (k == k) = true
    rw [MapKept.bytes_beq])

/-- The map when j registrations are in. -/
def MapAt (w : World) (M : Nat) (R : Drawn) (j : Nat) (l : List (RM.Ent ByteArray)) (c : Nat) : Prop :=
  RM.IsMap Value.string w M l c ∧ ∀ q, RM.get l q = (lastIdx R.tm j q).map (regV R)

theorem MapAt.kept {w w' : World} {M : Nat} {R : Drawn} {j : Nat} {l : List (RM.Ent ByteArray)} {c : Nat} (h : MapAt w M R j l c) (hk : w'.heap[M]? = w.heap[M]?) : MapAt w' M R j l c := ⟨hk.trans h.1, h.2⟩

theorem MapAt.next {w : World} {M : Nat} {R : Drawn} {j : Nat} {l : List (RM.Ent ByteArray)} {c : Nat} (h : MapAt w M R j l c) :
    MapAt (setBlock w M (.map ((RM.ins l (R.tm j) (regV R j) c).map (RM.Ent.raw Value.string)).toArray (RM.insC l (R.tm j) c))) M R (j + 1) (RM.ins l (R.tm j) (regV R j) c) (RM.insC l (R.tm j) c) := by
  refine ⟨RM.isMap_set h.1, fun q => ?_⟩
  rw [RM.get_ins, h.2 q, lastIdx]
  by_cases e : q = R.tm j
  · simp [e]
  · have : ¬ R.tm j = q := fun x => e x.symm
    simp [e, this]

theorem below_setBlock {B : Nat} {a w : World} (h : Below B a w) {k : Nat} (hk : B ≤ k) (o : Obj) : Below B a (setBlock w k o) :=
  h.trans ⟨rfl, rfl, rfl, by simp [ChangeMaps.setBlock], fun j hj => RM.heap_set_other o (by omega)⟩

theorem size_setBlock (w : World) (k : Nat) (o : Obj) : (setBlock w k o).heap.size = w.heap.size := by simp [ChangeMaps.setBlock]

theorem toList_inj {a b : ByteArray} : (a.toList == b.toList) = true ↔ a = b := by
  rw [← beq_toListBytes, MapKept.bytes_beq]

theorem Bs.below {w w' : World} {a : Option Addr} {n : Nat} {z : Nat → Int} {B : Nat} (h : Bs w a n z) (hb : Below B w w') (hB : w.heap.size ≤ B) : Bs w' a n z :=
  ⟨h.len, h.byte, fun j hj => let ⟨b, p, e, g⟩ := h.cells j hj; ⟨b, p, e, (hb.cell (p := ⟨b, p + j, none⟩) (Nat.lt_of_lt_of_le (World.block_lt_of_cell? _ _ g) hB)).trans g⟩⟩

theorem zero43 (w : World) : (zeroValue 43).run Ybad.prog w = .ok (.agg zeroReg) w := by kernel_rfl

theorem err_same (e0 : Addr) (w : World) : (binOp .eql 55 (.iface 119 (.pointer (some e0))) (.iface 119 (.pointer (some e0)))).run Ybad.prog w = .ok (.bool true) w := by
  obtain ⟨i, hi, hc⟩ := Option.map_eq_some_iff.1 (show (Ybad.prog.info? 119).map (·.comparable) = some true by kernel_rfl)
  obtain ⟨j, hj, _⟩ := Option.map_eq_some_iff.1 (show (Ybad.prog.info? 121).map (·.size) = some 1 by kernel_rfl)
  exact run_eql_iface_ptr_same w e0 Ybad.underlying55 Ybad.underlying119 hi hc hj

theorem d_nonempty (s : ByteArray) : ((⟨#[100]⟩ : ByteArray) ++ s).toList.isEmpty = false := by
  rw [ByteArray.toList_eq]
  simp

theorem look_none {wc : World} {M : Nat} {R : Drawn} {j : Nat} {l : List (RM.Ent ByteArray)} {cl : Nat} {q : ByteArray} (h : MapAt wc M R j l cl) (hsz : M < wc.heap.size) (hg : RM.get l q = none) (box o : Obj) :
    (Instr.lookup 36 (.map (some M)) (.string q) true).run Ybad.prog ((wc.alloc box).alloc o) = .ok (.tuple #[.agg zeroReg, .bool false]) ((wc.alloc box).alloc o) := by
  have := RM.run_lookup_ok Ybad.underlying36 (strKeys ((wc.alloc box).alloc o)) ((h.kept ((Below.heap_alloc _ o _ (by simp; omega)).trans (Below.heap_alloc wc box _ hsz))).1) (zero43 _) q
  rw [hg] at this
  exact this

theorem look_some {wc : World} {M : Nat} {R : Drawn} {j i : Nat} {l : List (RM.Ent ByteArray)} {cl : Nat} {q : ByteArray} (h : MapAt wc M R j l cl) (hsz : M < wc.heap.size) (hg : RM.get l q = some (regV R i)) (box o : Obj) :
    (Instr.lookup 36 (.map (some M)) (.string q) true).run Ybad.prog ((wc.alloc box).alloc o) = .ok (.tuple #[regV R i, .bool true]) ((wc.alloc box).alloc o) := by
  have := RM.run_lookup_ok Ybad.underlying36 (strKeys ((wc.alloc box).alloc o)) ((h.kept ((Below.heap_alloc _ o _ (by simp; omega)).trans (Below.heap_alloc wc box _ hsz))).1) (zero43 _) q
  rw [hg] at this
  exact this

theorem map_len {wc w1 : World} {M : Nat} {R : Drawn} {j : Nat} {l : List (RM.Ent ByteArray)} {cl : Nat} (h : MapAt wc M R j l cl) (hsz : M < wc.heap.size) {box : Obj} (hb : Below (wc.alloc box).heap.size (wc.alloc box) w1) (o : Obj) :
    (Builtin.len_ #[36] 3 #[.map (some M)]).run Ybad.prog (w1.alloc o) = .ok (.int .i64 (l.length : Int)) (w1.alloc o) := by
  have hs : M < (wc.alloc box).heap.size := by simp; omega
  exact RM.run_len Ybad.underlying36 ((h.kept ((Below.heap_alloc _ o _ (Nat.lt_of_lt_of_le hs hb.size)).trans ((hb.block M hs).trans (Below.heap_alloc wc box _ hsz)))).1) 3

set_option maxHeartbeats 400000 in
set_option maxRecDepth 100000 in
theorem law_long (a : Option Addr) (n c : Nat) (pk : Int) (tmsi : ByteArray) (sa : Option Addr) (sn sc : Nat) (us : Bool) (w : World) (hn : 1024 < n) (hm : n ≤ 9223372036854775807) :
    Calls Ybad.prog 5 #[.slice a n c, .int .u8 pk, .string tmsi, .slice sa sn sc, .bool us] w fun e w' => e = .returned (.bool true) ∧ Below w.heap.size w w' := by
  go_enter Ybad.func5, Ybad.ntmps5
  go_wp2
  go_ret
  exact ⟨rfl, Below.refl _ _⟩

set_option maxHeartbeats 8000000 in
set_option maxRecDepth 100000 in
theorem law_all (R : Drawn) (a : Option Addr) (b off n c : Nat) (pk : Int) (tmsi : ByteArray) (sa : Option Addr) (sn sc : Nat) (sz : Nat → Int) (us : Bool) (e0 e1 : Addr) (w : World) (hn : n ≤ 1024) (hL : Lies w R a b off n) (hbs : 0 < n → b < w.heap.size)
    (hS : Bs w sa sn sz) (hpk : 0 ≤ pk ∧ pk ≤ 255) (hE0 : w.cell? ⟨0, 0, none⟩ = some (.iface 119 (.pointer (some e0)))) (hE1 : w.cell? ⟨1, 0, none⟩ = some (.iface 119 (.pointer (some e1)))) :
    Calls Ybad.prog 5 #[.slice a n c, .int .u8 pk, .string tmsi, .slice sa sn sc, .bool us] w fun e w' => e = .returned (.bool true) ∧ Below w.heap.size w w' := by
  have hd : decide ((1024 : Int) < (n : Int)) = false := decide_eq_false (by omega)
  have hmk : ∀ (n : Int) (w : World), (Instr.makeMap 36 (some (.int .i64 n))).run Ybad.prog w = .ok (.map (some w.heap.size)) (w.alloc (.map #[] 0)) := fun _ _ => by
    simp [Instr.makeMap, run_underlying Ybad.underlying36, asInt]; rfl
  go_enter Ybad.func5, Ybad.ntmps5
  have h00 : 0 < w.heap.size := World.block_lt_of_cell? _ _ hE0
  go_wp2_with fail
  go_loopw [31] (fun i wr => ∃ (k : Nat) (l : List (RM.Ent ByteArray)) (cl : Nat), k ≤ n ∧ i = .int .i64 k ∧ MapAt wr w.heap.size R k l cl ∧ Below w.heap.size w wr ∧ w.heap.size < wr.heap.size) (fun i _ => n - (intOf i).toNat)
  case atStart => exact ⟨0, [], 0, Nat.zero_le _, rfl, ⟨heap_alloc_new _ _, fun q => rfl⟩, (Below.refl _ _).alloc (Nat.le_refl _) _, by simp⟩
  case round =>
    obtain ⟨k, l, cl, hk, rfl, hmap, hbel, hsz⟩ := hrel
    have HM : Hid (MapAt wr w.heap.size R k l cl) := hmap
    have HL : Hid (Lies w R a b off n) := hL
    clear hmap hL
    by_cases hlt : k < n
    · have ea := HL.out.addr (by omega)
      have hb := hbs (by omega)
      subst ea
      have g0 := (hbel.cell (p := ⟨b, off + k * 6, none⟩) hb).trans (HL.out.c0 k hlt)
      have g1 := (hbel.cell (p := ⟨b, off + k * 6 + 1, none⟩) hb).trans (HL.out.c1 k hlt)
      have g2 := (hbel.cell (p := ⟨b, off + k * 6 + 2, none⟩) hb).trans (HL.out.c2 k hlt)
      have g3 := (hbel.cell (p := ⟨b, off + k * 6 + 3, none⟩) hb).trans (HL.out.c3 k hlt)
      have g4 := (hbel.cell (p := ⟨b, off + k * 6 + 4, none⟩) hb).trans (HL.out.c4 k hlt)
      have g5 := (hbel.cell (p := ⟨b, off + k * 6 + 5, none⟩) hb).trans (HL.out.c5 k hlt)
      have hbz : b < wr.heap.size := by omega
      have hsh := HL.out.short k hlt
      cases hh : R.hd k
      · have HE : Hid (regV R k = (.agg #[.string (R.tm k), .string (R.im k), .slice (R.ka k) (R.kn k) (R.kc k), .slice (R.ta k) (R.tn k) (R.tc k), .string { data := #[] }, .int .u64 0, .int .i64 0, .pointer none])) := by show regV R k = _; unfold regV toV reg; rw [hh]
        have hup := fun o => RM.run_update (w := wr.alloc o) Ybad.underlying36 (strKeys _) ((HM.out.kept (Below.heap_alloc wr o _ hsz)).1) (R.tm k) (.agg #[.string (R.tm k), .string (R.im k), .slice (R.ka k) (R.kn k) (R.kc k), .slice (R.ta k) (R.tn k) (R.tc k), .string { data := #[] }, .int .u64 0, .int .i64 0, .pointer none])
        rw [hh] at g5
        have HH : Hid (R.hd k = false) := hh
        clear hh
        go_wp2_with fail
        go_roundw
        case rel =>
          rw [← HE.out]
          exact ⟨k + 1, RM.ins l (R.tm k) (regV R k) cl, RM.insC l (R.tm k) cl, by omega, by go_num, (HM.out.kept (Below.heap_alloc wr _ _ hsz)).next, below_setBlock (hbel.alloc (by omega) _) (Nat.le_refl _) _, by rw [size_setBlock]; simp; omega⟩
        case measure => simp [intOf]; omega
      · have HE : Hid (regV R k = (.agg #[.string (R.tm k), .string (R.im k), .slice (R.ka k) (R.kn k) (R.kc k), .slice (R.ta k) (R.tn k) (R.tc k), .string ({ data := #[100] } ++ R.ot k), .int .u64 0, .int .i64 0, .pointer none])) := by show regV R k = _; unfold regV toV reg; rw [hh]
        have hup := fun o => RM.run_update (w := wr.alloc o) Ybad.underlying36 (strKeys _) ((HM.out.kept (Below.heap_alloc wr o _ hsz)).1) (R.tm k) (.agg #[.string (R.tm k), .string (R.im k), .slice (R.ka k) (R.kn k) (R.kc k), .slice (R.ta k) (R.tn k) (R.tc k), .string ({ data := #[100] } ++ R.ot k), .int .u64 0, .int .i64 0, .pointer none])
        rw [hh] at g5
        have HH : Hid (R.hd k = true) := hh
        clear hh
        go_wp2_with fail
        go_roundw
        case rel =>
          rw [← HE.out]
          exact ⟨k + 1, RM.ins l (R.tm k) (regV R k) cl, RM.insC l (R.tm k) cl, by omega, by go_num, (HM.out.kept (Below.heap_alloc wr _ _ hsz)).next, below_setBlock (hbel.alloc (by omega) _) (Nat.le_refl _) _, by rw [size_setBlock]; simp; omega⟩
        case measure => simp [intOf]; omega
    · obtain rfl : k = n := by omega
      go_upto_region 13 with fail
      go_cut [62] (fun s w' => w' = wr ∧ ∃ B : Bool, s = .bool B ∧ (B = true → 0 < k))
      case first =>
        by_cases h0 : (0 : Int) < (k : Int)
        · go_wp2_with fail
          all_goals
            go_meet
            case rel => exact ⟨rfl, _, rfl, fun _ => by omega⟩
        · go_wp2_with fail
          all_goals
            go_meet
            case rel => exact ⟨rfl, false, rfl, fun h => by cases h⟩
      case rest =>
        obtain ⟨rfl, B, rfl, hB⟩ := hcut
        go_upto_if 62 with fail
        go_cut [15] (fun s w' => w' = wc ∧ ∃ q, s = .string q)
        case first =>
          cases B
          · go_wp2_with fail
            go_meet
            case rel => exact ⟨rfl, _, rfl⟩
          · have h0 := hB rfl
            obtain ⟨m, hm⟩ : ∃ m : Nat, pk % (k : Int) = (m : Int) := ⟨(pk % (k : Int)).toNat, by rw [Int.toNat_of_nonneg (Int.emod_nonneg _ (by omega))]⟩
            have hmk2 : m < k := by have := Int.emod_lt_of_pos pk (show (0 : Int) < (k : Int) by omega); omega
            have ea := HL.out.addr (by omega)
            subst ea
            have g0 := (hbel.cell (p := ⟨b, off + m * 6, none⟩) (hbs (by omega))).trans (HL.out.c0 m hmk2)
            go_wp2_with fail
            go_meet
            case rel => exact ⟨rfl, _, rfl⟩
        case rest =>
          obtain ⟨rfl, q, rfl⟩ := hcut
          go_wp2_with fail
          go_loop [16, 74] (fun f i => ∃ j : Nat, j ≤ k ∧ i = .int .i64 j ∧ f = .int .i64 (fIdx (lastIdx R.tm j q))) (fun _ i => k - (intOf i).toNat)
          case atStart => exact ⟨0, Nat.zero_le _, rfl, rfl⟩
          case round =>
            obtain ⟨j, hj, rfl, rfl⟩ := hrel
            by_cases hlt2 : j < k
            · have ea := HL.out.addr (by omega)
              subst ea
              have g0 := (hbel.cell (p := ⟨b, off + j * 6, none⟩) (hbs (by omega))).trans (HL.out.c0 j hlt2)
              by_cases e : R.tm j = q
              · have hb : ((R.tm j).toList == q.toList) = true := toList_inj.2 e
                have HS : Hid (lastIdx R.tm (j + 1) q = some j) := by show lastIdx R.tm (j + 1) q = some j; simp [lastIdx, e]
                clear e
                go_wp2_with fail
                go_round
                case rel => exact ⟨j + 1, by omega, by go_num, by rw [HS.out]; rfl⟩
                case measure => simp [intOf]; omega
              · have hb : ((R.tm j).toList == q.toList) = false := by rw [Bool.eq_false_iff]; exact fun h => e (toList_inj.1 h)
                have HS : Hid (lastIdx R.tm (j + 1) q = lastIdx R.tm j q) := by show lastIdx R.tm (j + 1) q = lastIdx R.tm j q; simp [lastIdx, e]
                clear e
                go_wp2_with fail
                go_round
                case rel => exact ⟨j + 1, by omega, by go_num, by rw [HS.out]⟩
                case measure => simp [intOf]; omega
            · obtain rfl : j = k := by omega
              have HW : Hid (MapAt wc w.heap.size R j l cl) := HM
              clear HM
              cases hli : lastIdx R.tm j q with
              | none =>
                have hfi : fIdx none = -1 := rfl
                have HG : Hid (RM.get l q = none) := by show RM.get l q = none; rw [HW.out.2 q, hli]; rfl
                clear hli
                cases us
                all_goals
                  go_wp2_with fail
                  refine (spend_none _ w.heap.size q sa sn sc (.pointer (some e0)) 119 _ ?_ ?_ ?_).mono ?_
                  · simp
                  · exact cell?_alloc_old _ ((hbel.cell (p := ⟨0, 0, none⟩) h00).trans hE0)
                  · exact fun o => look_none HW.out hsz HG.out _ o
                  rintro e w1 ⟨rfl, hb1⟩

                  have hlen := fun o => map_len HW.out hsz hb1 o
                  have hz1 : wc.heap.size < w1.heap.size := by have := hb1.size; simp at this; omega
                  have s15 : w1.cell? ⟨wc.heap.size, 15, none⟩ = some (.map (some w.heap.size)) := (hb1.cell (p := ⟨wc.heap.size, 15, none⟩) (by simp)).trans (by simp)
                  have h01 : 0 < w1.heap.size := by omega

                  have k0 := (hb1.cell (p := ⟨0, 0, none⟩) (by simp)).trans (cell?_alloc_old _ ((hbel.cell (p := ⟨0, 0, none⟩) h00).trans hE0))

                  have heq := err_same e0
                  have hzz := fun o => zero_any (w1.alloc o)
                  unfold zeroReg at hzz ⊢
                  go_wp2_with fail
                  refine (hzz _).mono ?_
                  rintro e w2 ⟨rfl, hb2⟩
                  go_wp2_with fail
                  go_ret
                  exact ⟨rfl, ((((hbel.alloc (by omega) _).trans (hb1.mono (by simp; omega))).alloc (by omega) _).trans (hb2.mono (by simp; omega)))⟩
              | some i =>
                have hfi : fIdx (some i) = (i : Int) := rfl
                have HG : Hid (RM.get l q = some (regV R i)) := by show RM.get l q = some (regV R i); rw [HW.out.2 q, hli]; rfl
                have hij := (lastIdx_lt hli).1
                have ea := HL.out.addr (by omega)
                subst ea
                have hb := hbs (by omega)
                have hTi := HL.out.tok i hij
                have hKi := HL.out.key i hij
                have g0 := (hbel.cell (p := ⟨b, off + i * 6, none⟩) hb).trans (HL.out.c0 i hij)
                have g1 := (hbel.cell (p := ⟨b, off + i * 6 + 1, none⟩) hb).trans (HL.out.c1 i hij)
                have g2 := (hbel.cell (p := ⟨b, off + i * 6 + 2, none⟩) hb).trans (HL.out.c2 i hij)
                have g3 := (hbel.cell (p := ⟨b, off + i * 6 + 3, none⟩) hb).trans (HL.out.c3 i hij)
                have g4 := (hbel.cell (p := ⟨b, off + i * 6 + 4, none⟩) hb).trans (HL.out.c4 i hij)
                have g5 := (hbel.cell (p := ⟨b, off + i * 6 + 5, none⟩) hb).trans (HL.out.c5 i hij)
                have hbz : b < wc.heap.size := by omega
                clear hli
                cases hh : R.hd i
                · skip
                  rw [hh] at g5
                  have HT : Hid (regV R i = .agg (reg (R.tm i) (R.im i) (R.ka i) (R.kn i) (R.kc i) (R.ta i) (R.tn i) (R.tc i) ⟨#[]⟩)) := by show regV R i = _; unfold regV toV; rw [hh]
                  clear hh
                  cases us
                  · skip
                    cases hq : eqB (R.tn i) sn (R.tz i) sz
                    · have HQ : Hid (eqB (R.tn i) sn (R.tz i) sz = false) := hq
                      clear hq
                      go_wp2_with fail
                      refine (spend_spent _ w.heap.size q sa sn sc (.pointer (some e1)) 119 (R.tm i) (R.im i) (R.ka i) (R.kn i) (R.kc i) (R.ta i) (R.tn i) (R.tc i) (R.tz i) sz _ ?_ ?_ ?_ ?_ HQ.out ?_).mono ?_
                      · simp
                      · exact cell?_alloc_old _ ((hbel.cell (p := ⟨1, 0, none⟩) (World.block_lt_of_cell? _ _ hE1)).trans hE1)
                      · exact (hTi.below hbel (Nat.le_refl _)).alloc _
                      · exact (hS.below hbel (Nat.le_refl _)).alloc _
                      · exact fun o => HT.out ▸ look_some HW.out hsz HG.out _ o
                      rintro e w1 ⟨rfl, hb1⟩

                      have hlen := fun o => map_len HW.out hsz hb1 o
                      have hz1 : wc.heap.size < w1.heap.size := by have := hb1.size; simp at this; omega
                      have s15 : w1.cell? ⟨wc.heap.size, 15, none⟩ = some (.map (some w.heap.size)) := (hb1.cell (p := ⟨wc.heap.size, 15, none⟩) (by simp)).trans (by simp)
                      have h01 : 0 < w1.heap.size := by omega
                      have hb1z : b < w1.heap.size := by omega
                      have m0 := (hb1.cell (p := ⟨b, off + i * 6, none⟩) (by simp; omega)).trans (cell?_alloc_old _ g0)
                      have m1 := (hb1.cell (p := ⟨b, off + i * 6 + 1, none⟩) (by simp; omega)).trans (cell?_alloc_old _ g1)
                      have m2 := (hb1.cell (p := ⟨b, off + i * 6 + 2, none⟩) (by simp; omega)).trans (cell?_alloc_old _ g2)
                      have m3 := (hb1.cell (p := ⟨b, off + i * 6 + 3, none⟩) (by simp; omega)).trans (cell?_alloc_old _ g3)
                      have m4 := (hb1.cell (p := ⟨b, off + i * 6 + 4, none⟩) (by simp; omega)).trans (cell?_alloc_old _ g4)
                      have m5 := (hb1.cell (p := ⟨b, off + i * 6 + 5, none⟩) (by simp; omega)).trans (cell?_alloc_old _ g5)

                      have h11 : 1 < w.heap.size := World.block_lt_of_cell? _ _ hE1
                      have h12 : 1 < w1.heap.size := by omega
                      have k1 := (hb1.cell (p := ⟨1, 0, none⟩) (by simp; omega)).trans (cell?_alloc_old _ ((hbel.cell (p := ⟨1, 0, none⟩) h11).trans hE1))

                      have heq := err_same e1
                      have hzz := fun w1 => zero_any w1
                      have hce : ∀ o o', Calls Ybad.prog 12 #[.slice (R.ta i) (R.tn i) (R.tc i), .slice sa sn sc] ((w1.alloc o).alloc o') fun e w' => e = .returned (.bool false) ∧ ∃ k, w' = ((w1.alloc o).alloc o').drewN k := fun o o' => by
                        have := ceq_any (R.ta i) sa (R.tn i) (R.tc i) sn sc (R.tz i) sz ((w1.alloc o).alloc o') (((((hTi.below hbel (Nat.le_refl _)).alloc _).below hb1 (Nat.le_refl _)).alloc o).alloc o') (((((hS.below hbel (Nat.le_refl _)).alloc _).below hb1 (Nat.le_refl _)).alloc o).alloc o')
                        rw [HQ.out] at this; exact this
                      unfold zeroReg at hzz ⊢
                      go_wp2_with fail
                      refine (hce _ _).mono ?_
                      rintro e w2 ⟨rfl, kk, rfl⟩
                      go_wp2_with fail
                      refine (hzz _).mono ?_
                      rintro e w2 ⟨rfl, hb2⟩
                      go_wp2_with fail
                      go_ret
                      exact ⟨rfl, (below_drewN (((((hbel.alloc (by omega) _).trans (hb1.mono (by simp; omega))).alloc (by omega) _).alloc (by simp; omega) _)) kk).trans (hb2.mono (by simp [World.drewN]; omega))⟩

                    · have HQ : Hid (eqB (R.tn i) sn (R.tz i) sz = true) := hq
                      clear hq
                      go_wp2_with fail
                      refine (spend_held _ w.heap.size q sa sn sc (R.tm i) (R.im i) (R.ka i) (R.kn i) (R.kc i) (R.ta i) (R.tn i) (R.tc i) (R.tz i) sz _ ?_ ?_ ?_ HQ.out ?_).mono ?_
                      · simp
                      · exact (hTi.below hbel (Nat.le_refl _)).alloc _
                      · exact (hS.below hbel (Nat.le_refl _)).alloc _
                      · exact fun o => HT.out ▸ look_some HW.out hsz HG.out _ o
                      rintro e w1 ⟨rfl, hb1⟩
                      have hlen := fun o => map_len HW.out hsz hb1 o
                      have hz1 : wc.heap.size < w1.heap.size := by have := hb1.size; simp at this; omega
                      have s15 : w1.cell? ⟨wc.heap.size, 15, none⟩ = some (.map (some w.heap.size)) := (hb1.cell (p := ⟨wc.heap.size, 15, none⟩) (by simp)).trans (by simp)
                      have h01 : 0 < w1.heap.size := by omega
                      have hb1z : b < w1.heap.size := by omega
                      have m0 := (hb1.cell (p := ⟨b, off + i * 6, none⟩) (by simp; omega)).trans (cell?_alloc_old _ g0)
                      have m1 := (hb1.cell (p := ⟨b, off + i * 6 + 1, none⟩) (by simp; omega)).trans (cell?_alloc_old _ g1)
                      have m2 := (hb1.cell (p := ⟨b, off + i * 6 + 2, none⟩) (by simp; omega)).trans (cell?_alloc_old _ g2)
                      have m3 := (hb1.cell (p := ⟨b, off + i * 6 + 3, none⟩) (by simp; omega)).trans (cell?_alloc_old _ g3)
                      have m4 := (hb1.cell (p := ⟨b, off + i * 6 + 4, none⟩) (by simp; omega)).trans (cell?_alloc_old _ g4)
                      have m5 := (hb1.cell (p := ⟨b, off + i * 6 + 5, none⟩) (by simp; omega)).trans (cell?_alloc_old _ g5)
                      have HT1 : Hid (∀ o o', Bs ((w1.alloc o).alloc o') (R.ta i) (R.tn i) (R.tz i)) := fun o o' => ((((hTi.below hbel (Nat.le_refl _)).alloc _).below hb1 (Nat.le_refl _)).alloc o).alloc o'
                      have HK1 : Hid (∀ o o', Bs ((w1.alloc o).alloc o') (R.ka i) (R.kn i) (R.kz i)) := fun o o' => ((((hKi.below hbel (Nat.le_refl _)).alloc _).below hb1 (Nat.le_refl _)).alloc o).alloc o'
                      have HS1 : Hid (∀ o o', Bs ((w1.alloc o).alloc o') sa sn sz) := fun o o' => ((((hS.below hbel (Nat.le_refl _)).alloc _).below hb1 (Nat.le_refl _)).alloc o).alloc o'
                      have hce : ∀ o o', Calls Ybad.prog 12 #[.slice (R.ta i) (R.tn i) (R.tc i), .slice sa sn sc] ((w1.alloc o).alloc o') fun e w' => e = .returned (.bool true) ∧ ∃ k, w' = ((w1.alloc o).alloc o').drewN k := fun o o' => by
                        have := ceq_any (R.ta i) sa (R.tn i) (R.tc i) sn sc (R.tz i) sz ((w1.alloc o).alloc o') (HT1.out o o') (HS1.out o o')
                        rw [HQ.out] at this; exact this
                      have hck : ∀ o o' m, Calls Ybad.prog 12 #[.slice (R.ka i) (R.kn i) (R.kc i), .slice (R.ka i) (R.kn i) (R.kc i)] (((w1.alloc o).alloc o').drewN m) fun e w' => e = .returned (.bool true) ∧ ∃ k, w' = (((w1.alloc o).alloc o').drewN m).drewN k := fun o o' m => by
                        have := ceq_any (R.ka i) (R.ka i) (R.kn i) (R.kc i) (R.kn i) (R.kc i) (R.kz i) (R.kz i) (((w1.alloc o).alloc o').drewN m) ((HK1.out o o').drewN m) ((HK1.out o o').drewN m)
                        rw [eqB_self] at this; exact this
                      have hct : ∀ o o' m, Calls Ybad.prog 12 #[.slice (R.ta i) (R.tn i) (R.tc i), .slice (R.ta i) (R.tn i) (R.tc i)] (((w1.alloc o).alloc o').drewN m) fun e w' => e = .returned (.bool true) ∧ ∃ k, w' = (((w1.alloc o).alloc o').drewN m).drewN k := fun o o' m => by
                        have := ceq_any (R.ta i) (R.ta i) (R.tn i) (R.tc i) (R.tn i) (R.tc i) (R.tz i) (R.tz i) (((w1.alloc o).alloc o').drewN m) ((HT1.out o o').drewN m) ((HT1.out o o').drewN m)
                        rw [eqB_self] at this; exact this
                      unfold reg
                      go_wp2_with fail
                      refine (hce _ _).mono ?_
                      rintro e w2 ⟨rfl, k1, rfl⟩
                      go_wp2_with fail
                      refine (hck _ _ _).mono ?_
                      rintro e w2 ⟨rfl, k2, rfl⟩
                      go_wp2_with fail
                      refine (hct _ _ _).mono ?_
                      rintro e w2 ⟨rfl, k3, rfl⟩
                      go_wp2_with (go_at_call 13; go_in)
                      go_ret
                      exact ⟨rfl, (below_drewN (((((hbel.alloc (by omega) _).trans (hb1.mono (by simp; omega))).alloc (by omega) _).alloc (by simp; omega) _)) _).alloc (by simp [World.drewN]; omega) _⟩
                  · skip
                    cases hq : eqB (R.tn i) (R.tn i) (R.tz i) (R.tz i)
                    · have HQ : Hid (eqB (R.tn i) (R.tn i) (R.tz i) (R.tz i) = false) := hq
                      clear hq
                      go_wp2_with fail
                      refine (spend_spent _ w.heap.size q (R.ta i) (R.tn i) (R.tc i) (.pointer (some e1)) 119 (R.tm i) (R.im i) (R.ka i) (R.kn i) (R.kc i) (R.ta i) (R.tn i) (R.tc i) (R.tz i) (R.tz i) _ ?_ ?_ ?_ ?_ HQ.out ?_).mono ?_
                      · simp
                      · exact cell?_alloc_old _ ((hbel.cell (p := ⟨1, 0, none⟩) (World.block_lt_of_cell? _ _ hE1)).trans hE1)
                      · exact (hTi.below hbel (Nat.le_refl _)).alloc _
                      · exact (hTi.below hbel (Nat.le_refl _)).alloc _
                      · exact fun o => HT.out ▸ look_some HW.out hsz HG.out _ o
                      rintro e w1 ⟨rfl, hb1⟩

                      have hlen := fun o => map_len HW.out hsz hb1 o
                      have hz1 : wc.heap.size < w1.heap.size := by have := hb1.size; simp at this; omega
                      have s15 : w1.cell? ⟨wc.heap.size, 15, none⟩ = some (.map (some w.heap.size)) := (hb1.cell (p := ⟨wc.heap.size, 15, none⟩) (by simp)).trans (by simp)
                      have h01 : 0 < w1.heap.size := by omega
                      have hb1z : b < w1.heap.size := by omega
                      have m0 := (hb1.cell (p := ⟨b, off + i * 6, none⟩) (by simp; omega)).trans (cell?_alloc_old _ g0)
                      have m1 := (hb1.cell (p := ⟨b, off + i * 6 + 1, none⟩) (by simp; omega)).trans (cell?_alloc_old _ g1)
                      have m2 := (hb1.cell (p := ⟨b, off + i * 6 + 2, none⟩) (by simp; omega)).trans (cell?_alloc_old _ g2)
                      have m3 := (hb1.cell (p := ⟨b, off + i * 6 + 3, none⟩) (by simp; omega)).trans (cell?_alloc_old _ g3)
                      have m4 := (hb1.cell (p := ⟨b, off + i * 6 + 4, none⟩) (by simp; omega)).trans (cell?_alloc_old _ g4)
                      have m5 := (hb1.cell (p := ⟨b, off + i * 6 + 5, none⟩) (by simp; omega)).trans (cell?_alloc_old _ g5)

                      have h11 : 1 < w.heap.size := World.block_lt_of_cell? _ _ hE1
                      have h12 : 1 < w1.heap.size := by omega
                      have k1 := (hb1.cell (p := ⟨1, 0, none⟩) (by simp; omega)).trans (cell?_alloc_old _ ((hbel.cell (p := ⟨1, 0, none⟩) h11).trans hE1))

                      have heq := err_same e1
                      have hzz := fun w1 => zero_any w1
                      have hce : ∀ o o', Calls Ybad.prog 12 #[.slice (R.ta i) (R.tn i) (R.tc i), .slice (R.ta i) (R.tn i) (R.tc i)] ((w1.alloc o).alloc o') fun e w' => e = .returned (.bool false) ∧ ∃ k, w' = ((w1.alloc o).alloc o').drewN k := fun o o' => by
                        have := ceq_any (R.ta i) (R.ta i) (R.tn i) (R.tc i) (R.tn i) (R.tc i) (R.tz i) (R.tz i) ((w1.alloc o).alloc o') (((((hTi.below hbel (Nat.le_refl _)).alloc _).below hb1 (Nat.le_refl _)).alloc o).alloc o') (((((hTi.below hbel (Nat.le_refl _)).alloc _).below hb1 (Nat.le_refl _)).alloc o).alloc o')
                        rw [HQ.out] at this; exact this
                      unfold zeroReg at hzz ⊢
                      go_wp2_with fail
                      refine (hce _ _).mono ?_
                      rintro e w2 ⟨rfl, kk, rfl⟩
                      go_wp2_with fail
                      refine (hzz _).mono ?_
                      rintro e w2 ⟨rfl, hb2⟩
                      go_wp2_with fail
                      go_ret
                      exact ⟨rfl, (below_drewN (((((hbel.alloc (by omega) _).trans (hb1.mono (by simp; omega))).alloc (by omega) _).alloc (by simp; omega) _)) kk).trans (hb2.mono (by simp [World.drewN]; omega))⟩

                    · have HQ : Hid (eqB (R.tn i) (R.tn i) (R.tz i) (R.tz i) = true) := hq
                      clear hq
                      go_wp2_with fail
                      refine (spend_held _ w.heap.size q (R.ta i) (R.tn i) (R.tc i) (R.tm i) (R.im i) (R.ka i) (R.kn i) (R.kc i) (R.ta i) (R.tn i) (R.tc i) (R.tz i) (R.tz i) _ ?_ ?_ ?_ HQ.out ?_).mono ?_
                      · simp
                      · exact (hTi.below hbel (Nat.le_refl _)).alloc _
                      · exact (hTi.below hbel (Nat.le_refl _)).alloc _
                      · exact fun o => HT.out ▸ look_some HW.out hsz HG.out _ o
                      rintro e w1 ⟨rfl, hb1⟩
                      have hlen := fun o => map_len HW.out hsz hb1 o
                      have hz1 : wc.heap.size < w1.heap.size := by have := hb1.size; simp at this; omega
                      have s15 : w1.cell? ⟨wc.heap.size, 15, none⟩ = some (.map (some w.heap.size)) := (hb1.cell (p := ⟨wc.heap.size, 15, none⟩) (by simp)).trans (by simp)
                      have h01 : 0 < w1.heap.size := by omega
                      have hb1z : b < w1.heap.size := by omega
                      have m0 := (hb1.cell (p := ⟨b, off + i * 6, none⟩) (by simp; omega)).trans (cell?_alloc_old _ g0)
                      have m1 := (hb1.cell (p := ⟨b, off + i * 6 + 1, none⟩) (by simp; omega)).trans (cell?_alloc_old _ g1)
                      have m2 := (hb1.cell (p := ⟨b, off + i * 6 + 2, none⟩) (by simp; omega)).trans (cell?_alloc_old _ g2)
                      have m3 := (hb1.cell (p := ⟨b, off + i * 6 + 3, none⟩) (by simp; omega)).trans (cell?_alloc_old _ g3)
                      have m4 := (hb1.cell (p := ⟨b, off + i * 6 + 4, none⟩) (by simp; omega)).trans (cell?_alloc_old _ g4)
                      have m5 := (hb1.cell (p := ⟨b, off + i * 6 + 5, none⟩) (by simp; omega)).trans (cell?_alloc_old _ g5)
                      have HT1 : Hid (∀ o o', Bs ((w1.alloc o).alloc o') (R.ta i) (R.tn i) (R.tz i)) := fun o o' => ((((hTi.below hbel (Nat.le_refl _)).alloc _).below hb1 (Nat.le_refl _)).alloc o).alloc o'
                      have HK1 : Hid (∀ o o', Bs ((w1.alloc o).alloc o') (R.ka i) (R.kn i) (R.kz i)) := fun o o' => ((((hKi.below hbel (Nat.le_refl _)).alloc _).below hb1 (Nat.le_refl _)).alloc o).alloc o'
                      have HS1 : Hid (∀ o o', Bs ((w1.alloc o).alloc o') (R.ta i) (R.tn i) (R.tz i)) := fun o o' => ((((hTi.below hbel (Nat.le_refl _)).alloc _).below hb1 (Nat.le_refl _)).alloc o).alloc o'
                      have hce : ∀ o o', Calls Ybad.prog 12 #[.slice (R.ta i) (R.tn i) (R.tc i), .slice (R.ta i) (R.tn i) (R.tc i)] ((w1.alloc o).alloc o') fun e w' => e = .returned (.bool true) ∧ ∃ k, w' = ((w1.alloc o).alloc o').drewN k := fun o o' => by
                        have := ceq_any (R.ta i) (R.ta i) (R.tn i) (R.tc i) (R.tn i) (R.tc i) (R.tz i) (R.tz i) ((w1.alloc o).alloc o') (HT1.out o o') (HS1.out o o')
                        rw [HQ.out] at this; exact this
                      have hck : ∀ o o' m, Calls Ybad.prog 12 #[.slice (R.ka i) (R.kn i) (R.kc i), .slice (R.ka i) (R.kn i) (R.kc i)] (((w1.alloc o).alloc o').drewN m) fun e w' => e = .returned (.bool true) ∧ ∃ k, w' = (((w1.alloc o).alloc o').drewN m).drewN k := fun o o' m => by
                        have := ceq_any (R.ka i) (R.ka i) (R.kn i) (R.kc i) (R.kn i) (R.kc i) (R.kz i) (R.kz i) (((w1.alloc o).alloc o').drewN m) ((HK1.out o o').drewN m) ((HK1.out o o').drewN m)
                        rw [eqB_self] at this; exact this
                      have hct : ∀ o o' m, Calls Ybad.prog 12 #[.slice (R.ta i) (R.tn i) (R.tc i), .slice (R.ta i) (R.tn i) (R.tc i)] (((w1.alloc o).alloc o').drewN m) fun e w' => e = .returned (.bool true) ∧ ∃ k, w' = (((w1.alloc o).alloc o').drewN m).drewN k := fun o o' m => by
                        have := ceq_any (R.ta i) (R.ta i) (R.tn i) (R.tc i) (R.tn i) (R.tc i) (R.tz i) (R.tz i) (((w1.alloc o).alloc o').drewN m) ((HT1.out o o').drewN m) ((HT1.out o o').drewN m)
                        rw [eqB_self] at this; exact this
                      unfold reg
                      go_wp2_with fail
                      refine (hce _ _).mono ?_
                      rintro e w2 ⟨rfl, k1, rfl⟩
                      go_wp2_with fail
                      refine (hck _ _ _).mono ?_
                      rintro e w2 ⟨rfl, k2, rfl⟩
                      go_wp2_with fail
                      refine (hct _ _ _).mono ?_
                      rintro e w2 ⟨rfl, k3, rfl⟩
                      go_wp2_with (go_at_call 13; go_in)
                      go_ret
                      exact ⟨rfl, (below_drewN (((((hbel.alloc (by omega) _).trans (hb1.mono (by simp; omega))).alloc (by omega) _).alloc (by simp; omega) _)) _).alloc (by simp [World.drewN]; omega) _⟩
                · skip
                  rw [hh] at g5
                  have HT : Hid (regV R i = .agg (reg (R.tm i) (R.im i) (R.ka i) (R.kn i) (R.kc i) (R.ta i) (R.tn i) (R.tc i) (⟨#[100]⟩ ++ R.ot i))) := by show regV R i = _; unfold regV toV; rw [hh]
                  clear hh
                  cases us
                  · skip
                    go_wp2_with fail
                    refine (spend_handed _ w.heap.size q sa sn sc (.pointer (some e0)) 119 (R.tm i) (R.im i) (R.ka i) (R.kn i) (R.kc i) (R.ta i) (R.tn i) (R.tc i) (⟨#[100]⟩ ++ R.ot i) _ ?_ ?_ ?_ ?_).mono ?_
                    · simp
                    · exact cell?_alloc_old _ ((hbel.cell (p := ⟨0, 0, none⟩) h00).trans hE0)
                    · exact d_nonempty _
                    · exact fun o => HT.out ▸ look_some HW.out hsz HG.out _ o
                    rintro e w1 ⟨rfl, hb1⟩

                    have hlen := fun o => map_len HW.out hsz hb1 o
                    have hz1 : wc.heap.size < w1.heap.size := by have := hb1.size; simp at this; omega
                    have s15 : w1.cell? ⟨wc.heap.size, 15, none⟩ = some (.map (some w.heap.size)) := (hb1.cell (p := ⟨wc.heap.size, 15, none⟩) (by simp)).trans (by simp)
                    have h01 : 0 < w1.heap.size := by omega
                    have hb1z : b < w1.heap.size := by omega
                    have m0 := (hb1.cell (p := ⟨b, off + i * 6, none⟩) (by simp; omega)).trans (cell?_alloc_old _ g0)
                    have m1 := (hb1.cell (p := ⟨b, off + i * 6 + 1, none⟩) (by simp; omega)).trans (cell?_alloc_old _ g1)
                    have m2 := (hb1.cell (p := ⟨b, off + i * 6 + 2, none⟩) (by simp; omega)).trans (cell?_alloc_old _ g2)
                    have m3 := (hb1.cell (p := ⟨b, off + i * 6 + 3, none⟩) (by simp; omega)).trans (cell?_alloc_old _ g3)
                    have m4 := (hb1.cell (p := ⟨b, off + i * 6 + 4, none⟩) (by simp; omega)).trans (cell?_alloc_old _ g4)
                    have m5 := (hb1.cell (p := ⟨b, off + i * 6 + 5, none⟩) (by simp; omega)).trans (cell?_alloc_old _ g5)

                    have k0 := (hb1.cell (p := ⟨0, 0, none⟩) (by simp)).trans (cell?_alloc_old _ ((hbel.cell (p := ⟨0, 0, none⟩) h00).trans hE0))

                    have heq := err_same e0
                    have hzz := fun o => zero_any (w1.alloc o)
                    unfold zeroReg at hzz ⊢
                    go_wp2_with fail
                    refine (hzz _).mono ?_
                    rintro e w2 ⟨rfl, hb2⟩
                    go_wp2_with fail
                    go_ret
                    exact ⟨rfl, ((((hbel.alloc (by omega) _).trans (hb1.mono (by simp; omega))).alloc (by omega) _).trans (hb2.mono (by simp; omega)))⟩
                  · skip
                    go_wp2_with fail
                    refine (spend_handed _ w.heap.size q (R.ta i) (R.tn i) (R.tc i) (.pointer (some e0)) 119 (R.tm i) (R.im i) (R.ka i) (R.kn i) (R.kc i) (R.ta i) (R.tn i) (R.tc i) (⟨#[100]⟩ ++ R.ot i) _ ?_ ?_ ?_ ?_).mono ?_
                    · simp
                    · exact cell?_alloc_old _ ((hbel.cell (p := ⟨0, 0, none⟩) h00).trans hE0)
                    · exact d_nonempty _
                    · exact fun o => HT.out ▸ look_some HW.out hsz HG.out _ o
                    rintro e w1 ⟨rfl, hb1⟩

                    have hlen := fun o => map_len HW.out hsz hb1 o
                    have hz1 : wc.heap.size < w1.heap.size := by have := hb1.size; simp at this; omega
                    have s15 : w1.cell? ⟨wc.heap.size, 15, none⟩ = some (.map (some w.heap.size)) := (hb1.cell (p := ⟨wc.heap.size, 15, none⟩) (by simp)).trans (by simp)
                    have h01 : 0 < w1.heap.size := by omega
                    have hb1z : b < w1.heap.size := by omega
                    have m0 := (hb1.cell (p := ⟨b, off + i * 6, none⟩) (by simp; omega)).trans (cell?_alloc_old _ g0)
                    have m1 := (hb1.cell (p := ⟨b, off + i * 6 + 1, none⟩) (by simp; omega)).trans (cell?_alloc_old _ g1)
                    have m2 := (hb1.cell (p := ⟨b, off + i * 6 + 2, none⟩) (by simp; omega)).trans (cell?_alloc_old _ g2)
                    have m3 := (hb1.cell (p := ⟨b, off + i * 6 + 3, none⟩) (by simp; omega)).trans (cell?_alloc_old _ g3)
                    have m4 := (hb1.cell (p := ⟨b, off + i * 6 + 4, none⟩) (by simp; omega)).trans (cell?_alloc_old _ g4)
                    have m5 := (hb1.cell (p := ⟨b, off + i * 6 + 5, none⟩) (by simp; omega)).trans (cell?_alloc_old _ g5)

                    have k0 := (hb1.cell (p := ⟨0, 0, none⟩) (by simp)).trans (cell?_alloc_old _ ((hbel.cell (p := ⟨0, 0, none⟩) h00).trans hE0))

                    have heq := err_same e0
                    have hzz := fun o => zero_any (w1.alloc o)
                    unfold zeroReg at hzz ⊢
                    go_wp2_with fail
                    refine (hzz _).mono ?_
                    rintro e w2 ⟨rfl, hb2⟩
                    go_wp2_with fail
                    go_ret
                    exact ⟨rfl, ((((hbel.alloc (by omega) _).trans (hb1.mono (by simp; omega))).alloc (by omega) _).trans (hb2.mono (by simp; omega)))⟩
end Go.Proofs.YbulkcsbwDoor
