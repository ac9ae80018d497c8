/-
  LawS4694AFirstFault: the texts: 'zzs4694aitoa', 'zzs4694ashow', 'quorumLine.String' against one plain function.
-/
import Derived.Test.YbulkcseoDoorShelf
import Derived.Handy
import Derived.WalkSpells
import Derived.WalkLawsBesides
import Derived.LaidEql
import Derived.Deep.QuietTactic
import Derived.BigQuiet
import Derived.Below
import Derived.ArgAppend
import Derived.Deep.RegionWith
import Derived.Laws.AppendOwnNone
set_option linter.unusedVariables false
namespace Go.Proofs.YbulkcseoDoor
open Go.RowKit

set_option maxHeartbeats 1000000 in
theorem aitoa0 (w : World) : Calls Ybad.prog 7 #[.int .i64 0] w fun e w' => e = .returned (.string ⟨#[48]⟩) ∧ Below w.heap.size w w' := by
  go_enter Ybad.func7, Ybad.ntmps7
  go_wp2
  go_ret
  exact ⟨rfl, Below.refl _ _⟩

def bv (bs : List UInt8) : List Value := bs.map fun u => .int .u8 (u.toNat : Int)
theorem bv_len (bs : List UInt8) : (bv bs).length = bs.length := by simp [bv]

theorem info_of {t : TypeId} {z : Value} {s b : Nat} (h : (Ybad.prog.info? t).map (fun i => (i.zero, i.size, i.bytes)) = some (some z, s, b)) : ∃ i, Ybad.prog.info? t = some i ∧ i.zero = some z ∧ i.size = s ∧ i.bytes = b := by
  cases hi : Ybad.prog.info? t with
  | none => simp [hi] at h
  | some i => simp [hi] at h; exact ⟨i, rfl, h.1, h.2.1, h.2.2⟩

theorem digit_toNat {r : Nat} (h : r < 10) : (UInt8.ofNat (48 + r)).toNat = 48 + r := by
  rw [UInt8.toNat_ofNat']; omega

theorem dec_step {y : Nat} (h : 10 ≤ y) : Lib.decDigits y = Lib.decDigits (y / 10) ++ [UInt8.ofNat (48 + y % 10)] := by
  rw [Lib.decDigits]; rw [dif_neg (by omega)]
theorem dec_one {y : Nat} (h : y < 10) : Lib.decDigits y = [UInt8.ofNat (48 + y)] := by
  rw [Lib.decDigits]; rw [dif_pos h]

/-- What is left to write, and what is written. -/
def Wr (x y : Nat) (bs : List UInt8) : Prop := (y = 0 ∧ Lib.decDigits x = bs) ∨ (0 < y ∧ Lib.decDigits x = Lib.decDigits y ++ bs)
theorem Wr.next {x y : Nat} {bs : List UInt8} (h : Wr x y bs) (hy : 0 < y) : Wr x (y / 10) (UInt8.ofNat (48 + y % 10) :: bs) := by
  rcases h with ⟨h, _⟩ | ⟨_, h⟩
  · omega
  · by_cases h10 : y < 10
    · refine .inl ⟨by omega, ?_⟩
      rw [h, dec_one h10, show y % 10 = y by omega]; rfl
    · refine .inr ⟨by omega, ?_⟩
      rw [h, dec_step (by omega)]
      simp

theorem conv_own {w : World} {base g cap : Nat} {bs : List UInt8} (h : w.ownsRow base 5 1 (.slice (some ⟨g, 0, none⟩) bs.length cap) bs.length (bv bs)) :
    (convert 24 9 (.slice (some ⟨g, 0, none⟩) bs.length cap)).run Ybad.prog w = .ok (.string ⟨bs.toArray⟩) w :=
  run_convert_bytes_back (P := Ybad.prog) w 24 9 5 ⟨g, 0, none⟩ cap bs Ybad.underlying24 Ybad.underlying5 Ybad.underlying9 fun j hj => by
    refine h.cells rfl j _ ?_
    simp [bv, List.getElem?_eq_getElem hj]

theorem own_shape {w : World} {base base' n : Nat} {v : Value} {xs : List Value} (h : w.ownsRow base' 5 1 v n xs) (hb : base ≤ base') (hn : 0 < n) :
    ∃ g cap, v = .slice (some ⟨g, 0, none⟩) n cap ∧ w.ownsRow base 5 1 (.slice (some ⟨g, 0, none⟩) n cap) n xs := by
  obtain ⟨h1, h2⟩ := h
  rcases h2 with ⟨_, h⟩ | ⟨g, cap, cur, rfl, hg, rest⟩
  · omega
  · exact ⟨g, cap, rfl, h1, .inr ⟨g, cap, cur, rfl, Nat.le_trans hb hg, rest⟩⟩

set_option maxHeartbeats 2000000 in
set_option maxRecDepth 20000 in
theorem aitoa (x : Nat) (h1 : 1 ≤ x) (h2 : x ≤ 1000) (w : World) : Calls Ybad.prog 7 #[.int .i64 x] w fun e w' => e = .returned (.string ⟨(Lib.decDigits x).toArray⟩) ∧ Below w.heap.size w w' := by
  have e3 : ¬ (x : Int) = 0 := by omega
  have e4 : ((x : Int) == 0) = false := by rw [beq_eq_false_iff_ne]; exact e3
  obtain ⟨i5, i5a, i5b, i5c, i5d⟩ := info_of (t := 5) (z := .int .u8 0) (s := 1) (b := 1) (by kernel_rfl)
  have I5 : Hid (Ybad.prog.info? 5 = some i5 ∧ i5.zero = some (.int .u8 0) ∧ i5.size = 1 ∧ i5.bytes = 1) := ⟨i5a, i5b, i5c, i5d⟩
  clear i5a i5b i5c i5d
  obtain ⟨D, hD⟩ : ∃ D, Hid (D = (Lib.decDigits x).toArray) := ⟨_, rfl⟩
  rw [← hD.out]
  go_enter Ybad.func7, Ybad.ntmps7
  go_wp2
  go_loopw [0, 3] (fun y b wr => ∃ (n : Nat) (bs : List UInt8), y = .int .i64 n ∧ n + bs.length ≤ x ∧ Hid (Wr x n bs) ∧ Hid (Below w.heap.size w wr) ∧ ((bs = [] ∧ b = .slice none 0 0 ∧ 0 < n) ∨ ∃ g cap, b = .slice (some ⟨g, 0, none⟩) bs.length cap ∧ 0 < bs.length ∧ Hid (wr.ownsRow w.heap.size 5 1 (.slice (some ⟨g, 0, none⟩) bs.length cap) bs.length (bv bs)))) (fun y _ _ => (intOf y).toNat)
  case atStart => exact ⟨x, [], rfl, by simp, .inr ⟨by omega, by simp⟩, Below.refl _ _, .inl ⟨rfl, rfl, by omega⟩⟩
  case round =>
    obtain ⟨n, bs, rfl, hle, HW, HB, hcase⟩ := hrel
    obtain ⟨r, hr⟩ : ∃ r, Hid (r = n % 10) := ⟨_, rfl⟩
    obtain ⟨q, hq⟩ : ∃ q, Hid (q = n / 10) := ⟨_, rfl⟩
    have hr10 : r < 10 := by have := hr.out; omega
    have hqn : q ≤ n := by have := hq.out; omega
    have e1 : Int.tmod (n : Int) 10 = (r : Int) := by rw [Int.tmod_eq_emod_of_nonneg (by omega)]; have := hr.out; omega
    have e2 : Int.tdiv (n : Int) 10 = (q : Int) := by rw [Int.tdiv_eq_ediv_of_nonneg (by omega)]; have := hq.out; omega
    by_cases hn0 : 0 < n
    · have hn0' : (0 : Int) < n := by omega
      have HW2 : Hid (Wr x q (UInt8.ofNat (48 + r) :: bs)) := by
        have := HW.out.next hn0
        rw [← hr.out, ← hq.out] at this
        exact this
      have hlt : q < n := by have := hq.out; omega
      rcases hcase with ⟨rfl, rfl, _⟩ | ⟨g, cap, rfl, hlen, HO⟩
      · go_wp2
        refine ⟨⟨q, [UInt8.ofNat (48 + r)], rfl, by simp; omega, HW2, HB.out.alloc HB.out.size _, .inr ⟨wr.heap.size, 1, rfl, by simp, ?_⟩⟩, by simp [intOf]; omega⟩
        have ho := World.ownsRow_lit (base := w.heap.size) (e := 5) (size := 1) wr #[.int .u8 (48 + (r : Int))] 1 HB.out.size (by decide) rfl
        show World.ownsRow _ _ _ _ _ _ _
        have eb : bv [UInt8.ofNat (48 + r)] = [.int .u8 (48 + (r : Int))] := by
          unfold bv
          simp only [List.map_cons, List.map_nil, digit_toNat hr10]
          simp
        rw [eb]
        exact ho
      · have HO2 : Hid ((wr.alloc (Obj.cells #[.int .u8 (48 + (r : Int))] 5)).ownsRow w.heap.size 5 1 (.slice (some ⟨g, 0, none⟩) bs.length cap) bs.length (bv bs)) := HO.out.alloc _
        have eb : Hid ([.int .u8 (48 + (r : Int))] ++ bv bs = bv (UInt8.ofNat (48 + r) :: bs)) := by
          show _ = _
          unfold bv
          simp only [List.map_cons, digit_toNat hr10]
          simp
        have hbs : bs.length ≤ 1000 := by omega
        go_wp2_with (
          refine wpList_append_arg _ rfl _ _ 24 rfl 5 i5 (.int .u8 0) 1 1 Ybad.underlying24 I5.out.1 I5.out.2.1 I5.out.2.2.1 I5.out.2.2.2 rfl (by decide) wr.heap.size 0 1 1 [.int .u8 (48 + (r : Int))] rfl rfl (fun j u hj => by
              match j, hj with
              | 0, hj => simp at hj; subst hj; exact World.cell?_alloc_new _ _ _ _) ⟨g, 0, none⟩ bs.length cap (bv bs) rfl (by simp [bv]) (HO2.out.cells rfl) (by simp [bv, Value.oneCell']) (fun h => absurd h (by omega)) (by unfold maxLen; omega) (by omega) (fun h => absurd h (by omega)) ?_
          intro _ v' w2 hO hG
          rw [eb.out] at hO
          have hlen2 : 1 + bs.length = (UInt8.ofNat (48 + r) :: bs).length := by simp; omega
          rw [hlen2] at hO
          have hB2 : Hid (Below w.heap.size w w2) := Below.grown (HB.out.alloc HB.out.size _) hG (by have := HB.out.size; simp; omega) (fun k hk => by cases hk)
          have hO2 : Hid (w2.ownsRow (wr.alloc (Obj.cells #[.int .u8 (48 + (r : Int))] 5)).heap.size 5 1 v' (UInt8.ofNat (48 + r) :: bs).length (bv (UInt8.ofNat (48 + r) :: bs))) := hO
          clear hO hG)
        obtain ⟨g2, cap2, hv, hO3⟩ := own_shape (base := w.heap.size) hO2.out (by have := HB.out.size; simp; omega) (by simp)
        subst hv
        exact ⟨⟨q, UInt8.ofNat (48 + r) :: bs, rfl, by simp; omega, HW2, hB2, .inr ⟨g2, cap2, rfl, by simp, hO3⟩⟩, by simp [intOf]; omega⟩
    · obtain rfl : n = 0 := by omega
      rcases hcase with ⟨_, _, h⟩ | ⟨g, cap, rfl, hlen, HO⟩
      · omega
      · have hc := conv_own HO.out
        have ED : Hid (bs.toArray = D) := by
          show bs.toArray = D
          rw [hD.out]
          rcases HW.out with ⟨_, h⟩ | ⟨h, _⟩
          · rw [h]
          · omega
        rw [ED.out] at hc
        go_wp2
        go_ret
        exact ⟨rfl, HB.out⟩
/-- The decimal text, whatever the number up to 1000. -/
theorem aitoa_any (x : Nat) (h2 : x ≤ 1000) (w : World) : Calls Ybad.prog 7 #[.int .i64 x] w fun e w' => e = .returned (.string ⟨(Lib.decDigits x).toArray⟩) ∧ Below w.heap.size w w' := by
  by_cases h : x = 0
  · subst h
    have := aitoa0 w
    rw [show (Lib.decDigits 0).toArray = #[48] by rw [dec_one (by decide)]; rfl]
    exact this
  · exact aitoa x (by omega) h2 w

def body (f : Nat → List UInt8) : Nat → List UInt8
  | 0 => []
  | k + 1 => (if k = 0 then [] else body f k ++ [44]) ++ f k

theorem join_snoc (sep x : List UInt8) : ∀ xs : List (List UInt8), Lib.join (xs ++ [x]) sep = if xs = [] then x else Lib.join xs sep ++ sep ++ x
  | [] => by simp [Lib.join, List.intercalate]
  | [a] => by simp [Lib.join, List.intercalate]
  | a :: b :: r => by
    have ih := join_snoc sep x (b :: r)
    rw [if_neg (by simp)] at ih ⊢
    have e1 : ∀ l : List (List UInt8), l ≠ [] → Lib.join (a :: l) sep = a ++ sep ++ Lib.join l sep := fun l hl => by
      cases l with
      | nil => exact absurd rfl hl
      | cons c l => simp [Lib.join, List.intercalate, List.intersperse]
    rw [List.cons_append, e1 _ (by simp), ih, e1 _ (by simp)]
    simp

theorem join_body (f : Nat → List UInt8) : ∀ n, Lib.join ((List.range n).map f) [44] = body f n
  | 0 => rfl
  | n + 1 => by
    rw [List.range_succ, List.map_append, List.map_cons, List.map_nil, join_snoc, join_body f n]
    show _ = (if n = 0 then [] else body f n ++ [44]) ++ f n
    by_cases h : n = 0
    · subst h; simp
    · rw [if_neg (by simp [h]), if_neg h]

/-- The text of a quorum. -/
def shw (p : Nat) (f : Nat → Nat) (n : Nat) : List UInt8 := [91] ++ body (fun i => Lib.decDigits (f i)) n ++ [93, 32, 97, 116, 32] ++ Lib.decDigits p

theorem dec_len {x : Nat} (h : x < 100) : (Lib.decDigits x).length ≤ 2 := by
  by_cases h10 : x < 10
  · rw [dec_one h10]; simp
  · rw [dec_step (by omega), dec_one (by omega)]; simp
theorem body_len {f : Nat → List UInt8} (hf : ∀ i, (f i).length ≤ 2) : ∀ n, (body f n).length ≤ 3 * n
  | 0 => Nat.le_refl _
  | n + 1 => by
    have := body_len hf n
    have := hf n
    show ((if n = 0 then [] else body f n ++ [44]) ++ f n).length ≤ _
    split <;> simp <;> omega

theorem cat (l1 l2 : List UInt8) (h : l1.length + l2.length ≤ 100000) (w : World) : (Op.stringOp .add ⟨l1.toArray⟩ ⟨l2.toArray⟩).run Ybad.prog w = .ok (.string ⟨(l1 ++ l2).toArray⟩) w := by
  rw [run_string_add_sum (P := Ybad.prog) (w := w) ⟨l1.toArray⟩ ⟨l2.toArray⟩ (by show l1.toArray.size + l2.toArray.size ≤ _; simp; omega)]
  congr 2

def dec (x : Nat) : ByteArray := ⟨(Lib.decDigits x).toArray⟩
def pre (f : Nat → Nat) (k : Nat) : ByteArray := ⟨([91] ++ body (fun i => Lib.decDigits (f i)) k).toArray⟩
def prc (f : Nat → Nat) (k : Nat) : ByteArray := ⟨([91] ++ body (fun i => Lib.decDigits (f i)) k ++ [44]).toArray⟩
def pst (f : Nat → Nat) (k : Nat) : ByteArray := ⟨([91] ++ body (fun i => Lib.decDigits (f i)) k ++ [93, 32, 97, 116, 32]).toArray⟩
def shB (p : Nat) (f : Nat → Nat) (n : Nat) : ByteArray := ⟨(shw p f n).toArray⟩

section
variable {f : Nat → Nat} (hf : ∀ i, f i < 16)
include hf
theorem fl (k : Nat) : (body (fun i => Lib.decDigits (f i)) k).length ≤ 3 * k := body_len (fun i => dec_len (by have := hf i; omega)) k
theorem cat_comma {k : Nat} (hk : k ≤ 4096) (w : World) : (Op.stringOp .add (pre f k) ⟨#[44]⟩).run Ybad.prog w = .ok (.string (prc f k)) w :=
  cat _ [44] (by have := fl hf k; simp; omega) w
theorem cat_next {k : Nat} (hk : k ≤ 4096) (h0 : 0 < k) (w : World) : (Op.stringOp .add (prc f k) (dec (f k))).run Ybad.prog w = .ok (.string (pre f (k + 1))) w := by
  have e := cat ([91] ++ body (fun i => Lib.decDigits (f i)) k ++ [44]) (Lib.decDigits (f k)) (by have := fl hf k; have := dec_len (x := f k) (by have := hf k; omega); simp; omega) w
  refine e.trans ?_
  unfold pre
  show _ = Result.ok (Value.string ⟨([91] ++ ((if k = 0 then [] else body (fun i => Lib.decDigits (f i)) k ++ [44]) ++ Lib.decDigits (f k))).toArray⟩) w
  rw [if_neg (by omega)]
  simp
theorem cat_first (w : World) : (Op.stringOp .add (pre f 0) (dec (f 0))).run Ybad.prog w = .ok (.string (pre f 1)) w := by
  have e := cat [91] (Lib.decDigits (f 0)) (by have := dec_len (x := f 0) (by have := hf 0; omega); simp; omega) w
  exact e
theorem cat_at {n : Nat} (hn : n ≤ 4096) (w : World) : (Op.stringOp .add (pre f n) ⟨#[93, 32, 97, 116, 32]⟩).run Ybad.prog w = .ok (.string (pst f n)) w :=
  cat _ [93, 32, 97, 116, 32] (by have := fl hf n; simp; omega) w
theorem cat_end {n p : Nat} (hn : n ≤ 4096) (hp : p < 16) (w : World) : (Op.stringOp .add (pst f n) (dec p)).run Ybad.prog w = .ok (.string (shB p f n)) w :=
  cat _ (Lib.decDigits p) (by have := fl hf n; have := dec_len (x := p) (by omega); simp; omega) w
end

theorem aitoaD (x : Nat) (h2 : x < 16) (w : World) : Calls Ybad.prog 7 #[.int .i64 x] w fun e w' => e = .returned (.string (dec x)) ∧ Below w.heap.size w w' := aitoa_any x (by omega) w

set_option maxHeartbeats 2000000 in
set_option maxRecDepth 20000 in
theorem ashow (p : Nat) (hp : p < 16) (a : Option Addr) (n c : Nat) (f : Nat → Nat) (w : World) (hn : n ≤ 4096) (hf : ∀ i, f i < 16) (hm : ∀ j, j < n → ∃ b, a = some ⟨b, 0, none⟩ ∧ w.cell? ⟨b, j, none⟩ = some (.int .i64 (f j)) ∧ b < w.heap.size) :
    Calls Ybad.prog 5 #[.int .i64 p, .slice a n c] w fun e w' => e = .returned (.string (shB p f n)) ∧ Below w.heap.size w w' := by
  have HM : Hid (∀ j, j < n → ∃ b, a = some ⟨b, 0, none⟩ ∧ w.cell? ⟨b, j, none⟩ = some (.int .i64 (f j)) ∧ b < w.heap.size) := hm
  have HF : Hid (∀ i, f i < 16) := hf
  clear hm hf
  have e0 : Hid (pre f 0 = ⟨#[91]⟩) := rfl
  go_enter Ybad.func5, Ybad.ntmps5
  go_wp2_with fail
  rw [← e0.out]
  go_loopw [5, 10] (fun s i wr => ∃ k : Nat, k ≤ n ∧ i = .int .i64 k ∧ s = .string (pre f k) ∧ Hid (Below w.heap.size w wr)) (fun _ i _ => n - (intOf i).toNat)
  case atStart => exact ⟨0, Nat.zero_le _, rfl, rfl, Below.refl _ _⟩
  case round =>
    obtain ⟨k, hk, rfl, rfl, HB⟩ := hrel
    by_cases hlt : k < n
    · obtain ⟨b, rfl, hc, hb⟩ := HM.out k hlt
      have g := (HB.out.cell (p := ⟨b, k, none⟩) hb).trans hc
      by_cases h0 : k = 0
      · subst h0
        have c2 := cat_first HF.out
        go_wp2_with (refine (aitoaD (f 0) (HF.out 0) _).mono ?_; rintro e w2 ⟨rfl, hb2⟩)
        go_roundw
        case rel => exact ⟨1, hlt, rfl, rfl, HB.out.trans (by rename_i hb2; exact hb2.mono HB.out.size)⟩
        case measure => simp [intOf]; omega
      · have h0' : (0 : Int) < k := by omega
        have c1 := cat_comma HF.out (k := k) (by omega)
        have c2 := cat_next HF.out (k := k) (by omega) (by omega)
        go_wp2_with (refine (aitoaD (f k) (HF.out k) _).mono ?_; rintro e w2 ⟨rfl, hb2⟩)
        go_roundw
        case rel => exact ⟨k + 1, hlt, rfl, rfl, HB.out.trans (by rename_i hb2; exact hb2.mono HB.out.size)⟩
        case measure => simp [intOf]; omega
    · obtain rfl : k = n := by omega
      have c1 := cat_at HF.out hn
      have c2 := cat_end HF.out hn hp
      go_wp2_with (refine (aitoaD p hp _).mono ?_; rintro e w2 ⟨rfl, hb2⟩)
      go_ret
      exact ⟨rfl, HB.out.trans (by rename_i hb2; exact hb2.mono HB.out.size)⟩

theorem itoaD (x : Nat) (h2 : x < 16) (w : World) : Calls Ybad.prog 8 #[.int .i64 x] w fun e w' => e = .returned (.string (dec x)) ∧ w' = w := Ybad.strconv_Itoa_small x (by omega) w

def jnB (f : Nat → Nat) (n : Nat) : ByteArray := ⟨(body (fun i => Lib.decDigits (f i)) n).toArray⟩
theorem joinD {f : Nat → Nat} (hf : ∀ i, f i < 16) (bk n c : Nat) (hn : n ≤ 4096) (hc : n ≤ c) (w : World) (hcells : ∀ j, j < n → w.cell? ⟨bk, j, none⟩ = some (.string (dec (f j)))) (hbk : bk < w.heap.size) :
    Calls Ybad.prog 9 #[.slice (some ⟨bk, 0, none⟩) n c, .string ⟨#[44]⟩] w fun e w' => e = .returned (.string (jnB f n)) ∧ Below w.heap.size w w' := by
  have hl : ((List.range n).map fun i => dec (f i)).length = n := by simp
  have e1 : (((List.range n).map fun i => dec (f i)).map (·.data.toList)) = (List.range n).map fun i => Lib.decDigits (f i) := by
    rw [List.map_map]
    apply List.map_congr_left
    intro i _
    simp [dec]
  have ej : Lib.join (((List.range n).map fun i => dec (f i)).map (·.data.toList)) [44] = body (fun i => Lib.decDigits (f i)) n := by rw [e1, join_body]
  have := Ybad.strings_Join bk 0 c ((List.range n).map fun i => dec (f i)) ⟨#[44]⟩ w (fun j x hj => by
      have hjn : j < n := by
        apply Classical.byContradiction
        intro hc
        rw [List.getElem?_eq_none (by rw [hl]; omega)] at hj
        cases hj
      simp [hjn] at hj
      subst hj
      rw [Nat.zero_add]
      exact hcells j hjn) hbk (by rw [hl]; omega) (by rw [hl]; exact hc) (by
      show (Lib.join _ [44]).length ≤ _
      rw [ej]
      have := fl hf n
      omega)
  rw [hl] at this
  refine this.mono fun e w' ⟨he, hb⟩ => ⟨?_, hb⟩
  rw [he]
  show Ending.returned (Value.string ⟨(Lib.join _ [44]).toArray⟩) = _
  rw [ej]
  rfl

theorem make52 (n : Nat) (hn : n ≤ 4096) : ∀ w : World, (Instr.makeSlice 52 (.int .i64 n) (.int .i64 n)).run Ybad.prog w = .ok (.slice (some ⟨w.heap.size, 0, none⟩) n n) (w.alloc (.cells (madeCells #[.string ⟨#[]⟩] n) 9)) := by
  intro w
  obtain ⟨i, h1, h2, h3, h4⟩ := info_of (t := 9) (z := .string ⟨#[]⟩) (s := 1) (b := 16) (by kernel_rfl)
  have := run_make (P := Ybad.prog) w 52 9 i _ Ybad.underlying52 h1 h2 .i64 .i64 n n (by omega) (by omega) (by rw [h4]; omega) (by omega)
  simpa [h3, Value.cells] using this

theorem cat_open {f : Nat → Nat} (hf : ∀ i, f i < 16) {n : Nat} (hn : n ≤ 4096) (w : World) : (Op.stringOp .add ⟨#[91]⟩ (jnB f n)).run Ybad.prog w = .ok (.string (pre f n)) w :=
  cat [91] _ (by have := fl hf n; simp; omega) w

set_option maxHeartbeats 2000000 in
set_option maxRecDepth 20000 in
theorem stringOf (p : Nat) (hp : p < 16) (a : Option Addr) (n c : Nat) (f : Nat → Nat) (w : World) (hn : n ≤ 4096) (hf : ∀ i, f i < 16) (hm : ∀ j, j < n → ∃ b, a = some ⟨b, 0, none⟩ ∧ w.cell? ⟨b, j, none⟩ = some (.int .i64 (f j)) ∧ b < w.heap.size) :
    Calls Ybad.prog 6 #[.agg #[.int .i64 p, .slice a n c]] w fun e w' => e = .returned (.string (shB p f n)) ∧ Below w.heap.size w w' := by
  have HM : Hid (∀ j, j < n → ∃ b, a = some ⟨b, 0, none⟩ ∧ w.cell? ⟨b, j, none⟩ = some (.int .i64 (f j)) ∧ b < w.heap.size) := hm
  have HF : Hid (∀ i, f i < 16) := hf
  clear hm hf
  have m1 := make52 n hn
  go_enter Ybad.func6, Ybad.ntmps6
  go_wp2_with fail
  have hs2 : ((w.alloc (Obj.cells #[.int .i64 p, .slice a n c] 30)).alloc (Obj.cells (madeCells #[.string ⟨#[]⟩] n) 9)).heap.size = w.heap.size + 2 := by simp
  have hcl : Hid (∀ j, j < n → (((w.alloc (Obj.cells #[.int .i64 p, .slice a n c] 30)).alloc (Obj.cells (madeCells #[.string ⟨#[]⟩] n) 9)).cell? ⟨w.heap.size + 1, j, none⟩).isSome = true ∧ ((w.alloc (Obj.cells #[.int .i64 p, .slice a n c] 30)).alloc (Obj.cells (madeCells #[.string ⟨#[]⟩] n) 9)).frozen? ⟨w.heap.size + 1, j, none⟩ = false) := fun j hj => by
    have e : (w.alloc (Obj.cells #[.int .i64 p, .slice a n c] 30)).heap.size = w.heap.size + 1 := by simp
    have hsz : (madeCells #[.string ⟨#[]⟩] n).size = n := size_madeCells _ _
    rw [← e, World.cell?_alloc_new, World.frozen?_alloc_new]
    simp [hsz, hj]
  have hp0 : ((w.alloc (Obj.cells #[.int .i64 p, .slice a n c] 30)).alloc (Obj.cells (madeCells #[.string ⟨#[]⟩] n) 9)).cell? ⟨w.heap.size, 0, none⟩ = some (.int .i64 p) := by
    rw [World.cell?_alloc_lt _ _ _ (by simp), World.cell?_alloc_new]; rfl
  have hB0 : Hid (Below w.heap.size w ((w.alloc (Obj.cells #[.int .i64 p, .slice a n c] 30)).alloc (Obj.cells (madeCells #[.string ⟨#[]⟩] n) 9))) := ((Below.refl _ _).alloc (Nat.le_refl _) _).alloc (by simp) _
  generalize (w.alloc (Obj.cells #[.int .i64 p, .slice a n c] 30)).alloc (Obj.cells (madeCells #[.string ⟨#[]⟩] n) 9) = w3 at hs2 hcl hp0 hB0 ⊢
  clear m1
  go_loopw [13] (fun i wr => ∃ k : Nat, k ≤ n ∧ i = .int .i64 k ∧ Hid (Below w.heap.size w wr) ∧ wr.cell? ⟨w.heap.size, 0, none⟩ = some (.int .i64 p) ∧ Hid (∀ j, j < n → (wr.cell? ⟨w.heap.size + 1, j, none⟩).isSome = true ∧ wr.frozen? ⟨w.heap.size + 1, j, none⟩ = false) ∧ Hid (∀ j, j < k → wr.cell? ⟨w.heap.size + 1, j, none⟩ = some (.string (dec (f j)))) ∧ wr.heap.size = w.heap.size + 2) (fun i _ => n - (intOf i).toNat)
  case atStart => exact ⟨0, Nat.zero_le _, rfl, hB0, hp0, hcl, fun j hj => by omega, hs2⟩
  case round =>
    obtain ⟨k, hk, rfl, HB, g0, HC, HD, hsz⟩ := hrel
    clear hB0 hp0 hcl hs2
    by_cases hlt : k < n
    · obtain ⟨b, rfl, hc, hb⟩ := HM.out k hlt
      have g := (HB.out.cell (p := ⟨b, k, none⟩) hb).trans hc
      obtain ⟨u, gu⟩ := Option.isSome_iff_exists.1 (HC.out k hlt).1
      have fu := (HC.out k hlt).2
      go_wp2_with (refine (itoaD (f k) (HF.out k) _).mono ?_; rintro e w2 ⟨rfl, rfl⟩)
      go_roundw
      case rel =>
        refine ⟨k + 1, hlt, rfl, HB.out.setCell (by simp) _, ?_, fun j hj => ?_, fun j hj => ?_, by simpa using hsz⟩
        · rw [World.cell?_setCell_other _ _ _ _ (by intro h; injection h; omega)]; exact g0
        · obtain ⟨h1, h2⟩ := HC.out j hj
          refine ⟨?_, by simpa using h2⟩
          by_cases e : j = k
          · subst e; rw [World.cell?_setCell_same _ _ _ gu]; rfl
          · rw [World.cell?_setCell_other _ _ _ _ (by intro h; injection h; omega)]; exact h1
        · by_cases e : j = k
          · subst e; exact World.cell?_setCell_same _ _ _ gu
          · rw [World.cell?_setCell_other _ _ _ _ (by intro h; injection h; omega)]; exact HD.out j (by omega)
      case measure => simp [intOf]; omega
    · obtain rfl : k = n := by omega
      have c0 := cat_open HF.out hn
      have c1 := cat_at HF.out hn
      have c2 := cat_end HF.out hn hp
      go_wp2_with fail
      have hlt0 : w.heap.size < wr.heap.size := by omega
      go_region_with (first
        | (refine (joinD HF.out (w.heap.size + 1) k k hn (Nat.le_refl _) wr.drew (fun j hj => HD.out j hj) (by show _ < wr.heap.size; omega)).mono ?_
           rintro e w2 ⟨rfl, hb2⟩
           have g2 := (hb2.cell (p := ⟨w.heap.size, 0, none⟩) hlt0).trans g0
           have HB2 : Hid (Below w.heap.size w w2) := HB.out.drew.trans (hb2.mono HB.out.size)
           clear hb2)
        | (refine (itoaD p hp _).mono ?_; rintro e w4 ⟨rfl, rfl⟩))
      all_goals go_wp2
      all_goals go_ret
      all_goals exact ⟨rfl, HB2.out⟩
end Go.Proofs.YbulkcseoDoor
