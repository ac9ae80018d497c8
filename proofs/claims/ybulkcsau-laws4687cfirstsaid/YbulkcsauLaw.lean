/-
  LawS4687CFirst: the walk.
-/
import Derived.Test.YbulkcsauCall
namespace Go.Proofs.Ybulkcsau
open Go.RowKit

set_option maxHeartbeats 400000 in
theorem law_long (kind : ByteArray) (n : Int) (fa : Option Addr) (fl fc : Nat) (w : World) (hn : 1024 < n) :
    Calls Yba.prog 3 #[.string kind, .int .i64 n, .slice fa fl fc] w fun e w' => e = .returned (.bool true) ∧ Below w.heap.size w w' := by
  go_enter Yba.func3, Yba.ntmps3
  go_wp2
  go_ret
  exact ⟨rfl, (Below.refl _ _).alloc (Nat.le_refl _) _⟩

/-- The world in which 'firstRefusal' is called. -/
theorem start_inv (fa : Option Addr) (fl fc : Nat) (w : World) : Inv w ((((w.alloc (.cells #[.slice fa fl fc] 22)).alloc (.cells #[.string { data := #[114, 101, 102, 117, 115, 101, 100] }] 37)).alloc (.cells #[.iface 35 (.pointer (some ⟨w.heap.size + 1, 0, none⟩))] 24)).alloc (.cells #[.slice none 0 0] 26)) w.heap.size fa fl fc 0 := by
  refine ⟨?_, ?_, ⟨.slice none 0 0, ?_, World.ownsRow_nil _ _ _ _⟩, ?_⟩
  · rw [Below.heap_alloc _ _ _ (by simp; omega), Below.heap_alloc _ _ _ (by simp; omega), Below.heap_alloc _ _ _ (by simp)]
    exact heap_alloc_new _ _
  · rw [Below.heap_alloc _ _ _ (by simp)]
    have := heap_alloc_new ((w.alloc (.cells #[.slice fa fl fc] 22)).alloc (.cells #[.string { data := #[114, 101, 102, 117, 115, 101, 100] }] 37)) (.cells #[.iface 35 (.pointer (some ⟨w.heap.size + 1, 0, none⟩))] 24)
    simpa using this
  · have := heap_alloc_new (((w.alloc (.cells #[.slice fa fl fc] 22)).alloc (.cells #[.string { data := #[114, 101, 102, 117, 115, 101, 100] }] 37)).alloc (.cells #[.iface 35 (.pointer (some ⟨w.heap.size + 1, 0, none⟩))] 24)) (.cells #[.slice none 0 0] 26)
    simpa using this
  · exact ((((Below.refl _ w).alloc (Nat.le_refl _) _).alloc (by simp) _).alloc (by simp; omega) _).alloc (by simp; omega) _

theorem err_same (e0 : Addr) (w : World) : (binOp .eql 24 (.iface 35 (.pointer (some e0))) (.iface 35 (.pointer (some e0)))).run Yba.prog w = .ok (.bool true) w := by
  obtain ⟨i, hi, hc⟩ := Option.map_eq_some_iff.1 (show (Yba.prog.info? 35).map (·.comparable) = some true by kernel_rfl)
  obtain ⟨j, hj, _⟩ := Option.map_eq_some_iff.1 (show (Yba.prog.info? 37).map (·.size) = some 1 by kernel_rfl)
  exact run_eql_iface_ptr_same w e0 Yba.underlying24 Yba.underlying35 hi hc hj

theorem assert_hop (a : Addr) (w : World) : (Instr.typeAssert (.iface 30 (.pointer (some a))) 24 30 true).run Yba.prog w = .ok (.tuple #[.pointer (some a), .bool true]) w := by
  simp [Instr.typeAssert, run_underlying Yba.underlying30]

theorem upto_get (m j : Nat) (h : j < m) : (upto m)[j]? = some (.int .i64 (j : Int)) := by simp [upto, h]

/-- What can be read of the log. -/
theorem Inv.read {w0 w : World} {B : Nat} {fa : Option Addr} {fl fc m : Nat} (h : Inv w0 w B fa fl fc m) : ∃ la lc, w.cell? ⟨B + 3, 0, none⟩ = some (.slice la m lc) ∧ ∀ j, j < m → ∃ g, la = some ⟨g, 0, none⟩ ∧ w.cell? ⟨g, j, none⟩ = some (.int .i64 (j : Int)) := by
  obtain ⟨v, hv, hown⟩ := h.log
  rcases hown.2 with ⟨rfl, rfl⟩ | ⟨g, cap, cur, rfl, _⟩
  · exact ⟨none, 0, cell_of_one hv, fun j hj => by omega⟩
  · exact ⟨some ⟨g, 0, none⟩, cap, cell_of_one hv, fun j hj => ⟨g, rfl, (hown.cellAt j (by omega)).trans (upto_get m j hj)⟩⟩

set_option maxHeartbeats 2000000 in
set_option maxRecDepth 100000 in
theorem law_nat (kind : ByteArray) (N : Nat) (fa : Option Addr) (b off fl fc : Nat) (f : Nat → Bool) (w : World) (hn : N ≤ 1024) (hfl : fl ≤ 9223372036854775807)
    (hfa : 0 < fl → fa = some ⟨b, off, none⟩) (hc : ∀ j, j < fl → w.cell? ⟨b, off + j, none⟩ = some (.bool (f j))) :
    Calls Yba.prog 3 #[.string kind, .int .i64 N, .slice fa fl fc] w fun e w' => e = .returned (.bool true) ∧ Below w.heap.size w w' := by
  have hd : decide ((1024 : Int) < (N : Int)) = false := decide_eq_false (by omega)
  have hbs : ∀ j, j < fl → b < w.heap.size := fun j hj => World.block_lt_of_cell? _ _ (hc j hj)
  have hF := first_any w _ w.heap.size b off fl fc N f fa kind (by omega) (by omega) (start_inv fa fl fc w) hfl hfa (fun j hj => ⟨hc j hj, hbs j hj⟩)
  rw [Int.toNat_natCast] at hF
  have HC : Hid (∀ j, j < fl → w.cell? ⟨b, off + j, none⟩ = some (.bool (f j))) := hc
  have HB : Hid (∀ j, j < fl → b < w.heap.size) := hbs
  have HA : Hid (0 < fl → fa = some ⟨b, off, none⟩) := hfa
  clear hc hbs hfa
  go_enter Yba.func3, Yba.ntmps3
  go_wp2_with (go_at_call 4; go_in)
  refine hF.mono ?_
  rintro e w1 ⟨r, rfl, hD⟩
  clear hF
  rcases hD with ⟨hr, hI, hno⟩ | ⟨k, g, hk, hhit, hno, hI, hg, hr, hblk⟩
  · rw [hr]
    have g0 := cell_of_one hI.flags
    have HN : Hid (∀ j, j < N → hit fl f j = false) := hno
    have HI : Hid (Inv w w1 w.heap.size fa fl fc N) := hI
    obtain ⟨la, lc, gL, hG⟩ := hI.read
    have HG : Hid (∀ j, j < N → ∃ g, la = some ⟨g, 0, none⟩ ∧ w1.cell? ⟨g, j, none⟩ = some (.int .i64 (j : Int))) := hG
    clear hno hr hI hG
    go_wp2_with fail
    go_loop [11, 12] (fun v i => ∃ j : Nat, j ≤ N ∧ i = .int .i64 j ∧ v = .int .i64 (-1)) (fun _ i => N - (intOf i).toNat)
    case atStart => exact ⟨0, Nat.zero_le _, rfl, rfl⟩
    case round =>
      obtain ⟨j, hj, rfl, rfl⟩ := hrel
      by_cases h1 : j < N
      · by_cases h2 : j < fl
        · have hf : f j = false := by have := HN.out j h1; simpa [hit, h2] using this
          have gb : w1.cell? ⟨b, off + j, none⟩ = some (.bool false) := by rw [← hf, ← HC.out j h2]; exact HI.out.old.cell (p := ⟨b, off + j, none⟩) (HB.out j h2)
          have e := HA.out (by omega)
          subst e
          clear hf
          go_wp2_with fail
          go_round
          case rel => exact ⟨j + 1, by omega, by go_num, rfl⟩
          case measure => simp [intOf]; omega
        · skip
          go_wp2_with fail
          go_loop [14] (fun i => ∃ j : Nat, j ≤ N ∧ i = .int .i64 j) (fun i => N - (intOf i).toNat)
          case atStart => exact ⟨0, Nat.zero_le _, rfl⟩
          case round =>
            obtain ⟨j2, hj2, rfl⟩ := hrel
            by_cases h3 : j2 < N
            · obtain ⟨g', e, gj⟩ := HG.out j2 h3
              subst e
              go_wp2_with fail
              go_round
              case rel => exact ⟨j2 + 1, by omega, by go_num⟩
              case measure => simp [intOf]; omega
            · go_wp2_with fail
              go_ret
              exact ⟨rfl, HI.out.old⟩
      · skip
        go_wp2_with fail
        go_loop [14] (fun i => ∃ j : Nat, j ≤ N ∧ i = .int .i64 j) (fun i => N - (intOf i).toNat)
        case atStart => exact ⟨0, Nat.zero_le _, rfl⟩
        case round =>
          obtain ⟨j2, hj2, rfl⟩ := hrel
          by_cases h3 : j2 < N
          · obtain ⟨g', e, gj⟩ := HG.out j2 h3
            subst e
            go_wp2_with fail
            go_round
            case rel => exact ⟨j2 + 1, by omega, by go_num⟩
            case measure => simp [intOf]; omega
          · go_wp2_with fail
            go_ret
            exact ⟨rfl, HI.out.old⟩
  · rw [hr]
    have g0 := cell_of_one hI.flags
    have gS := cell_of_one hI.sent
    have HN : Hid (∀ j, j < k → hit fl f j = false) := hno
    have HI : Hid (Inv w w1 w.heap.size fa fl fc (k + 1)) := hI
    have HH : Hid (hit fl f k = true) := hhit
    obtain ⟨la, lc, gL, hG⟩ := hI.read
    have HG : Hid (∀ j, j < k + 1 → ∃ g, la = some ⟨g, 0, none⟩ ∧ w1.cell? ⟨g, j, none⟩ = some (.int .i64 (j : Int))) := hG
    have e0 : w1.cell? ⟨g, 0, none⟩ = some (.string kind) := by simp [World.cell?, hblk]
    have e1 : w1.cell? ⟨g, 1, none⟩ = some (.int .i64 ((k : Int) + 1)) := by simp [World.cell?, hblk]
    have e2 : w1.cell? ⟨g, 2, none⟩ = some (.iface 35 (.pointer (some ⟨w.heap.size + 1, 0, none⟩))) := by simp [World.cell?, hblk]
    have heq := err_same ⟨w.heap.size + 1, 0, none⟩
    have hta := assert_hop ⟨g, 0, none⟩
    have hnot : ∀ (x : Bool) (w : World), (Op.unary .not (.bool x)).run Yba.prog w = .ok (.bool (!x)) w := fun _ _ => rfl
    clear hno hr hI hG hblk hhit
    go_wp2_with fail
    go_loop [11, 12] (fun v i => ∃ j : Nat, j ≤ k ∧ i = .int .i64 j ∧ v = .int .i64 (-1)) (fun _ i => N - (intOf i).toNat)
    case atStart => exact ⟨0, Nat.zero_le _, rfl, rfl⟩
    case round =>
      obtain ⟨j, hj, rfl, rfl⟩ := hrel
      have hkf : k < fl ∧ f k = true := by have := HH.out; simpa [hit] using this
      have h2 : j < fl := by omega
      have h1 : j < N := by omega
      have e := HA.out (by omega)
      subst e
      by_cases hjk : j < k
      · have hf : f j = false := by have := HN.out j hjk; simpa [hit, h2] using this
        have gb : w1.cell? ⟨b, off + j, none⟩ = some (.bool false) := by rw [← hf, ← HC.out j h2]; exact HI.out.old.cell (p := ⟨b, off + j, none⟩) (HB.out j h2)
        clear hf hkf
        go_wp2_with fail
        go_round
        case rel => exact ⟨j + 1, by omega, by go_num, rfl⟩
        case measure => simp [intOf]; omega
      · obtain rfl : j = k := by omega
        have gb : w1.cell? ⟨b, off + j, none⟩ = some (.bool true) := by rw [← hkf.2, ← HC.out j h2]; exact HI.out.old.cell (p := ⟨b, off + j, none⟩) (HB.out j h2)
        clear hkf
        go_wp2_with fail
        go_loop [14] (fun i => ∃ j : Nat, j ≤ (j + 1) ∧ i = .int .i64 j) (fun i => (j + 1) - (intOf i).toNat)
        case atStart => exact ⟨0, Nat.zero_le _, rfl⟩
        case round =>
          obtain ⟨j2, hj2, rfl⟩ := hrel
          by_cases h3 : j2 < (j + 1)
          · obtain ⟨g', e, gj⟩ := HG.out j2 h3
            subst e
            go_wp2_with fail
            go_round
            case rel => exact ⟨j2 + 1, by omega, by go_num⟩
            case measure => simp [intOf]; omega
          · go_wp2_with fail
            go_quiet (fail)
            go_wp2
            go_ret
            exact ⟨rfl, HI.out.old.trans ⟨rfl, rfl, rfl, Nat.le_refl _, fun _ _ => rfl⟩⟩

set_option maxHeartbeats 1000000 in
set_option maxRecDepth 100000 in
theorem law_neg (kind : ByteArray) (n : Int) (fa : Option Addr) (b off fl fc : Nat) (f : Nat → Bool) (w : World) (hn : n < 0) (hn0 : -9223372036854775808 ≤ n) (hfl : fl ≤ 9223372036854775807)
    (hfa : 0 < fl → fa = some ⟨b, off, none⟩) (hc : ∀ j, j < fl → w.cell? ⟨b, off + j, none⟩ = some (.bool (f j))) :
    Calls Yba.prog 3 #[.string kind, .int .i64 n, .slice fa fl fc] w fun e w' => e = .returned (.bool true) ∧ Below w.heap.size w w' := by
  have hd : decide ((1024 : Int) < n) = false := decide_eq_false (by omega)
  have hd2 : decide (n < 0) = true := decide_eq_true (by omega)
  have hd3 : decide (0 < n) = false := decide_eq_false (by omega)
  have hbs : ∀ j, j < fl → b < w.heap.size := fun j hj => World.block_lt_of_cell? _ _ (hc j hj)
  have hF := first_any w _ w.heap.size b off fl fc n f fa kind (by omega) hn0 (start_inv fa fl fc w) hfl hfa (fun j hj => ⟨hc j hj, hbs j hj⟩)
  rw [show n.toNat = 0 by omega] at hF
  clear hc hbs hfa
  go_enter Yba.func3, Yba.ntmps3
  go_wp2_with (go_at_call 4; go_in)
  refine hF.mono ?_
  rintro e w1 ⟨r, rfl, hD⟩
  clear hF
  rcases hD with ⟨hr, hI, hno⟩ | ⟨k, g, hk, hhit, hno, hI, hg, hr, hblk⟩
  · rw [hr]
    have g0 := cell_of_one hI.flags
    have HI : Hid (Inv w w1 w.heap.size fa fl fc 0) := hI
    obtain ⟨la, lc, gL, hG⟩ := hI.read
    clear hno hr hI hG
    go_wp2_with fail
    go_loop [11, 12] (fun v i => i = .int .i64 0 ∧ v = .int .i64 (-1)) (fun _ _ => 0)
    case atStart => exact ⟨rfl, rfl⟩
    case round =>
      obtain ⟨rfl, rfl⟩ := hrel
      go_wp2_with fail
      go_loop [14] (fun i => i = .int .i64 0) (fun _ => 0)
      case atStart => exact rfl
      case round =>
        subst hrel
        go_wp2_with fail
        go_ret
        exact ⟨rfl, HI.out.old⟩
  · omega

theorem law_any (kind : ByteArray) (n : Int) (fa : Option Addr) (b off fl fc : Nat) (f : Nat → Bool) (w : World) (hn0 : -9223372036854775808 ≤ n) (hfl : fl ≤ 9223372036854775807)
    (hfa : 0 < fl → fa = some ⟨b, off, none⟩) (hc : ∀ j, j < fl → w.cell? ⟨b, off + j, none⟩ = some (.bool (f j))) :
    Calls Yba.prog 3 #[.string kind, .int .i64 n, .slice fa fl fc] w fun e w' => e = .returned (.bool true) ∧ Below w.heap.size w w' := by
  by_cases h1 : 1024 < n
  · exact law_long kind n fa fl fc w h1
  by_cases h2 : n < 0
  · exact law_neg kind n fa b off fl fc f w h2 hn0 hfl hfa hc
  obtain ⟨N, rfl⟩ := Int.eq_ofNat_of_zero_le (show 0 ≤ n by omega)
  exact law_nat kind N fa b off fl fc f w (by omega) hfl hfa hc
end Go.Proofs.Ybulkcsau
