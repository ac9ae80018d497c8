/-
  LawS4681BFire: each of the 32 watches stands or is gone
-/
import Derived.Test.YbulkcrxoDoorB24
import Derived.Deep.DeepCutAuto
import Derived.Deep.CutBlock
import Derived.Deep.RegionWith
import Derived.Deep.RegionLaw
set_option linter.unusedVariables false
namespace Go.Proofs.YbulkcrxoDoor.F
open Go.RowKit Go.Any
open Go.ChangeMaps (setBlock)

/-- 'taken', by the law's own bits. -/
def tkB (bD bH bP : Bool) (fp pp p k : Nat) : Bool := (decide (p = fp) && ((decide (k = 0) && bD) || (decide (k = 1) && bH))) || (decide (p = pp) && (decide (k = 1) && bP))
theorem Kw.new (w : World) (p : ByteArray) (k : Nat) : (w.alloc (.cells #[.string p, .int .u8 (k : Int)] 61)).cell? ⟨w.heap.size, 0, none⟩ = some (.string p) ∧ (w.alloc (.cells #[.string p, .int .u8 (k : Int)] 61)).cell? ⟨w.heap.size, 1, none⟩ = some (.int .u8 (k : Int)) := by
  constructor <;> rw [alloc_new] <;> rfl

set_option maxHeartbeats 100000000 in
set_option maxRecDepth 1000000 in
theorem b23 {c0 c1 c2 c3 c4 c5 c6 c7 c8 c12 c13 c17 c19 c20 c21 c22 c23 c24 c25 c26 c30 c31 c32 c33 c34 c35 c36 c37 c38 c39 c41 c42 c43 c44 c45 c46 c47 c48 c49 c50 c51 c52 c53 c54 c55 c56 c57 c58 c59 c60 c61 c62 c63 c64 c65 c66 c67 c68 c69 c70 c71 c72 c73 c74 c75 c76 c77 c78 c79 c80 c81 c82 c83 c84 c85 c86 c87 c88 c89 c90 c91 c92 c93 c94 c95 c96 c97 c98 c99 c100 c101 c102 c103 c104 c105 c106 c107 c108 c109 c110 c111 c112 c113 c114 c115 c116 c117 c118 c119 c120 c121 c122 c123 c124 c125 c126 c127 c128 c129 c130 c131 c132 c133 c134 c135 c136 c137 c138 c139 c140 c141 c142 c143 c144 c145 c146 c147 c148 c149 c150 c151 c152 c153 c154 c155 c156 c157 c158 c159 c160 c161 c162 c163 c164 c165 c166 c167 c168 c169 c170 c171 c172 c173 c174 c175 c176 c177 c178 c179 c180 c181 c182 c183 c184 c185 c186 c187 c188 c189 c190 c191 c192 c193 c194 c195 c196 c197 c198 c199 c200 c201 c202 c203 c204 c205 c206 c207 c208 c209 c210 c211 c212 c213 c214 c215 c216 c217 c218 c219 c220 c221 c222 c223 c224 c225 c226 c227 c228 c229 c230 c231 c232 c233 c234 c235 c236 c237 c238 c239 c240 c241 c242 c243 c244 c245 c246 c247 c248 c249 c250 c251 c252 c253 c254 c255 c256 c257 c258 c259 c260 c261 c262 c263 c264 c265 c266 c267 c268 c269 c270 c271 c272 c273 c274 c275 c276 c277 c278 c279 c280 c281 c282 c283 c284 c285 c286 c287 c288 c289 c290 c291 c292 c293 c294 c295 c296 c297 c298 c299 c300 c301 c302 c303 c304 c305 c306 c307 c308 c309 c310 c311 c312 c313 c314 c315 c316 c317 c318 c319 c320 c321 c322 c323 c324 c325 c326 c327 c328 c329 c330 c331 c332 c333 c334 c335 c336 c337 c338 c339 c340 c341 c342 c343 c344 c345 c346 c347 c348 c349 c350 c351 c352 c353 c354 c355 c356 c357 c358 c359 c360 c361 c362 c363 c364 c365 c366 c367 c368 c369 c370 c371 c372 c373 c374 c375 c376 c377 c378 c379 c380 c381 c382 c383 c384 c385 c386 c387 c388 c389 c390 c391 c392 c393 c394 c395 c396 c397 c398 c399 c400 c401 c402 c403 c404 c405 c406 c407 c408 c409 c410 c411 c412 c413 c414 c415 c416 c417 c418 c419 c420 c421 c422 c423 c424 c425 c426 c427 c428 c429 c430 c431 c432 c433 c434 c435 c436 c437 c438 c439 c440 c441 c442 c443 c444 c445 c446 c447 c448 c449 c450 c451 c452 c453 c454 c455 c456 c457 c458 c459 c460 c461 c462 c463 c464 c465 c466 c467 c468 c469 c470 c471 c472 c473 c474 c475 c476 c477 c478 c479 c480 c481 c482 c483 c484 c485 c486 c487 c488 c489 c490 c491 c492 c493 c494 c495 c496 c497 c498 c499 c500 c501 c502 c503 c504 c505 c506 c507 : Value} (w wz : World) (T V SA CA HBk AB : Nat) (SB : Fin 4 → Nat) (CB : Fin 4 → Option (Nat × Bool)) (IK : Key → Nat) (JS : Fin 4 → Nat) (ρ : Nat → Role) (A : Nat → Wt) (N ev fp : Nat) (A' : Nat → Wt) (N' : Nat) (D1 D2 : Fin 4 → Bool) (F1 F2 : Nat) (RB : Fin 4 → Option Nat)
    (HF : Hid (Fe w wz T V SA CA HBk AB SB CB IK JS ρ A N ev fp A' N' D1 D2 F1 F2 RB)) (bD bH bP : Bool) (hbits : Hid (bD = tD ev ∧ bH = tH ev ∧ bP = tP ev)) (hf : 1 ≤ fp ∧ fp ≤ 3) (pp : Nat) (hpp : Hid (pp = pr fp))  :
    Code.wp Ybad.prog (restB 23) (bodyPost Ybad.prog Ybad.f4 fun e w' => e = .returned (.bool true) ∧ Below w.heap.size w w') ⟨#[c0, c1, c2, c3, c4, c5, c6, c7, c8, .int .i32 (ev : Int), .int .i64 (fp : Int), .int .i64 (pp : Int), c12, c13, .pointer (some ⟨T + 2, 0, none⟩), .pointer (some ⟨SA, 0, none⟩), .pointer (some ⟨CA, 0, none⟩), c17, .pointer (some ⟨HBk, 0, none⟩), c19, c20, c21, c22, c23, c24, c25, c26, .bool bD, .bool bH, .bool bP, c30, c31, c32, c33, c34, c35, c36, c37, c38, c39, .int .i64 0, c41, c42, c43, c44, c45, c46, c47, c48, c49, c50, c51, c52, c53, c54, c55, c56, c57, c58, c59, c60, c61, c62, c63, c64, c65, c66, c67, c68, c69, c70, c71, c72, c73, c74, c75, c76, c77, c78, c79, c80, c81, c82, c83, c84, c85, c86, c87, c88, c89, c90, c91, c92, c93, c94, c95, c96, c97, c98, c99, c100, c101, c102, c103, c104, c105, c106, c107, c108, c109, c110, c111, c112, c113, c114, c115, c116, c117, c118, c119, c120, c121, c122, c123, c124, c125, c126, c127, c128, c129, c130, c131, c132, c133, c134, c135, c136, c137, c138, c139, c140, c141, c142, c143, c144, c145, c146, c147, c148, c149, c150, c151, c152, c153, c154, c155, c156, c157, c158, c159, c160, c161, c162, c163, c164, c165, c166, c167, c168, c169, c170, c171, c172, c173, c174, c175, c176, c177, c178, c179, c180, c181, c182, c183, c184, c185, c186, c187, c188, c189, c190, c191, c192, c193, c194, c195, c196, c197, c198, c199, c200, c201, c202, c203, c204, c205, c206, c207, c208, c209, c210, c211, c212, c213, c214, c215, c216, c217, c218, c219, c220, c221, c222, c223, c224, c225, c226, c227, c228, c229, c230, c231, c232, c233, c234, c235, c236, c237, c238, c239, c240, c241, c242, c243, c244, c245, c246, c247, c248, c249, c250, c251, c252, c253, c254, c255, c256, c257, c258, c259, c260, c261, c262, c263, c264, c265, c266, c267, c268, c269, c270, c271, c272, c273, c274, c275, c276, c277, c278, c279, c280, c281, c282, c283, c284, c285, c286, c287, c288, c289, c290, c291, c292, c293, c294, c295, c296, c297, c298, c299, c300, c301, c302, c303, c304, c305, c306, c307, c308, c309, c310, c311, c312, c313, c314, c315, c316, c317, c318, c319, c320, c321, c322, c323, c324, c325, c326, c327, c328, c329, c330, c331, c332, c333, c334, c335, c336, c337, c338, c339, c340, c341, c342, c343, c344, c345, c346, c347, c348, c349, c350, c351, c352, c353, c354, c355, c356, c357, c358, c359, c360, c361, c362, c363, c364, c365, c366, c367, c368, c369, c370, c371, c372, c373, c374, c375, c376, c377, c378, c379, c380, c381, c382, c383, c384, c385, c386, c387, c388, c389, c390, c391, c392, c393, c394, c395, c396, c397, c398, c399, c400, c401, c402, c403, c404, c405, c406, c407, c408, c409, c410, c411, c412, c413, c414, c415, c416, c417, c418, c419, c420, c421, c422, c423, c424, c425, c426, c427, c428, c429, c430, c431, c432, c433, c434, c435, c436, c437, c438, c439, c440, c441, c442, c443, c444, c445, c446, c447, c448, c449, c450, c451, c452, c453, c454, c455, c456, c457, c458, c459, c460, c461, c462, c463, c464, c465, c466, c467, c468, c469, c470, c471, c472, c473, c474, c475, c476, c477, c478, c479, c480, c481, c482, c483, c484, c485, c486, c487, c488, c489, c490, c491, c492, c493, c494, c495, c496, c497, c498, c499, c500, c501, c502, c503, c504, c505, c506, c507], []⟩ wz := by
  conv => arg 2; whnf
  have hpp4 : pp < 4 := by rw [hpp.out]; unfold pr; split <;> omega
  have hpf : pp ≠ fp := by rw [hpp.out]; unfold pr; split <;> omega
  go_wp2_with fail
  rename_i K5 h5
  have HS5 : ∀ a w, StopB (restB 24) _ a w → K5 a w := h5
  clear h5
  go_loopw [40, 41] (fun cv iv wx => ∃ i : Nat, i ≤ 4 ∧ iv = .int .i64 i ∧ cv = .int .i64 ((rc (hasB A' N') x32 (i * 8) : Nat) : Int) ∧ Hid (Fe w wx T V SA CA HBk AB SB CB IK JS ρ A N ev fp A' N' D1 D2 F1 F2 RB)) (fun _ iv _ => 4 - (intOf iv).toNat)
  case atStart => exact ⟨0, by omega, rfl, rfl, HF⟩
  case round =>
    obtain ⟨i, hi, rfl, rfl, HF5⟩ := hrel
    clear HF
    by_cases hlt : i < 4
    · obtain ⟨s, rfl⟩ : ∃ s : Fin 4, i = s.val := ⟨⟨i, hlt⟩, rfl⟩
      have hs4' : (s.val : Int) < 4 := by omega
      have hes : (s.val : Int).toNat = s.val := by simp
      go_wp2_with fail
      go_loopw [40, 42] (fun cv iv wx => ∃ p : Nat, p ≤ 4 ∧ iv = .int .i64 p ∧ cv = .int .i64 ((rc (hasB A' N') x32 (s.val * 8 + p * 2) : Nat) : Int) ∧ Hid (Fe w wx T V SA CA HBk AB SB CB IK JS ρ A N ev fp A' N' D1 D2 F1 F2 RB)) (fun _ iv _ => 4 - (intOf iv).toNat)
      case atStart => exact ⟨0, by omega, rfl, rfl, HF5⟩
      case round =>
        obtain ⟨p, hp, rfl, rfl, HF6⟩ := hrel
        clear HF5
        by_cases hltp : p < 4
        · have hp4' : (p : Int) < 4 := by omega
          go_wp2_with fail
          go_loopw [40, 43] (fun cv iv wx => ∃ k : Nat, k ≤ 2 ∧ iv = .int .i64 k ∧ cv = .int .i64 ((rc (hasB A' N') x32 (s.val * 8 + p * 2 + k) : Nat) : Int) ∧ Hid (Fe w wx T V SA CA HBk AB SB CB IK JS ρ A N ev fp A' N' D1 D2 F1 F2 RB)) (fun _ iv _ => 2 - (intOf iv).toNat)
          case atStart => exact ⟨0, by omega, rfl, rfl, HF6⟩
          case round =>
            obtain ⟨k, hk, rfl, rfl, HF7⟩ := hrel
            clear HF6
            have hcl := rc_le (hasB A' N') x32 (s.val * 8 + p * 2 + k)
            obtain ⟨cn, hcn⟩ : ∃ n, Hid (n = rc (hasB A' N') x32 (s.val * 8 + p * 2 + k)) := ⟨_, rfl⟩
            rw [← hcn.out] at hcl ⊢
            by_cases hltk : k < 2
            · have hk2' : (k : Int) < 2 := by omega
              go_upto_region 95 with fail
              obtain ⟨tk, htk⟩ : ∃ b, Hid (b = tkB bD bH bP fp pp p k) := ⟨_, rfl⟩
              go_cut [44] (fun v wy => v = .bool tk ∧ wy = wr)
              case first =>
                as_aux_lemma =>
                  have f1 : ∀ a b : Nat, a ≠ b → ¬ (a : Int) = (b : Int) := fun a b h => by omega
                  rcases (show k = 0 ∨ k = 1 by omega) with rfl | rfl
                  · by_cases e1 : p = fp
                    · have e2 : (pp : Int) ≠ fp := by omega
                      have e3 : ¬ (fp : Int) = pp := by omega
                      subst e1
                      cases bD <;> (go_wp2_with fail) <;> go_meet <;> exact ⟨by rw [htk.out]; simp [tkB, Ne.symm hpf], rfl⟩
                    · have e2 := f1 _ _ e1
                      by_cases e3 : p = pp
                      · subst e3
                        (go_wp2_with fail) <;> go_meet <;> exact ⟨by rw [htk.out]; simp [tkB, e1], rfl⟩
                      · have e4 := f1 _ _ e3
                        (go_wp2_with fail) <;> go_meet <;> exact ⟨by rw [htk.out]; simp [tkB, e1, e3], rfl⟩
                  · by_cases e1 : p = fp
                    · have e2 : (pp : Int) ≠ fp := by omega
                      have e3 : ¬ (fp : Int) = pp := by omega
                      subst e1
                      cases bH <;> (go_wp2_with fail) <;> go_meet <;> exact ⟨by rw [htk.out]; simp [tkB, Ne.symm hpf], rfl⟩
                    · have e2 := f1 _ _ e1
                      by_cases e3 : p = pp
                      · subst e3
                        (go_wp2_with fail) <;> go_meet <;> exact ⟨by rw [htk.out]; simp [tkB, e1], rfl⟩
                      · have e4 := f1 _ _ e3
                        (go_wp2_with fail) <;> go_meet <;> exact ⟨by rw [htk.out]; simp [tkB, e1, e3], rfl⟩
              case rest =>
                obtain ⟨rfl, hwc⟩ := hcut
                subst hwc
                obtain ⟨hv, hhv⟩ : ∃ b, Hid (b = hasB A N ((pb p, k), s)) := ⟨_, rfl⟩
                have hh0 : wc.cell? ⟨HBk, s.val * 8 + p * 2 + k, none⟩ = some (.bool (hasB A N ((pb p, k), s))) := HF7.out.hs s p k hltp hltk
                rw [← hhv.out] at hh0
                obtain ⟨wv, hwv⟩ : ∃ b, Hid (b = hasB A' N' ((pb p, k), s)) := ⟨_, rfl⟩
                have hwt : Hid ((hv && !tk) = wv) := by
                  rw [hhv.out, hwv.out, htk.out, hbits.out.1, hbits.out.2.1, hbits.out.2.2, hpp.out]
                  exact HF7.out.want (by omega) s p k hltp
                go_upto_region 96 with fail
                go_cut [45] (fun v wy => v = .bool wv ∧ wy = wc)
                case first =>
                  have hw0 := hwt.out
                  cases hv <;> cases tk <;> (go_wp2_with fail) <;> go_meet <;> exact ⟨by rw [← hw0]; rfl, rfl⟩
                case rest =>
                  as_aux_lemma =>
                    obtain ⟨rfl, hwc⟩ := hcut
                    subst hwc
                    clear hh0 hwt
                    obtain ⟨pq, hpq⟩ : ∃ x, Hid (x = pb p) := ⟨_, rfl⟩
                    have cb := bpath p hltp
                    rw [← hpq.out] at cb
                    go_upto_region 98 with (go_at_call 13; refine (cb _).mono ?_; rintro e w1 ⟨rfl, hw1⟩; have hw1 := hw1.symm; subst hw1)
                    have HP : Hid ((wc.alloc (.cells #[.string pq, .int .u8 (k : Int)] 61)).cell? ⟨wc.heap.size, 0, none⟩ = some (.string pq) ∧ (wc.alloc (.cells #[.string pq, .int .u8 (k : Int)] 61)).cell? ⟨wc.heap.size, 1, none⟩ = some (.int .u8 (k : Int))) := Kw.new wc pq k
                    have HFy : Hid (Fe w (wc.alloc (.cells #[.string pq, .int .u8 (k : Int)] 61)) T V SA CA HBk AB SB CB IK JS ρ A N ev fp A' N' D1 D2 F1 F2 RB) := HF7.out.below ((Below.refl _ _).alloc (Nat.le_refl _) _)
                    obtain ⟨P, hP⟩ : ∃ P, Hid (P = wc.heap.size) := ⟨_, rfl⟩
                    rw [← hP.out] at HP ⊢
                    generalize wc.alloc (.cells #[.string pq, .int .u8 (k : Int)] 61) = wy at HP HFy ⊢
                    clear HF7 cb
                    have p0 := HP.out.1
                    have p1 := HP.out.2
                    have t0 := HFy.out.st.t.c0
                    have gs := HFy.out.sa s
                    obtain ⟨m, m', hm⟩ := mk_ex A' N' IK JS (pb p, k) s
                    have HM : Hid (Mk A' N' IK JS (pb p, k) s m m') := hm
                    clear hm
                    have HD : Hid (∀ n, Tbl (wy.drewN n) T V (T + 2) T (T + 1) AB SB IK JS ρ A' N' ∧ Sess (wy.drewN n) SB) := fun n => ⟨HFy.out.st.t.below ⟨rfl, rfl, rfl, Nat.le_refl _, fun _ _ => rfl⟩, HFy.out.st.s.below ⟨rfl, rfl, rfl, Nat.le_refl _, fun _ _ => rfl⟩⟩
                    have L64 : ∀ n, (Instr.lookup 64 (.map (some T)) (.agg #[.string pq, .int .u8 (k : Int)]) false).run Ybad.prog (wy.drewN n) = .ok (.map m) (wy.drewN n) := fun n => by rw [hpq.out]; exact look64 (HD.out n).1 HM.out
                    obtain ⟨jx, HJ⟩ : ∃ j : Int, Hid (∀ n, (Instr.lookup 63 (.map m) (.pointer (some ⟨SB s, 0, none⟩)) true).run Ybad.prog (wy.drewN n) = .ok (.tuple #[.int .i64 j, .bool wv]) (wy.drewN n)) := by
                      by_cases hx : Has A' N' ((pb p, k), s)
                      · obtain ⟨i0, hi0, hA⟩ := id hx
                        exact ⟨i0, fun n => by rw [hwv.out, hasB_true.2 hx]; exact look63 (HD.out n).1 (HD.out n).2 HM.out hi0 hA⟩
                      · exact ⟨0, fun n => by rw [hwv.out, hasB_false.2 hx]; exact look63n (HD.out n).1 (HD.out n).2 HM.out hx⟩
                    have L63 := HJ.out
                    go_quiet (fail)
                    clear L64 L63 t0 HJ
                    go_upto_region 101 with fail
                    have HFz : Hid (Fe w (wy.drewN nq) T V SA CA HBk AB SB CB IK JS ρ A N ev fp A' N' D1 D2 F1 F2 RB) := HFy.out.below ⟨rfl, rfl, rfl, Nat.le_refl _, fun _ _ => rfl⟩
                    have HPz : Hid ((wy.drewN nq).cell? ⟨P, 0, none⟩ = some (.string pq) ∧ (wy.drewN nq).cell? ⟨P, 1, none⟩ = some (.int .u8 (k : Int))) := HP.out
                    clear p0 p1 gs HD HFy HP
                    generalize wy.drewN nq = wg at HFz HPz ⊢
                    have p0 := HPz.out.1
                    have p1 := HPz.out.2
                    have t1 := HFz.out.st.t.c1
                    have gs := HFz.out.sa s
                    have HFv : Hid (Fe w (wg.alloc (.cells #[] 36)) T V SA CA HBk AB SB CB IK JS ρ A N ev fp A' N' D1 D2 F1 F2 RB) := HFz.out.below ((Below.refl _ _).alloc (Nat.le_refl _) _)
                    have q0 := World.cell?_of_block (w := wg) (w' := wg.alloc (.cells #[] 36)) (a := ⟨P, 0, none⟩) (Below.heap_alloc _ _ _ (World.block_lt_of_cell? _ _ p0))
                    have q1 := World.cell?_of_block (w := wg) (w' := wg.alloc (.cells #[] 36)) (a := ⟨P, 1, none⟩) (Below.heap_alloc _ _ _ (World.block_lt_of_cell? _ _ p1))
                    have q2 := HFv.out.st.t.c1
                    have q3 := HFv.out.sa s
                    rw [p0] at q0
                    rw [p1] at q1
                    have T1 : Hid (Tbl wg.drew T V (T + 2) T (T + 1) AB SB IK JS ρ A' N' ∧ Sess wg.drew SB) := ⟨HFz.out.st.t.below ⟨rfl, rfl, rfl, Nat.le_refl _, fun _ _ => rfl⟩, HFz.out.st.s.below ⟨rfl, rfl, rfl, Nat.le_refl _, fun _ _ => rfl⟩⟩
                    have T2 : Hid (Tbl (wg.alloc (.cells #[] 36)).drew T V (T + 2) T (T + 1) AB SB IK JS ρ A' N' ∧ Sess (wg.alloc (.cells #[] 36)).drew SB) := ⟨HFv.out.st.t.below ⟨rfl, rfl, rfl, Nat.le_refl _, fun _ _ => rfl⟩, HFv.out.st.s.below ⟨rfl, rfl, rfl, Nat.le_refl _, fun _ _ => rfl⟩⟩
                    have L65a : (Instr.lookup 65 (.map (some (T + 1))) (.pointer (some ⟨SB s, 0, none⟩)) false).run Ybad.prog wg.drew = .ok (.map m') wg.drew := look65 T1.out.1 T1.out.2 HM.out
                    have L65b : (Instr.lookup 65 (.map (some (T + 1))) (.pointer (some ⟨SB s, 0, none⟩)) false).run Ybad.prog (wg.alloc (.cells #[] 36)).drew = .ok (.map m') (wg.alloc (.cells #[] 36)).drew := look65 T2.out.1 T2.out.2 HM.out
                    have L71 : ∀ w' : World, Tbl w' T V (T + 2) T (T + 1) AB SB IK JS ρ A' N' → (Instr.lookup 71 (.map m') (.agg #[.string pq, .int .u8 (k : Int)]) true).run Ybad.prog w' = .ok (.tuple #[.agg #[], .bool wv]) w' := fun w' h => by
                      rw [hpq.out]
                      by_cases hx : Has A' N' ((pb p, k), s)
                      · rw [hwv.out, hasB_true.2 hx]; exact look71 h HM.out hx
                      · rw [hwv.out, hasB_false.2 hx]; exact look71n h HM.out hx
                    have L71a := L71 _ T1.out.1
                    have L71b := L71 _ T2.out.1
                    clear L71
                    have hrs := rc_step (hasB A' N') s p k hltp hltk wv hwv.out.symm
                    rw [← hcn.out] at hrs
                    have HRS : Hid (rc (hasB A' N') x32 (s.val * 8 + p * 2 + k + 1) = cn + if wv = true then 1 else 0) := hrs
                    clear hrs
                    go_region
                    all_goals
                      cases wv with
                      | true =>
                        go_wp2
                        refine ⟨⟨k + 1, hltk, by first | rfl | trivial, ?_, HFv.out.below ⟨rfl, rfl, rfl, Nat.le_refl _, fun _ _ => rfl⟩⟩, by simp [intOf]; omega⟩
                        rw [show s.val * 8 + p * 2 + (k + 1) = s.val * 8 + p * 2 + k + 1 by omega, HRS.out]
                        rfl
                      | false =>
                        go_wp2
                        refine ⟨⟨k + 1, hltk, by first | rfl | trivial, ?_, HFv.out.below ⟨rfl, rfl, rfl, Nat.le_refl _, fun _ _ => rfl⟩⟩, by simp [intOf]; omega⟩
                        rw [show s.val * 8 + p * 2 + (k + 1) = s.val * 8 + p * 2 + k + 1 by omega, HRS.out]
                        rfl
            · obtain rfl : 2 = k := by omega
              go_wp2
              refine ⟨⟨p + 1, hltp, by first | rfl | trivial, ?_, HF7⟩, by simp [intOf]; omega⟩
              rw [hcn.out, show s.val * 8 + p * 2 + 2 = s.val * 8 + (p + 1) * 2 by omega]
        · obtain rfl : 4 = p := by omega
          go_wp2
          refine ⟨⟨s.val + 1, hlt, by first | rfl | trivial, ?_, HF6⟩, by simp [intOf]; omega⟩
          rw [show s.val * 8 + 4 * 2 = (s.val + 1) * 8 by omega]
    · obtain rfl : 4 = i := by omega
      have hct := HF5.out.count
      rw [show 4 * 8 = 32 from rfl, ← hct]
      clear hct
      go_wp2
      exact b24 _ _ _ _ _ _ _ _ _ _ _ _ _ _ _ _ _ _ _ _ _ _ _ _ HF5
end Go.Proofs.YbulkcrxoDoor.F
