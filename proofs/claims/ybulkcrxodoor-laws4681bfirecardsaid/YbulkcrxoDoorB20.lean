/-
  LawS4681BFire: each session has its frames
-/
import Derived.Test.YbulkcrxoDoorB21
import Derived.Deep.DeepCutAuto
import Derived.Deep.CutBlock
import Derived.Deep.RegionWith
import Derived.Deep.RegionLaw
set_option linter.unusedVariables false
namespace Go.Proofs.YbulkcrxoDoor.F
open Go.RowKit Go.Any
open Go.ChangeMaps (setBlock)

theorem eq27 (w : World) (c : Option (Nat × Bool)) : (binOp .eql 27 (.pointer (c.map fun x => ⟨x.1, 0, none⟩)) (.pointer none)).run Ybad.prog w = .ok (.bool c.isNone) w := by
  cases c with
  | none => kernel_rfl
  | some x =>
    have h : ∀ d : Nat, (Op.equalIn (d + 1) 27 (.pointer (some ⟨x.1, 0, none⟩)) (.pointer none)).run Ybad.prog w = .ok false w := fun d => by
      simp [Op.equalIn, run_underlying Ybad.underlying27]
    simp only [binOp]
    simp [Op.equal, Op.maxDepth, h 9999]

set_option maxHeartbeats 100000000 in
set_option maxRecDepth 1000000 in
theorem b20 {c0 c1 c2 c3 c4 c5 c6 c7 c8 c17 c19 c20 c21 c22 c23 c24 c25 c31 c32 c33 c34 c35 c36 c37 c38 c39 c40 c41 c42 c43 c44 c45 c46 c47 c48 c49 c50 c51 c52 c53 c54 c55 c56 c57 c58 c59 c60 c61 c62 c63 c64 c65 c66 c67 c68 c69 c70 c71 c72 c73 c74 c75 c76 c77 c78 c79 c80 c81 c82 c83 c84 c85 c86 c87 c88 c89 c90 c91 c92 c93 c94 c95 c96 c97 c98 c99 c100 c101 c102 c103 c104 c105 c106 c107 c108 c109 c110 c111 c112 c113 c114 c115 c116 c117 c118 c119 c120 c121 c122 c123 c124 c125 c126 c127 c128 c129 c130 c131 c132 c133 c134 c135 c136 c137 c138 c139 c140 c141 c142 c143 c144 c145 c146 c147 c148 c149 c150 c151 c152 c153 c154 c155 c156 c157 c158 c159 c160 c161 c162 c163 c164 c165 c166 c167 c168 c169 c170 c171 c172 c173 c174 c175 c176 c177 c178 c179 c180 c181 c182 c183 c184 c185 c186 c187 c188 c189 c190 c191 c192 c193 c194 c195 c196 c197 c198 c199 c200 c201 c202 c203 c204 c205 c206 c207 c208 c209 c210 c211 c212 c213 c214 c215 c216 c217 c218 c219 c220 c221 c222 c223 c224 c225 c226 c227 c228 c229 c230 c231 c232 c233 c234 c235 c236 c237 c238 c239 c240 c241 c242 c243 c244 c245 c246 c247 c248 c249 c250 c251 c252 c253 c254 c255 c256 c257 c258 c259 c260 c261 c262 c263 c264 c265 c266 c267 c268 c269 c270 c271 c272 c273 c274 c275 c276 c277 c278 c279 c280 c281 c282 c283 c284 c285 c286 c287 c288 c289 c290 c291 c292 c293 c294 c295 c296 c297 c298 c299 c300 c301 c302 c303 c304 c305 c306 c307 c308 c309 c310 c311 c312 c313 c314 c315 c316 c317 c318 c319 c320 c321 c322 c323 c324 c325 c326 c327 c328 c329 c330 c331 c332 c333 c334 c335 c336 c337 c338 c339 c340 c341 c342 c343 c344 c345 c346 c347 c348 c349 c350 c351 c352 c353 c354 c355 c356 c357 c358 c359 c360 c361 c362 c363 c364 c365 c366 c367 c368 c369 c370 c371 c372 c373 c374 c375 c376 c377 c378 c379 c380 c381 c382 c383 c384 c385 c386 c387 c388 c389 c390 c391 c392 c393 c394 c395 c396 c397 c398 c399 c400 c401 c402 c403 c404 c405 c406 c407 c408 c409 c410 c411 c412 c413 c414 c415 c416 c417 c418 c419 c420 c421 c422 c423 c424 c425 c426 c427 c428 c429 c430 c431 c432 c433 c434 c435 c436 c437 c438 c439 c440 c441 c442 c443 c444 c445 c446 c447 c448 c449 c450 c451 c452 c453 c454 c455 c456 c457 c458 c459 c460 c461 c462 c463 c464 c465 c466 c467 c468 c469 c470 c471 c472 c473 c474 c475 c476 c477 c478 c479 c480 c481 c482 c483 c484 c485 c486 c487 c488 c489 c490 c491 c492 c493 c494 c495 c496 c497 c498 c499 c500 c501 c502 c503 c504 c505 c506 c507 : Value} (w wz : World) (T V SA CA HBk AB : Nat) (SB : Fin 4 → Nat) (CB : Fin 4 → Option (Nat × Bool)) (IK : Key → Nat) (JS : Fin 4 → Nat) (ρ : Nat → Role) (A : Nat → Wt) (N ev fp : Nat) (A' : Nat → Wt) (N' : Nat) (D1 D2 : Fin 4 → Bool) (F1 F2 : Nat) (RB : Fin 4 → Option Nat)
    (HF : Hid (Fe w wz T V SA CA HBk AB SB CB IK JS ρ A N ev fp A' N' D1 D2 F1 F2 RB)) (bD bH bP : Bool) (hbits : Hid (bD = tD ev ∧ bH = tH ev ∧ bP = tP ev)) (hf : 1 ≤ fp ∧ fp ≤ 3) (pp : Nat) (hpp : Hid (pp = pr fp)) (p1 p2 : ByteArray) (hp1 : Hid (p1 = pb fp)) (hp2 : Hid (p2 = pb pp)) (hev : ev ≤ 4) :
    Code.wp Ybad.prog (restB 20) (bodyPost Ybad.prog Ybad.f4 fun e w' => e = .returned (.bool true) ∧ Below w.heap.size w w') ⟨#[c0, c1, c2, c3, c4, c5, c6, c7, c8, .int .i32 (ev : Int), .int .i64 (fp : Int), .int .i64 (pp : Int), .string p1, .string p2, .pointer (some ⟨T + 2, 0, none⟩), .pointer (some ⟨SA, 0, none⟩), .pointer (some ⟨CA, 0, none⟩), c17, .pointer (some ⟨HBk, 0, none⟩), c19, c20, c21, c22, c23, c24, c25, .pointer (some ⟨V, 0, none⟩), .bool bD, .bool bH, .bool bP, .int .i64 0, c31, c32, c33, c34, c35, c36, c37, c38, c39, c40, c41, c42, c43, c44, c45, c46, c47, c48, c49, c50, c51, c52, c53, c54, c55, c56, c57, c58, c59, c60, c61, c62, c63, c64, c65, c66, c67, c68, c69, c70, c71, c72, c73, c74, c75, c76, c77, c78, c79, c80, c81, c82, c83, c84, c85, c86, c87, c88, c89, c90, c91, c92, c93, c94, c95, c96, c97, c98, c99, c100, c101, c102, c103, c104, c105, c106, c107, c108, c109, c110, c111, c112, c113, c114, c115, c116, c117, c118, c119, c120, c121, c122, c123, c124, c125, c126, c127, c128, c129, c130, c131, c132, c133, c134, c135, c136, c137, c138, c139, c140, c141, c142, c143, c144, c145, c146, c147, c148, c149, c150, c151, c152, c153, c154, c155, c156, c157, c158, c159, c160, c161, c162, c163, c164, c165, c166, c167, c168, c169, c170, c171, c172, c173, c174, c175, c176, c177, c178, c179, c180, c181, c182, c183, c184, c185, c186, c187, c188, c189, c190, c191, c192, c193, c194, c195, c196, c197, c198, c199, c200, c201, c202, c203, c204, c205, c206, c207, c208, c209, c210, c211, c212, c213, c214, c215, c216, c217, c218, c219, c220, c221, c222, c223, c224, c225, c226, c227, c228, c229, c230, c231, c232, c233, c234, c235, c236, c237, c238, c239, c240, c241, c242, c243, c244, c245, c246, c247, c248, c249, c250, c251, c252, c253, c254, c255, c256, c257, c258, c259, c260, c261, c262, c263, c264, c265, c266, c267, c268, c269, c270, c271, c272, c273, c274, c275, c276, c277, c278, c279, c280, c281, c282, c283, c284, c285, c286, c287, c288, c289, c290, c291, c292, c293, c294, c295, c296, c297, c298, c299, c300, c301, c302, c303, c304, c305, c306, c307, c308, c309, c310, c311, c312, c313, c314, c315, c316, c317, c318, c319, c320, c321, c322, c323, c324, c325, c326, c327, c328, c329, c330, c331, c332, c333, c334, c335, c336, c337, c338, c339, c340, c341, c342, c343, c344, c345, c346, c347, c348, c349, c350, c351, c352, c353, c354, c355, c356, c357, c358, c359, c360, c361, c362, c363, c364, c365, c366, c367, c368, c369, c370, c371, c372, c373, c374, c375, c376, c377, c378, c379, c380, c381, c382, c383, c384, c385, c386, c387, c388, c389, c390, c391, c392, c393, c394, c395, c396, c397, c398, c399, c400, c401, c402, c403, c404, c405, c406, c407, c408, c409, c410, c411, c412, c413, c414, c415, c416, c417, c418, c419, c420, c421, c422, c423, c424, c425, c426, c427, c428, c429, c430, c431, c432, c433, c434, c435, c436, c437, c438, c439, c440, c441, c442, c443, c444, c445, c446, c447, c448, c449, c450, c451, c452, c453, c454, c455, c456, c457, c458, c459, c460, c461, c462, c463, c464, c465, c466, c467, c468, c469, c470, c471, c472, c473, c474, c475, c476, c477, c478, c479, c480, c481, c482, c483, c484, c485, c486, c487, c488, c489, c490, c491, c492, c493, c494, c495, c496, c497, c498, c499, c500, c501, c502, c503, c504, c505, c506, c507], []⟩ wz := by
  conv => arg 2; whnf
  have hpp4 : pp < 4 := by rw [hpp.out]; unfold pr; split <;> omega
  have hs1 : p1.size ≤ 8 := by rw [hp1.out]; exact pb_size _
  have hs2 : p2.size ≤ 8 := by rw [hp2.out]; exact pb_size _
  have hfp' : (fp : Int) < 4 := by omega
  have hpp' : (pp : Int) < 4 := by omega
  go_wp2_with fail
  rename_i K3 h3
  have HS3 : ∀ a w, StopB (restB 21) _ a w → K3 a w := h3
  clear h3
  go_loopw [30, 31] (fun sv iv wx => ∃ i : Nat, i ≤ 4 ∧ iv = .int .i64 i ∧ sv = .int .i64 (sn D1 D2 CB i) ∧ Hid (Fe w wx T V SA CA HBk AB SB CB IK JS ρ A N ev fp A' N' D1 D2 F1 F2 RB)) (fun _ iv _ => 4 - (intOf iv).toNat)
  case atStart => exact ⟨0, by omega, rfl, rfl, HF⟩
  case round =>
    obtain ⟨i, hi, rfl, rfl, HF3⟩ := hrel
    clear HF
    by_cases hlt : i < 4
    · obtain ⟨s, rfl⟩ : ∃ s : Fin 4, i = s.val := ⟨⟨i, hlt⟩, rfl⟩
      have hs4' : (s.val : Int) < 4 := by omega
      have hes : (s.val : Int).toNat = s.val := by simp
      obtain ⟨xa, hxa⟩ : ∃ b, Hid (b = hasB A N ((pb fp, 0), s)) := ⟨_, rfl⟩
      obtain ⟨xc, hxc⟩ : ∃ b, Hid (b = hasB A N ((pb fp, 1), s)) := ⟨_, rfl⟩
      obtain ⟨xe, hxe⟩ : ∃ b, Hid (b = hasB A N ((pb pp, 1), s)) := ⟨_, rfl⟩
      have ha : wr.cell? ⟨HBk, s.val * 8 + fp * 2, none⟩ = some (.bool (hasB A N ((pb fp, 0), s))) := HF3.out.hs s fp 0 (by omega) (by omega)
      have hc : wr.cell? ⟨HBk, s.val * 8 + fp * 2 + 1, none⟩ = some (.bool (hasB A N ((pb fp, 1), s))) := HF3.out.hs s fp 1 (by omega) (by omega)
      have he : wr.cell? ⟨HBk, s.val * 8 + pp * 2 + 1, none⟩ = some (.bool (hasB A N ((pb pp, 1), s))) := HF3.out.hs s pp 1 (by omega) (by omega)
      rw [← hxa.out] at ha
      rw [← hxc.out] at hc
      rw [← hxe.out] at he
      obtain ⟨d1, hd1⟩ : ∃ b, Hid (b = D1 s) := ⟨_, rfl⟩
      obtain ⟨d2, hd2⟩ : ∃ b, Hid (b = D2 s) := ⟨_, rfl⟩
      have hg1 : Hid (((xa && bD) || (xc && bH)) = d1) := by rw [hxa.out, hxc.out, hbits.out.1, hbits.out.2.1, hd1.out]; exact HF3.out.g1 s
      have hg2 : Hid ((xe && bP) = d2) := by rw [hxe.out, hbits.out.2.2, hd2.out, hpp.out]; exact HF3.out.g2 s
      obtain ⟨sq, hsq⟩ : ∃ x, Hid (x = sn D1 D2 CB s.val) := ⟨_, rfl⟩
      have hsb := sn_bd D1 D2 CB s.val
      rw [← hsq.out] at hsb ⊢
      go_upto_region 48 with fail
      go_cut [32] (fun v wy => v = .bool d1 ∧ wy = wr)
      case first =>
        as_aux_lemma =>
          have hg := hg1.out
          cases xa with
          | true =>
            cases bD with
            | true =>
              go_wp2_with fail
              go_meet
              exact ⟨by rw [← hg]; rfl, rfl⟩
            | false => cases xc <;> (go_wp2_with fail) <;> go_meet <;> exact ⟨by rw [← hg]; rfl, rfl⟩
          | false => cases xc <;> (go_wp2_with fail) <;> go_meet <;> exact ⟨by rw [← hg]; rfl, rfl⟩
      case rest =>
        obtain ⟨rfl, hwc⟩ := hcut
        subst hwc
        clear ha hc
        go_upto_region 49 with fail
        go_cut [33] (fun v wy => v = .bool d2 ∧ wy = wc)
        case first =>
          have hg := hg2.out
          cases xe <;> (go_wp2_with fail) <;> go_meet <;> exact ⟨by first | (rw [← hg]; done) | (rw [← hg]; rfl), rfl⟩
        case rest =>
          obtain ⟨rfl, hwc⟩ := hcut
          subst hwc
          clear he
          obtain ⟨n1, hn1⟩ : ∃ x, Hid (x = nn d1 false) := ⟨_, rfl⟩
          obtain ⟨n2, hn2⟩ : ∃ x, Hid (x = nn d1 d2) := ⟨_, rfl⟩
          have hn1b : n1 ≤ 2 := by rw [hn1.out]; exact nn_le _ _
          have hn2b : n2 ≤ 2 := by rw [hn2.out]; exact nn_le _ _
          go_upto_if 264 with fail
          go_cut [34] (fun v wy => v = .int .i64 (n1 : Int) ∧ wy = wc)
          case first =>
            cases d1 <;> (go_wp2_with fail) <;> go_meet <;> exact ⟨by first | (rw [hn1.out]; done) | (rw [hn1.out]; rfl), rfl⟩
          case rest =>
            obtain ⟨rfl, hwc⟩ := hcut
            subst hwc
            go_upto_if 267 with fail
            go_cut [34] (fun v wy => v = .int .i64 (n2 : Int) ∧ wy = wc)
            case first =>
              cases d2 with
              | true =>
                go_wp2_with fail
                go_meet
                refine ⟨?_, rfl⟩
                have : n2 = n1 + 1 := by rw [hn1.out, hn2.out]; cases d1 <;> rfl
                rw [this]; rfl
              | false =>
                go_wp2_with fail
                go_meet
                exact ⟨by rw [hn1.out, hn2.out], rfl⟩
            case rest =>
              obtain ⟨rfl, hwc⟩ := hcut
              subst hwc
              obtain ⟨cb, hcb⟩ : ∃ x, Hid (x = CB s) := ⟨_, rfl⟩
              obtain ⟨fb, hfb⟩ : ∃ x, Hid (x = pk d1 F1 F2) := ⟨_, rfl⟩
              obtain ⟨fl, hfl⟩ : ∃ x, Hid (x = pk d1 (32 + p1.size) (32 + p2.size)) := ⟨_, rfl⟩
              have hflb : ∀ j, fl j ≤ 40 := fun j => by rw [hfl.out]; unfold pk; split <;> omega
              have HV : Hid (Vw wc (SB s) d1 d2 fb fl cb) := by
                rw [hfb.out, hfl.out, hcb.out, hp1.out, hp2.out, hpp.out, hd1.out, hd2.out]
                exact HF3.out.vw s
              have gs := HF3.out.sa s
              have gc := HF3.out.ca s
              rw [← hcb.out] at gc
              obtain ⟨sq', hsq'⟩ : ∃ x, Hid (x = sn D1 D2 CB (s.val + 1)) := ⟨_, rfl⟩
              have hst : Hid (sq' = sq + if isOpen cb = true then ((n2 : Nat) : Int) else 0) := by
                rw [hsq'.out, hsq.out, hcb.out, hn2.out, hd1.out, hd2.out]
                exact sn_step D1 D2 CB s
              have E27 := fun w => eq27 w cb
              go_upto_if 273 with fail
              clear E27
              go_cut [35, 30] (fun fv sv wy => wy = wc ∧ sv = .int .i64 sq' ∧ Hid (Rw wc fv n2 fb fl))
              case first =>
                as_aux_lemma =>
                  match cb, HV, hst with
                  | none, HV, hst =>
                    obtain ⟨v, G1, G2⟩ := HV.out
                    have c19 := G1.c19
                    have HG : Hid (Rw wc v n2 fb fl) := by rw [hn2.out]; exact G2
                    clear G1 G2
                    go_wp2_with fail
                    go_meet
                    refine ⟨rfl, ?_, HG⟩
                    rw [hst.out]
                    simp [isOpen]
                  | some (C, true), HV, hst =>
                    obtain ⟨G1, G2⟩ := HV.out
                    have c19 := G1.c19
                    have c12 := G2.c12
                    have c13 := G2.c13
                    have c14 := G2.c14
                    clear G1 G2
                    go_wp2
                    refine ⟨⟨s.val + 1, hlt, by first | rfl | trivial, ?_, HF3⟩, by simp [intOf]; omega⟩
                    rw [← hsq'.out, hst.out]
                    simp [isOpen]
                  | some (C, false), HV, hst =>
                    obtain ⟨G1, v, G2, G3⟩ := HV.out
                    have c19 := G1.c19
                    have c12 := G2.c12
                    have c13 := G2.c13
                    have c14 := G2.c14
                    rw [← hn2.out] at c13 G3
                    have HG : Hid (Rw wc v n2 fb fl) := G3
                    clear G1 G2 G3
                    obtain ⟨ao, cap, rfl, hcap, hrow⟩ := HG.out
                    go_wp2_with fail
                    go_loopw [36, 322] (fun qv jv wx => ∃ j : Nat, j ≤ n2 ∧ jv = .int .i64 j ∧ qv = .int .i64 ((sm fl j : Nat) : Int) ∧ wx = wc) (fun _ jv _ => n2 - (intOf jv).toNat)
                    case atStart => exact ⟨0, by omega, rfl, rfl, rfl⟩
                    case round =>
                      obtain ⟨j, hj, rfl, rfl, hwx⟩ := hrel
                      have hwx := hwx.symm
                      subst hwx
                      by_cases hlj : j < n2
                      · have hlj' : (j : Int) < n2 := by omega
                        obtain ⟨g, rfl, x0⟩ := hrow j hlj
                        have hfj := hflb j
                        have hsj : sm fl j ≤ j * 40 := sm_le hflb j
                        obtain ⟨lj, hlj2⟩ : ∃ x, Hid (x = fl j) := ⟨_, rfl⟩
                        obtain ⟨qa, hqa⟩ : ∃ x, Hid (x = sm fl j) := ⟨_, rfl⟩
                        rw [← hlj2.out] at hfj x0
                        rw [← hqa.out] at hsj ⊢
                        clear hrow
                        go_wp2
                        refine ⟨⟨j + 1, hlj, by first | rfl | trivial, ?_, by first | rfl | trivial⟩, by simp [intOf]; omega⟩
                        rw [show sm fl (j + 1) = qa + lj by rw [hqa.out, hlj2.out]; rfl]
                        rfl
                      · obtain rfl : n2 = j := by omega
                        go_wp2_with fail
                        go_meet
                        refine ⟨rfl, ?_, HG⟩
                        rw [hst.out]
                        simp [isOpen]
              case rest =>
                as_aux_lemma =>
                  obtain ⟨hwc, rfl, HG⟩ := hcut
                  subst hwc
                  clear gs gc HV
                  obtain ⟨ao, cap, rfl, hcap, hrow⟩ := HG.out
                  have C1 : d1 = true → Calls Ybad.prog 15 #[.slice (some ⟨F1, 0, none⟩) (32 + p1.size) 64, .int .i32 (ev : Int), .string p1] wc fun e w' => e = .returned (.bool true) ∧ Below wc.heap.size wc w' := fun h => by
                    have h1 := HF3.out.r1 s (hd1.out.symm.trans h)
                    rw [← hp1.out] at h1
                    exact bframe F1 ev p1 wc hs1 (by omega) h1.1 h1.2
                  have C2 : ∀ w', Below wc.heap.size wc w' → d2 = true → Calls Ybad.prog 15 #[.slice (some ⟨F2, 0, none⟩) (32 + p2.size) 64, .int .i32 4, .string p2] w' fun e w'' => e = .returned (.bool true) ∧ Below w'.heap.size w' w'' := fun w' k h => by
                    have h1 := (HF3.out.below k).r2 s (hd2.out.symm.trans h)
                    rw [← hpp.out, ← hp2.out] at h1
                    exact bframe F2 4 p2 w' hs2 (by omega) h1.1 h1.2
                  have HC : Hid (d1 = true → Calls Ybad.prog 15 #[.slice (some ⟨F1, 0, none⟩) (32 + p1.size) 64, .int .i32 (ev : Int), .string p1] wc fun e w' => e = .returned (.bool true) ∧ Below wc.heap.size wc w') := C1
                  have HC2 : Hid (∀ w', Below wc.heap.size wc w' → d2 = true → Calls Ybad.prog 15 #[.slice (some ⟨F2, 0, none⟩) (32 + p2.size) 64, .int .i32 4, .string p2] w' fun e w'' => e = .returned (.bool true) ∧ Below w'.heap.size w' w'') := C2
                  clear C1 C2

                  cases d1 with
                  | false =>
                    cases d2 with
                    | false =>
                      obtain rfl : n2 = 0 := hn2.out
                      clear hrow
                      go_wp2
                      exact ⟨⟨s.val + 1, hlt, by first | rfl | trivial, by rw [hsq'.out], HF3⟩, by simp [intOf]; omega⟩
                    | true =>
                      obtain rfl : n2 = 1 := hn2.out
                      obtain ⟨g, rfl, x0⟩ := hrow 0 (by omega)
                      rw [show fb 0 = F2 by rw [hfb.out]; rfl, show fl 0 = 32 + p2.size by rw [hfl.out]; rfl] at x0
                      clear hrow
                      go_wp2_with (go_at_call 15; refine (HC2.out wc (Below.refl _ _) rfl).mono ?_; rintro e w1 ⟨rfl, k1⟩)
                      go_wp2
                      exact ⟨⟨s.val + 1, hlt, by first | rfl | trivial, by rw [hsq'.out], HF3.out.below k1⟩, by simp [intOf]; omega⟩
                  | true =>
                    have hn0 : 0 < n2 := by rw [hn2.out]; cases d2 <;> decide
                    obtain ⟨g, rfl, x0⟩ := hrow 0 hn0
                    have hx1 : ∀ j, j < n2 → wc.cell? ⟨g, j, none⟩ = some (.slice (some ⟨fb j, 0, none⟩) (fl j) 64) := fun j hj => by
                      obtain ⟨g', e, x⟩ := hrow j hj
                      injection e with e
                      injection e with e
                      rw [e]
                      exact x
                    have HX1 : Hid (∀ j, j < n2 → wc.cell? ⟨g, j, none⟩ = some (.slice (some ⟨fb j, 0, none⟩) (fl j) 64)) := hx1
                    rw [show fb 0 = F1 by rw [hfb.out]; rfl, show fl 0 = 32 + p1.size by rw [hfl.out]; rfl] at x0
                    clear hrow hx1
                    cases d2 with
                    | false =>
                      obtain rfl : n2 = 1 := hn2.out
                      go_wp2_with (go_at_call 15; refine (HC.out rfl).mono ?_; rintro e w1 ⟨rfl, k1⟩)
                      go_wp2
                      exact ⟨⟨s.val + 1, hlt, by first | rfl | trivial, by rw [hsq'.out], HF3.out.below k1⟩, by simp [intOf]; omega⟩
                    | true =>
                      obtain rfl : n2 = 2 := hn2.out
                      have x1 := HX1.out 1 (by omega)
                      rw [show fb 1 = F2 by rw [hfb.out]; rfl, show fl 1 = 32 + p2.size by rw [hfl.out]; rfl] at x1
                      go_upto_region 80 with (go_at_call 15; refine (HC.out rfl).mono ?_; rintro e w1 ⟨rfl, k1⟩)
                      have K1 : Hid (Below wc.heap.size wc w1) := k1
                      have x2 := (k1.cell (p := ⟨g, 1, none⟩) (World.block_lt_of_cell? _ _ x1)).trans x1
                      clear x0 x1 k1
                      go_wp2_with fail
                      refine (HC2.out w1 K1.out (by first | rfl | trivial)).mono ?_
                      rintro e w2 ⟨rfl, k2⟩
                      go_wp2
                      exact ⟨⟨s.val + 1, hlt, by first | rfl | trivial, by rw [hsq'.out], (HF3.out.below K1.out).below k2⟩, by simp [intOf]; omega⟩
    · obtain rfl : 4 = i := by omega
      go_wp2
      exact b21 _ _ _ _ _ _ _ _ _ _ _ _ _ _ _ _ _ _ _ _ _ _ _ _ HF3 bD bH bP hbits hf pp hpp
end Go.Proofs.YbulkcrxoDoor.F
