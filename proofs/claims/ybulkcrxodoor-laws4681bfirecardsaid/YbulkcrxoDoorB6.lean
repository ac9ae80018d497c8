/-
  LawS4681BFire: the sessions
-/
import Derived.Test.YbulkcrxoDoorB12
import Derived.Deep.DeepCutAuto
import Derived.Deep.CutBlock
import Derived.Deep.RegionWith
import Derived.Deep.RegionLaw
set_option linter.unusedVariables false
namespace Go.Proofs.YbulkcrxoDoor.F
open Go.RowKit Go.Any
open Go.ChangeMaps (setBlock)

set_option maxHeartbeats 100000000 in
set_option maxRecDepth 1000000 in
theorem b6 {c1 c2 c4 c5 c6 c7 c8 c12 c13 c14 c15 c16 c17 c18 c19 c20 c21 c22 c23 c24 c25 c26 c27 c28 c29 c30 c31 c32 c33 c34 c35 c36 c37 c38 c39 c40 c41 c42 c43 c44 c45 c46 c47 c48 c49 c50 c51 c52 c53 c54 c55 c56 c57 c58 c59 c60 c61 c62 c63 c64 c65 c66 c67 c68 c69 c70 c71 c72 c73 c74 c75 c76 c77 c78 c79 c80 c81 c82 c83 c84 c85 c86 c87 c88 c89 c90 c91 c92 c93 c94 c95 c96 c97 c98 c99 c100 c101 c102 c103 c104 c105 c106 c107 c108 c109 c110 c111 c112 c113 c114 c115 c116 c117 c118 c119 c120 c121 c122 c123 c124 c125 c126 c127 c128 c129 c130 c131 c132 c133 c134 c135 c136 c137 c138 c139 c140 c141 c142 c143 c144 c145 c146 c147 c148 c149 c150 c151 c152 c153 c154 c155 c156 c157 c158 c159 c160 c161 c162 c163 c164 c165 c166 c167 c168 c169 c170 c171 c172 c173 c174 c175 c176 c177 c178 c179 c180 c181 c182 c183 c184 c185 c186 c187 c188 c189 c190 c191 c192 c193 c194 c195 c196 c197 c198 c199 c200 c201 c202 c203 c204 c205 c206 c207 c208 c209 c210 c211 c212 c213 c214 c215 c216 c217 c218 c219 c220 c221 c222 c223 c224 c225 c226 c227 c228 c229 c230 c231 c232 c233 c234 c235 c236 c237 c238 c239 c240 c241 c242 c243 c244 c245 c246 c247 c248 c249 c250 c251 c252 c253 c254 c255 c256 c257 c258 c259 c260 c261 c262 c263 c264 c265 c266 c267 c268 c269 c270 c271 c272 c273 c274 c275 c276 c277 c278 c279 c280 c281 c282 c283 c284 c285 c286 c287 c288 c289 c290 c291 c292 c293 c294 c295 c296 c297 c298 c299 c300 c301 c302 c303 c304 c305 c306 c307 c308 c309 c310 c311 c312 c313 c314 c315 c316 c317 c318 c319 c320 c321 c322 c323 c324 c325 c326 c327 c328 c329 c330 c331 c332 c333 c334 c335 c336 c337 c338 c339 c340 c341 c342 c343 c344 c345 c346 c347 c348 c349 c350 c351 c352 c353 c354 c355 c356 c357 c358 c359 c360 c361 c362 c363 c364 c365 c366 c367 c368 c369 c370 c371 c372 c373 c374 c375 c376 c377 c378 c379 c380 c381 c382 c383 c384 c385 c386 c387 c388 c389 c390 c391 c392 c393 c394 c395 c396 c397 c398 c399 c400 c401 c402 c403 c404 c405 c406 c407 c408 c409 c410 c411 c412 c413 c414 c415 c416 c417 c418 c419 c420 c421 c422 c423 c424 c425 c426 c427 c428 c429 c430 c431 c432 c433 c434 c435 c436 c437 c438 c439 c440 c441 c442 c443 c444 c445 c446 c447 c448 c449 c450 c451 c452 c453 c454 c455 c456 c457 c458 c459 c460 c461 c462 c463 c464 c465 c466 c467 c468 c469 c470 c471 c472 c473 c474 c475 c476 c477 c478 c479 c480 c481 c482 c483 c484 c485 c486 c487 c488 c489 c490 c491 c492 c493 c494 c495 c496 c497 c498 c499 c500 c501 c502 c503 c504 c505 c506 c507 : Value} (w : World) (wa : Option Addr) (nw wcap cn0 : Nat) (wp wq wk : Nat → Nat) (ei en fp pp : Nat) (HW : Hid (Ws w wa nw wp wq wk)) (HE : Hid (2 ≤ w.heap.size ∧ w.cell? ⟨1, 0, none⟩ = some (.int .i32 (-1)) ∧ w.cell? ⟨1, 1, none⟩ = some (.int .i64 (-1)) ∧ w.cell? ⟨1, 2, none⟩ = some (.int .i32 0))) (hnw : nw ≤ 1024) (hcn0 : cn0 < 256) (hei5 : ei < 5) (hen : Hid (en = evn ei)) (hpp : Hid (pp = pr fp)) (hpp4 : pp < 4) (hfp13 : 1 ≤ fp ∧ fp ≤ 3) :
    Code.wp Ybad.prog (restB 6) (bodyPost Ybad.prog Ybad.f4 fun e w' => e = .returned (.bool true) ∧ Below w.heap.size w w') ⟨#[.slice wa nw wcap, c1, c2, .int .u8 (cn0 : Int), c4, c5, c6, c7, c8, .int .i32 (en : Int), .int .i64 (fp : Int), .int .i64 (pp : Int), c12, c13, c14, c15, c16, c17, c18, c19, c20, c21, c22, c23, c24, c25, c26, c27, c28, c29, c30, c31, c32, c33, c34, c35, c36, c37, c38, c39, c40, c41, c42, c43, c44, c45, c46, c47, c48, c49, c50, c51, c52, c53, c54, c55, c56, c57, c58, c59, c60, c61, c62, c63, c64, c65, c66, c67, c68, c69, c70, c71, c72, c73, c74, c75, c76, c77, c78, c79, c80, c81, c82, c83, c84, c85, c86, c87, c88, c89, c90, c91, c92, c93, c94, c95, c96, c97, c98, c99, c100, c101, c102, c103, c104, c105, c106, c107, c108, c109, c110, c111, c112, c113, c114, c115, c116, c117, c118, c119, c120, c121, c122, c123, c124, c125, c126, c127, c128, c129, c130, c131, c132, c133, c134, c135, c136, c137, c138, c139, c140, c141, c142, c143, c144, c145, c146, c147, c148, c149, c150, c151, c152, c153, c154, c155, c156, c157, c158, c159, c160, c161, c162, c163, c164, c165, c166, c167, c168, c169, c170, c171, c172, c173, c174, c175, c176, c177, c178, c179, c180, c181, c182, c183, c184, c185, c186, c187, c188, c189, c190, c191, c192, c193, c194, c195, c196, c197, c198, c199, c200, c201, c202, c203, c204, c205, c206, c207, c208, c209, c210, c211, c212, c213, c214, c215, c216, c217, c218, c219, c220, c221, c222, c223, c224, c225, c226, c227, c228, c229, c230, c231, c232, c233, c234, c235, c236, c237, c238, c239, c240, c241, c242, c243, c244, c245, c246, c247, c248, c249, c250, c251, c252, c253, c254, c255, c256, c257, c258, c259, c260, c261, c262, c263, c264, c265, c266, c267, c268, c269, c270, c271, c272, c273, c274, c275, c276, c277, c278, c279, c280, c281, c282, c283, c284, c285, c286, c287, c288, c289, c290, c291, c292, c293, c294, c295, c296, c297, c298, c299, c300, c301, c302, c303, c304, c305, c306, c307, c308, c309, c310, c311, c312, c313, c314, c315, c316, c317, c318, c319, c320, c321, c322, c323, c324, c325, c326, c327, c328, c329, c330, c331, c332, c333, c334, c335, c336, c337, c338, c339, c340, c341, c342, c343, c344, c345, c346, c347, c348, c349, c350, c351, c352, c353, c354, c355, c356, c357, c358, c359, c360, c361, c362, c363, c364, c365, c366, c367, c368, c369, c370, c371, c372, c373, c374, c375, c376, c377, c378, c379, c380, c381, c382, c383, c384, c385, c386, c387, c388, c389, c390, c391, c392, c393, c394, c395, c396, c397, c398, c399, c400, c401, c402, c403, c404, c405, c406, c407, c408, c409, c410, c411, c412, c413, c414, c415, c416, c417, c418, c419, c420, c421, c422, c423, c424, c425, c426, c427, c428, c429, c430, c431, c432, c433, c434, c435, c436, c437, c438, c439, c440, c441, c442, c443, c444, c445, c446, c447, c448, c449, c450, c451, c452, c453, c454, c455, c456, c457, c458, c459, c460, c461, c462, c463, c464, c465, c466, c467, c468, c469, c470, c471, c472, c473, c474, c475, c476, c477, c478, c479, c480, c481, c482, c483, c484, c485, c486, c487, c488, c489, c490, c491, c492, c493, c494, c495, c496, c497, c498, c499, c500, c501, c502, c503, c504, c505, c506, c507], []⟩ w := by
  conv => arg 2; whnf
  obtain ⟨p1, hp1⟩ : ∃ x, Hid (x = pb fp) := ⟨_, rfl⟩
  obtain ⟨p2, hp2⟩ : ∃ x, Hid (x = pb pp) := ⟨_, rfl⟩
  have c1 := bpath fp (by omega) w
  rw [← hp1.out] at c1
  have c2 := bpath pp (by omega) w
  rw [← hp2.out] at c2
  go_wp2_with (go_at_call 13; first | (refine c1.mono ?_; rintro e w1 ⟨rfl, hw1⟩; have hw1 := hw1.symm; subst hw1; clear c1) | (refine c2.mono ?_; rintro e w1 ⟨rfl, hw1⟩; have hw1 := hw1.symm; subst hw1; clear c2))
  refine (newTable w).mono ?_
  rintro e wt ⟨rfl, hwt⟩
  obtain ⟨T, hT⟩ : ∃ T, Hid (T = w.heap.size) := ⟨_, rfl⟩
  have B0 := Bd.start w (fun _ => 0)
  rw [← hwt, ← hT.out] at B0
  rw [← hT.out]
  have HB0 : Hid (∀ SB, Bd w wt T (.slice none 0 0) (.slice none 0 0) SB (fun _ => 0) (fun _ => 0) (ρ0 T) A0 0) := fun SB => by
    have := Bd.start w SB
    rw [← hwt, ← hT.out] at this
    exact this
  have hz0 : wt.heap.size = T + 3 := by rw [hwt, hT.out]; simp
  clear hwt B0
  go_wp2_with fail
  have Q0 : Hid (P1 wt ((wt.alloc (Obj.cells #[.pointer none, .pointer none, .pointer none, .pointer none] 26)).alloc (Obj.cells #[.pointer none, .pointer none, .pointer none, .pointer none] 28)) (T + 3) (T + 3) (T + 3 + 1) 0 (fun _ => 0) (fun _ => none)) := p1_start hz0
  generalize (wt.alloc (Obj.cells #[.pointer none, .pointer none, .pointer none, .pointer none] 26)).alloc (Obj.cells #[.pointer none, .pointer none, .pointer none, .pointer none] 28) = w1 at Q0 ⊢
  obtain ⟨SA, hSA⟩ : ∃ SA, Hid (SA = T + 3) := ⟨_, rfl⟩
  obtain ⟨CA, hCA⟩ : ∃ CA, Hid (CA = T + 3 + 1) := ⟨_, rfl⟩
  rw [← hCA.out] at Q0 ⊢
  rw [← hSA.out] at Q0 ⊢
  rename_i K1 h1
  have HS1 : ∀ a w, StopB (restB 12) _ a w → K1 a w := h1
  clear h1
  go_loopw [17] (fun v wr => ∃ (i : Nat) (SB : Fin 4 → Nat) (CB : Fin 4 → Option (Nat × Bool)), i ≤ 4 ∧ v = .int .i64 i ∧ Hid (P1 wt wr SA SA CA i SB CB)) (fun v _ => 4 - (intOf v).toNat)
  case atStart => exact ⟨0, _, _, by omega, rfl, Q0⟩
  case round =>
    obtain ⟨i, SB, CB, hi, rfl, Q⟩ := hrel
    clear Q0
    by_cases hlt : i < 4
    · have hlt' : (i : Int) < 4 := by omega
      obtain ⟨us, gs⟩ := Option.isSome_iff_exists.1 (Q.out.ts ⟨i, hlt⟩)
      have gc := Q.out.c0 ⟨i, hlt⟩ (Nat.le_refl _)
      have fs := fz Q.out.bs i
      have fc := fz Q.out.bc i
      have lS := Q.out.lS
      have lC := Q.out.lC
      have hk4 := Q.out.ne
      simp only at gs gc
      go_wp2_with fail
      · generalize (bits BinOp.and IntKind.u8 ((cn0 : Int) / 2 ^ (i + 4)) 1 == 1) = cl
        go_region
        all_goals
          go_wp2
          exact ⟨⟨i + 1, _, _, hlt, rfl, (step1 Q.out hlt cl).drew⟩, by simp [intOf]; omega⟩
      · exact ⟨⟨i + 1, _, _, hlt, rfl, step0 Q.out hlt⟩, by simp [intOf]; omega⟩
    · obtain rfl : i = 4 := by omega
      go_wp2
      exact b12 _ _ _ _ _ _ _ _ _ _ _ _ _ _ _ _ _ _ _ _ hT hSA hCA (fun SB => HB0.out SB) hz0 Q HW HE hnw hei5 hen hp1 hp2 hpp hfp13
end Go.Proofs.YbulkcrxoDoor.F
