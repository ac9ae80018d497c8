/-
  LawS4681AFires: the law behind the making of the sessions: the table is built.
-/
import Derived.Test.YbulkcrxoDoorFAMid
import Derived.Deep.DeepCutAuto
import Derived.Deep.CutBlock
import Derived.Deep.RegionWith
import Derived.Deep.RegionLaw
set_option linter.unusedVariables false
namespace Go.Proofs.YbulkcrxoDoor.F
open Go.RowKit Go.Any
open Go.ChangeMaps (setBlock)

set_option maxHeartbeats 100000000 in
set_option maxRecDepth 1000000 in
theorem abuild {c1 c5 c6 c7 c8 c9 c10 c13 c14 c15 c16 c17 c18 c19 c20 c21 c22 c23 c24 c25 c26 c27 c28 c29 c30 c31 c32 c33 c34 c35 c36 c37 c38 c39 c40 c41 c42 c43 c44 c45 c46 c47 c48 c49 c50 c51 c52 c53 c54 c55 c56 c57 c58 c59 c60 c61 c62 c63 c64 c65 c66 c67 c68 c69 c70 c71 c72 c73 c74 c75 c76 c77 c78 c79 c80 c81 c82 c83 c84 c85 c86 c87 c88 c89 c90 c91 c92 c93 c94 c95 c96 c97 c98 c99 c100 c101 c102 c103 c104 c105 c106 c107 c108 c109 c110 c111 c112 c113 c114 c115 c116 c117 c118 c119 c120 c121 c122 c123 c124 c125 c126 c127 c128 c129 c130 c131 c132 c133 c134 c135 c136 c137 c138 c139 c140 c141 c142 c143 c144 c145 c146 c147 c148 c149 c150 c151 c152 c153 c154 c155 c156 c157 c158 c159 c160 c161 c162 c163 c164 c165 c166 c167 c168 c169 c170 c171 c172 c173 c174 c175 c176 c177 c178 c179 c180 c181 c182 c183 c184 c185 c186 c187 c188 c189 c190 c191 c192 c193 c194 c195 c196 c197 c198 c199 c200 c201 c202 c203 c204 c205 c206 c207 c208 c209 c210 c211 c212 c213 c214 c215 c216 c217 c218 c219 c220 c221 c222 c223 c224 c225 c226 c227 c228 c229 c230 c231 c232 c233 c234 c235 c236 c237 c238 c239 c240 c241 c242 c243 c244 c245 c246 c247 c248 c249 c250 c251 c252 c253 c254 c255 c256 c257 c258 c259 c260 c261 c262 c263 c264 c265 c266 c267 c268 c269 c270 c271 c272 c273 c274 c275 c276 c277 c278 c279 c280 c281 c282 c283 c284 c285 c286 c287 c288 c289 c290 c291 c292 c293 c294 c295 c296 c297 c298 c299 c300 c301 c302 c303 c304 c305 c306 c307 c308 c309 c310 c311 c312 c313 c314 c315 c316 c317 c318 c319 c320 c321 c322 c323 c324 c325 c326 c327 c328 c329 c330 c331 c332 c333 c334 c335 c336 c337 c338 c339 c340 c341 c342 c343 c344 c345 c346 c347 c348 c349 c350 c351 c352 c353 c354 c355 c356 c357 c358 c359 c360 c361 c362 c363 c364 c365 c366 c367 c368 c369 c370 c371 c372 c373 c374 c375 c376 c377 c378 c379 c380 c381 c382 c383 c384 c385 c386 c387 c388 c389 c390 c391 c392 c393 c394 c395 c396 c397 c398 c399 c400 c401 c402 c403 c404 c405 c406 c407 c408 c409 c410 c411 c412 c413 c414 c415 c416 c417 c418 c419 c420 c421 c422 c423 c424 c425 c426 c427 c428 c429 c430 c431 c432 c433 c434 c435 c436 c437 c438 c439 c440 c441 c442 c443 c444 c445 c446 c447 c448 c449 c450 c451 c452 c453 c454 c455 c456 c457 c458 c459 c460 c461 c462 c463 c464 c465 c466 c467 c468 c469 c470 c471 c472 c473 c474 c475 c476 c477 c478 c479 c480 c481 c482 c483 c484 c485 c486 c487 c488 c489 c490 c491 c492 c493 c494 c495 c496 c497 : Value} (w w0 wS : World) (SA CA : Nat) (SB : Fin 4 → Nat) (CB : Fin 4 → Option (Nat × Bool)) (u : Nat) (wa : Option Addr) (nw wcap : Nat) (ev : Int) (ps : Nat) (ka : Option Addr) (nk kc : Nat) (wp wq wk kr : Nat → Nat)
    (hSA : Hid (SA = w.heap.size + 1)) (hCA : Hid (CA = w.heap.size + 1 + 1)) (Q : Hid (P1 w0 wS SA SA CA 4 SB CB)) (HBw : Hid (Below w.heap.size w wS)) (HW : Hid (Ws w wa nw wp wq wk)) (HKs : Hid (Ks w ka nk kr)) (HE : Hid (2 ≤ w.heap.size ∧ w.cell? ⟨1, 0, none⟩ = some (.int .i32 (-1)) ∧ w.cell? ⟨1, 1, none⟩ = some (.int .i64 (-1)) ∧ w.cell? ⟨1, 2, none⟩ = some (.int .i32 0))) (hnw : nw ≤ 1024) (hnk : nk ≤ 1024) (hps : ps < 256) (hwr : IntKind.u32.wrap ev = (u : Int)) (hu : u < 4294967296) :
    Code.wp Ybad.prog (restA 5) (bodyPost Ybad.prog Ybad.f3 fun e w' => e = .returned (.bool true) ∧ Below w.heap.size w w') ⟨#[.slice wa nw wcap, c1, .int .i32 ev, .int .u8 (ps : Int), .slice ka nk kc, c5, c6, c7, c8, c9, c10, .pointer (some ⟨SA, 0, none⟩), .pointer (some ⟨CA, 0, none⟩), c13, c14, c15, c16, c17, c18, c19, c20, c21, c22, c23, c24, c25, c26, c27, c28, c29, c30, c31, c32, c33, c34, c35, c36, c37, c38, c39, c40, c41, c42, c43, c44, c45, c46, c47, c48, c49, c50, c51, c52, c53, c54, c55, c56, c57, c58, c59, c60, c61, c62, c63, c64, c65, c66, c67, c68, c69, c70, c71, c72, c73, c74, c75, c76, c77, c78, c79, c80, c81, c82, c83, c84, c85, c86, c87, c88, c89, c90, c91, c92, c93, c94, c95, c96, c97, c98, c99, c100, c101, c102, c103, c104, c105, c106, c107, c108, c109, c110, c111, c112, c113, c114, c115, c116, c117, c118, c119, c120, c121, c122, c123, c124, c125, c126, c127, c128, c129, c130, c131, c132, c133, c134, c135, c136, c137, c138, c139, c140, c141, c142, c143, c144, c145, c146, c147, c148, c149, c150, c151, c152, c153, c154, c155, c156, c157, c158, c159, c160, c161, c162, c163, c164, c165, c166, c167, c168, c169, c170, c171, c172, c173, c174, c175, c176, c177, c178, c179, c180, c181, c182, c183, c184, c185, c186, c187, c188, c189, c190, c191, c192, c193, c194, c195, c196, c197, c198, c199, c200, c201, c202, c203, c204, c205, c206, c207, c208, c209, c210, c211, c212, c213, c214, c215, c216, c217, c218, c219, c220, c221, c222, c223, c224, c225, c226, c227, c228, c229, c230, c231, c232, c233, c234, c235, c236, c237, c238, c239, c240, c241, c242, c243, c244, c245, c246, c247, c248, c249, c250, c251, c252, c253, c254, c255, c256, c257, c258, c259, c260, c261, c262, c263, c264, c265, c266, c267, c268, c269, c270, c271, c272, c273, c274, c275, c276, c277, c278, c279, c280, c281, c282, c283, c284, c285, c286, c287, c288, c289, c290, c291, c292, c293, c294, c295, c296, c297, c298, c299, c300, c301, c302, c303, c304, c305, c306, c307, c308, c309, c310, c311, c312, c313, c314, c315, c316, c317, c318, c319, c320, c321, c322, c323, c324, c325, c326, c327, c328, c329, c330, c331, c332, c333, c334, c335, c336, c337, c338, c339, c340, c341, c342, c343, c344, c345, c346, c347, c348, c349, c350, c351, c352, c353, c354, c355, c356, c357, c358, c359, c360, c361, c362, c363, c364, c365, c366, c367, c368, c369, c370, c371, c372, c373, c374, c375, c376, c377, c378, c379, c380, c381, c382, c383, c384, c385, c386, c387, c388, c389, c390, c391, c392, c393, c394, c395, c396, c397, c398, c399, c400, c401, c402, c403, c404, c405, c406, c407, c408, c409, c410, c411, c412, c413, c414, c415, c416, c417, c418, c419, c420, c421, c422, c423, c424, c425, c426, c427, c428, c429, c430, c431, c432, c433, c434, c435, c436, c437, c438, c439, c440, c441, c442, c443, c444, c445, c446, c447, c448, c449, c450, c451, c452, c453, c454, c455, c456, c457, c458, c459, c460, c461, c462, c463, c464, c465, c466, c467, c468, c469, c470, c471, c472, c473, c474, c475, c476, c477, c478, c479, c480, c481, c482, c483, c484, c485, c486, c487, c488, c489, c490, c491, c492, c493, c494, c495, c496, c497], []⟩ wS := by
  conv => arg 2; whnf
  go_wp2_with fail
  refine (newTable wS).mono ?_
  rintro e wt ⟨rfl, hwt⟩
  have B0 := Bd.start wS SB
  rw [← hwt] at B0
  obtain ⟨T, hT⟩ : ∃ T, Hid (T = wS.heap.size) := ⟨_, rfl⟩
  rw [← hT.out] at B0 ⊢
  have HB0 : Hid (Bd wS wt T (.slice none 0 0) (.slice none 0 0) SB (fun _ => 0) (fun _ => 0) (ρ0 T) A0 0) := B0
  have HTw : Hid (w.heap.size + 3 ≤ T) := by
    have := hSA.out
    have := hCA.out
    have := hT.out
    have := Q.out.lC
    show _ ≤ _
    omega
  clear B0 hwt
  go_wp2_with fail
  rename_i K2 h2
  have HS2 : ∀ a w, Stop (restA 8) _ a w → K2 a w := h2
  clear h2
  go_loopw [17, 93] (fun lv iv wx => ∃ (lv0 : Value) (i N : Nat) (al : Value) (IK : Key → Nat) (JS : Fin 4 → Nat) (ρ : Nat → Role) (A : Nat → Wt), lv0 = lv ∧ i ≤ nw ∧ N ≤ i ∧ iv = .int .i64 i ∧ Hid (Bd wS wx T al lv SB IK JS ρ A N)) (fun _ iv _ => nw - (intOf iv).toNat)
  case atStart => exact ⟨_, 0, 0, _, _, _, _, _, rfl, by omega, by omega, rfl, HB0⟩
  case round =>
    obtain ⟨lv, i, N, al, IK, JS, ρ, A, rfl, hi, hNi, rfl, HB⟩ := hrel
    clear HB0
    by_cases hlt : i < nw
    · have hlt' : (i : Int) < nw := by omega
      obtain ⟨wb, off, rfl, g0, g1, g2⟩ := HW.out.c i hlt
      obtain ⟨xp, hxp⟩ : ∃ x, Hid (x = wp i) := ⟨_, rfl⟩
      obtain ⟨xq, hxq⟩ : ∃ x, Hid (x = wq i) := ⟨_, rfl⟩
      obtain ⟨xr, hxr⟩ : ∃ x, Hid (x = wk i) := ⟨_, rfl⟩
      have hp : xp < 256 := by rw [hxp.out]; exact HW.out.p i
      have hq : xq < 256 := by rw [hxq.out]; exact HW.out.q i
      have hr : xr < 256 := by rw [hxr.out]; exact HW.out.r i
      rw [← hxp.out] at g0
      rw [← hxq.out] at g1
      rw [← hxr.out] at g2
      have lb : wb < w.heap.size := World.block_lt_of_cell? _ _ g0
      have HBx : Hid (Below w.heap.size w wr) := HBw.out.trans (HB.out.bel.mono (by have := HTw.out; omega))
      replace g0 := (HBx.out.cell (p := ⟨wb, _, none⟩) lb).trans g0
      replace g1 := (HBx.out.cell (p := ⟨wb, _, none⟩) lb).trans g1
      replace g2 := (HBx.out.cell (p := ⟨wb, _, none⟩) lb).trans g2
      clear lb
      obtain ⟨kk, hkk⟩ : ∃ x, Hid (x = xr % 2) := ⟨_, rfl⟩
      obtain ⟨ss, hss⟩ : ∃ x : Fin 4, Hid (x.val = xp % 4) := ⟨⟨xp % 4, by omega⟩, rfl⟩
      have er : Int.tmod (xr : Int) 2 = (kk : Int) := by rw [Int.tmod_eq_emod_of_nonneg (by omega)]; have := hkk.out; omega
      have es : Int.tmod (xp : Int) 4 = (ss.val : Int) := by rw [Int.tmod_eq_emod_of_nonneg (by omega)]; have := hss.out; omega
      obtain ⟨pq, hpq⟩ : ∃ x, Hid (x = pth xq) := ⟨_, rfl⟩
      go_upto_region 19 with fail
      go_cut [20] (fun v wc => v = .pointer (some ⟨wr.heap.size + 1, 0, none⟩) ∧ Hid (Below wr.heap.size wr wc ∧ wc.heap[wr.heap.size + 1]? = some (.cells #[.string pq, .int .u8 kk] 61 (0, 0)) ∧ wc.heap[wr.heap.size]? = some (.cells #[.int .u8 xp, .int .u8 xq, .int .u8 xr] 57 (0, 0))))
      case first =>
        go_region_with (go_at_call 8; refine (apath xq hq _).mono ?_; rintro e w1 ⟨rfl, rfl⟩)
        all_goals (go_wp2_with fail)
        all_goals rw [← hpq.out]
        all_goals go_meet
        all_goals exact ⟨rfl, cut19 rfl ⟨rfl, rfl, rfl⟩⟩
      case rest =>
        obtain ⟨rfl, HC⟩ := hcut
        obtain ⟨k, hk⟩ : ∃ k : Key, Hid (k = (pq, kk)) := ⟨_, rfl⟩
        obtain ⟨B, hB⟩ : ∃ B, Hid (B = wr.heap.size + 1) := ⟨_, rfl⟩
        have HM : Hid (Md wS wc T B lv al SB A N A N k) := HB.out.md HC.out.1 (by rw [hB.out, hk.out]; exact HC.out.2.1) (by rw [hB.out]; omega)
        have HTK : Hid (TK wc T T SB IK ρ A N) := (HB.out.below HC.out.1).tk
        have HTS : Hid (TS wc T (T + 1) SB JS ρ A N) := (HB.out.below HC.out.1).ts
        have HI : Hid (Inj A N) := HB.out.inj
        have Hsz : Hid (T + 2 < wr.heap.size) := World.block_lt_of_cell? _ _ HB.out.tx.c0
        have b19 : wc.cell? ⟨wr.heap.size, 0, none⟩ = some (.int .u8 xp) := by simp only [World.cell?, HC.out.2.2]; rfl
        have HSA : Hid (SA < T ∧ ∀ j : Fin 4, wS.cell? ⟨SA, j.val, none⟩ = some (.pointer (some ⟨SB j, 0, none⟩))) := ⟨by rw [hT.out]; exact Q.out.lS, fun j => Q.out.sa j j.isLt⟩
        have sS : wc.cell? ⟨SA, ss.val, none⟩ = some (.pointer (some ⟨SB ss, 0, none⟩)) := (HM.out.bel.cell (p := ⟨SA, ss.val, none⟩) HSA.out.1).trans (HSA.out.2 ss)
        have HSe : Hid (Sess wS SB) := ⟨fun j => by
          have := Q.out.got j j.isLt 0 undef 0
          revert this
          generalize CB j = cj
          intro this
          match cj, this with
          | none, h => exact h.blk
          | some (C, true), h => exact h.1.blk
          | some (C, false), h => exact h.1.blk, fun a b e => Q.out.ss a b a.isLt b.isLt e⟩
        have HSeB : Hid (∀ j, SB j < T) := fun j => by rw [hT.out]; exact (Q.out.ls j j.isLt).2.1
        have hss4 : ss.val < 4 := ss.isLt
        have hss4' : (ss.val : Int) < 4 := by omega
        rw [← hB.out]
        have g0' := HM.out.tx.c0
        have k0 := HM.out.k0
        have k1 := HM.out.k1
        rw [hk.out] at k0 k1
        clear g0 g1 g2 er
        have hes : (ss.val : Int).toNat = ss.val := by simp
        go_upto_region 22 with fail
        have HSc : Hid (∀ w', Below T wS w' → Sess w' SB) := fun w' hb => HSe.out.below (by rw [← hT.out]; exact hb)
        obtain ⟨m, hm⟩ : ∃ m : Option Nat, Hid ((KeyIn A N k → m = some (IK k)) ∧ (¬ KeyIn A N k → m = none)) := by
          by_cases hki : KeyIn A N k
          · exact ⟨some (IK k), fun _ => rfl, fun h => absurd hki h⟩
          · exact ⟨none, fun h => absurd h hki, fun _ => rfl⟩
        have L64 : ∀ n, (Instr.lookup 64 (.map (some T)) (.agg #[.string pq, .int .u8 (kk : Int)]) false).run Ybad.prog (wc.drewN n) = .ok (.map m) (wc.drewN n) := fun n => by
          obtain ⟨l, c, h1, h2⟩ := HTK.out.mK
          have := RM.run_lookup Ybad.underlying64 (watchKeys (wc.drewN n)) (w := wc.drewN n) h1 (zero63 _) k
          rw [hk.out] at this
          refine Eq.trans this ?_
          rw [← hk.out]
          by_cases hki : KeyIn A N k
          · rw [(h2.2 k _).2 ⟨hki, rfl⟩, hm.out.1 hki]; rfl
          · rw [get_none_of (fun v hv => hki ((h2.2 k v).1 hv).1), hm.out.2 hki]; rfl
        by_cases hx : Has A N (k, ss)
        · have HX : Hid (Has A N (k, ss)) := hx
          obtain ⟨i0, hi0, hA0⟩ := hx
          have L63 : ∀ n, (Instr.lookup 63 (.map m) (.pointer (some ⟨SB ss, 0, none⟩)) true).run Ybad.prog (wc.drewN n) = .ok (.tuple #[.int .i64 (i0 : Int), .bool true]) (wc.drewN n) := fun n => by
            have hki : KeyIn A N k := ⟨i0, hi0, by rw [hA0]⟩
            obtain ⟨l, c, h1, h2, _⟩ := HTK.out.mI k hki
            have hb : Below T wS (wc.drewN n) := ⟨HM.out.bel.os, HM.out.bel.tape, HM.out.bel.output, HM.out.bel.size, HM.out.bel.block⟩
            have := RM.run_lookup_ok Ybad.underlying63 (sessKeys (HSc.out _ hb)) (w := wc.drewN n) h1 (zero3 _) ss
            rw [(h2.2 ss _).2 ⟨i0, hi0, hA0, rfl⟩, ← hm.out.1 hki] at this
            exact this
          clear hA0
          go_quiet (fail)
          go_wp2
          refine ⟨⟨_, i + 1, N, _, _, _, _, _, rfl, hlt, by omega, rfl, HB.out.below ?_⟩, by simp [intOf]; omega⟩
          exact Below.same HC.out.1 rfl ⟨rfl, rfl, rfl⟩
        · have HX : Hid (¬ Has A N (k, ss)) := hx
          have L63 : ∀ n, (Instr.lookup 63 (.map m) (.pointer (some ⟨SB ss, 0, none⟩)) true).run Ybad.prog (wc.drewN n) = .ok (.tuple #[.int .i64 0, .bool false]) (wc.drewN n) := fun n => by
            have hb : Below T wS (wc.drewN n) := ⟨HM.out.bel.os, HM.out.bel.tape, HM.out.bel.output, HM.out.bel.size, HM.out.bel.block⟩
            by_cases hki : KeyIn A N k
            · obtain ⟨l, c, h1, h2, _⟩ := HTK.out.mI k hki
              have := RM.run_lookup_ok Ybad.underlying63 (sessKeys (HSc.out _ hb)) (w := wc.drewN n) h1 (zero3 _) ss
              rw [get_none_of (fun v hv => by obtain ⟨i0, hi0, e, _⟩ := (h2.2 ss v).1 hv; exact hx ⟨i0, hi0, e⟩), ← hm.out.1 hki] at this
              exact this
            · have := nil63 (HSc.out _ hb) ss
              rw [hm.out.2 hki]
              exact this
          clear hx
          go_quiet (fail)
          obtain ⟨nqA, hnqA⟩ : ∃ x, x = nq := ⟨_, rfl⟩
          subst hnqA
          go_wp2_with fail
          clear L63
          have hE := eqn63
          go_quiet (fail)
          clear L64 hE b19 sS
          have HM2 : Hid (Md wS ((wc.drewN nqA).drewN nq) T B lv al SB A N A N k) := (HM.out.drewN _).drewN _
          have HTK2 : Hid (TK ((wc.drewN nqA).drewN nq) T T SB IK ρ A N) := (HTK.out.drewN _).drewN _
          have HTS2 : Hid (TS ((wc.drewN nqA).drewN nq) T (T + 1) SB JS ρ A N) := (HTS.out.drewN _).drewN _
          generalize (wc.drewN nqA).drewN nq = w2 at HM2 HTK2 HTS2 ⊢
          clear HM HTK HTS k0 k1 g0'
          go_upto_if 129 with fail
          go_cut [] (fun w3 => ∃ IK' ρ', Hid (Md wS w3 T B lv al SB A N A N k) ∧ Hid (TKm w3 T T SB IK' ρ' A N k ss) ∧ Hid (TS w3 T (T + 1) SB JS ρ' A N))
          case first =>
            by_cases hki : KeyIn A N k
            · obtain rfl := hm.out.1 hki
              go_wp2_with fail
              go_meet
              exact ⟨_, _, HM2, HTK2.out.old hki, HTS2⟩
            · obtain rfl := hm.out.2 hki
              obtain ⟨lK, cK, mK, sK⟩ := HTK2.out.mK
              have HmK : Hid (RM.IsMap kvK w2 T lK cK) := mK
              have HsK : Hid (KSpec A N IK lK) := sK
              have HkI : Hid (¬ KeyIn A N k) := hki
              have M63 : ∀ w : World, (Instr.makeMap 63 none).run Ybad.prog w = .ok (.map (some w.heap.size)) (w.alloc (.map #[] 0)) := fun w => by kernel_rfl
              have g0 := HM2.out.tx.c0
              have k0 := HM2.out.k0
              have k1 := HM2.out.k1
              have a0 := World.cell?_of_block (w := w2) (w' := w2.alloc (.map #[] 0)) (a := ⟨T + 2, 0, none⟩) (Below.heap_alloc _ _ _ (World.block_lt_of_cell? _ _ g0))
              have a1 := World.cell?_of_block (w := w2) (w' := w2.alloc (.map #[] 0)) (a := ⟨B, 0, none⟩) (Below.heap_alloc _ _ _ (World.block_lt_of_cell? _ _ k0))
              have a2 := World.cell?_of_block (w := w2) (w' := w2.alloc (.map #[] 0)) (a := ⟨B, 1, none⟩) (Below.heap_alloc _ _ _ (World.block_lt_of_cell? _ _ k1))
              rw [g0] at a0
              rw [k0] at a1
              rw [k1] at a2
              have U1 : (Instr.mapUpdate 64 (.map (some T)) (.agg #[.string k.1, .int .u8 (k.2 : Int)]) (.map (some w2.heap.size))).run Ybad.prog (w2.alloc (.map #[] 0)).drew = .ok () (setBlock (w2.alloc (.map #[] 0)).drew T (.map ((RM.ins lK k (.map (some w2.heap.size)) cK).map (RM.Ent.raw kvK)).toArray (RM.insC lK k cK))) :=
                RM.run_update Ybad.underlying64 (watchKeys _) (w := (w2.alloc (.map #[] 0)).drew) (alloc_lt (w := w2) _ mK) k _
              clear mK sK hki
              go_wp2_with fail
              go_region
              go_wp2_with fail
              go_meet
              obtain ⟨IK', ρ', h1, h2, h3, h4⟩ := newK (s := ss) (w' := setBlock (w2.alloc (Obj.map #[] 0)).drew T (Obj.map (List.map (RM.Ent.raw kvK) (RM.ins lK k (Value.map (some w2.heap.size)) cK)).toArray (RM.insC lK k cK))) HTK2.out HTS2.out HmK.out HsK.out HkI.out rfl ⟨rfl, rfl, rfl⟩
              exact ⟨IK', ρ', HM2.out.keep h3 h4, h1, h2⟩
          case rest =>
            obtain ⟨IK2, ρ2, HM3, HK3, HS3⟩ := hcut
            clear HM2 HTK2 HTS2 hm
            obtain ⟨w3, hw3⟩ : ∃ x, x = wc := ⟨_, rfl⟩
            subst hw3
            obtain ⟨ao, cap, hal⟩ := own_form HM3.out.tx.own
            have g0 := HM3.out.tx.c0
            have g2 := HM3.out.tx.c2
            rw [hal] at g2
            have k0 := HM3.out.k0
            have k1 := HM3.out.k1
            obtain ⟨lI, cI, mI, sI, stI⟩ := HK3.out.mI k (.inr rfl)
            have HmI : Hid (RM.IsMap (kvS SB) w3 (IK2 k) lI cI ∧ ISpec A N k lI ∧ RM.Stamps lI cI) := ⟨mI, sI, stI⟩
            have L64 : ∀ n, (Instr.lookup 64 (.map (some T)) (.agg #[.string k.1, .int .u8 (k.2 : Int)]) false).run Ybad.prog (w3.drewN n) = .ok (.map (some (IK2 k))) (w3.drewN n) := fun n => by
              obtain ⟨l, c, h1, h2⟩ := HK3.out.mK
              have := RM.run_lookup Ybad.underlying64 (watchKeys (w3.drewN n)) (w := w3.drewN n) h1 (zero63 _) k
              rw [(h2.2 k _).2 ⟨(addW_key k).2 (.inr rfl), rfl⟩] at this
              exact this
            have U63 : ∀ n, (Instr.mapUpdate 63 (.map (some (IK2 k))) (.pointer (some ⟨SB ss, 0, none⟩)) (.int .i64 (N : Int))).run Ybad.prog (w3.drewN n) = .ok () (setBlock (w3.drewN n) (IK2 k) (.map ((RM.ins lI ss (.int .i64 (N : Int)) cI).map (RM.Ent.raw (kvS SB))).toArray (RM.insC lI ss cI))) := fun n => by
              have hb : Below T wS (w3.drewN n) := ⟨HM3.out.bel.os, HM3.out.bel.tape, HM3.out.bel.output, HM3.out.bel.size, HM3.out.bel.block⟩
              exact RM.run_update Ybad.underlying63 (sessKeys (HSc.out _ hb)) (w := w3.drewN n) mI ss _
            clear mI sI stI
            go_wp2_with fail
            refine wp_region_last (l := [_, _, _, _, _, _, _, _, _, _, _, _]) (o := _) rfl (by kernel_rfl) (by kernel_rfl) (by kernel_rfl) (by kernel_rfl) (by kernel_rfl) ?_
            repeat (go_big_quiet_step (fail))
            refine wpQuiet_nil ?_
            rintro _ ⟨nq, rfl⟩
            go_simp
            obtain ⟨h1, h2, h3, h4⟩ := putK HK3.out HS3.out HX.out HmI.out.1 HmI.out.2.1 HmI.out.2.2 nq
            have HM4 := HM3.out.keep h3 h4
            generalize setBlock (w3.drewN nq) (IK2 k) (.map ((RM.ins lI ss (.int .i64 (N : Int)) cI).map (RM.Ent.raw (kvS SB))).toArray (RM.insC lI ss cI)) = w4 at h1 h2 HM4 ⊢
            have HK4 : Hid (TK w4 T T SB IK2 ρ2 (addW A N (k, ss)) (N + 1)) := h1
            have HS4 : Hid (TS w4 T (T + 1) SB JS ρ2 A N) := h2
            replace HM4 : Hid (Md wS w4 T B lv al SB A N A N k) := HM4
            clear HM3 HK3 HS3 L64 U63 h1 h2 h3 h4 g0 g2 k0 k1 HmI hal
            obtain ⟨i70, z70, j1, j2, j3, j4, j5⟩ := info70
            have I70 : Hid (Ybad.prog.info? 70 = some i70 ∧ i70.zero = some z70 ∧ i70.size = 3 ∧ i70.bytes = 32 ∧ z70.cells.size = 3) := ⟨j1, j2, j3, j4, j5⟩
            clear j1 j2 j3 j4 j5
            have g2 := HM4.out.tx.c2
            have k0 := HM4.out.k0
            have k1 := HM4.out.k1
            obtain ⟨NB, hNB⟩ : ∃ x, Hid (x = w4.heap.size) := ⟨_, rfl⟩
            have BA : Hid (Below w4.heap.size w4 (w4.alloc (.cells #[.string k.1, .int .u8 (k.2 : Int), .pointer (some ⟨SB ss, 0, none⟩)] 70))) := (Below.refl _ _).alloc (Nat.le_refl _) _
            have CA4 : Hid (KeepC w4 (w4.alloc (.cells #[.string k.1, .int .u8 (k.2 : Int), .pointer (some ⟨SB ss, 0, none⟩)] 70)).drew) := fun j c t f e => alloc_lt _ e
            have HM5 : Hid (Md wS (w4.alloc (.cells #[.string k.1, .int .u8 (k.2 : Int), .pointer (some ⟨SB ss, 0, none⟩)] 70)).drew T B lv al SB A N A N k) := HM4.out.keep CA4.out ⟨rfl, rfl, rfl, BA.out.size, fun j hj => BA.out.block j (Nat.lt_trans hj (Nat.lt_of_le_of_lt (Nat.le_add_right T 2) (World.block_lt_of_cell? _ _ HM4.out.tx.c0)))⟩
            have a0 := HM5.out.tx.c2
            have a1 := HM5.out.k0
            have a2 := HM5.out.k1
            have HO5 := HM5.out.tx.own
            have hN4 : N + 1 ≤ 4096 := by omega
            have HN5 : Hid (∀ j u, ([.string k.1, .int .u8 (k.2 : Int), .pointer (some ⟨SB ss, 0, none⟩)] : List Value)[j]? = some u → (w4.alloc (.cells #[.string k.1, .int .u8 (k.2 : Int), .pointer (some ⟨SB ss, 0, none⟩)] 70)).drew.cell? ((⟨w4.heap.size, 0, none⟩ : Addr).add j) = some u) := World.news_of_block (cs := #[.string k.1, .int .u8 (k.2 : Int), .pointer (some ⟨SB ss, 0, none⟩)]) (heap_alloc_new w4 _)
            have HOw : Hid ((w4.alloc (.cells #[.string k.1, .int .u8 (k.2 : Int), .pointer (some ⟨SB ss, 0, none⟩)] 70)).drew.ownsRow (T + 2 + 1) 70 3 al N (wl SB A N)) := HO5
            have HbT : Hid (T + 2 + 1 ≤ (w4.alloc (.cells #[.string k.1, .int .u8 (k.2 : Int), .pointer (some ⟨SB ss, 0, none⟩)] 70)).drew.heap.size) := World.block_lt_of_cell? _ _ a0
            clear HO5
            go_wp2_with fail
            go_cut [] (fun w6 => ∃ al6, Hid (Md wS w6 T B lv al6 SB A N (addW A N (k, ss)) (N + 1) k) ∧ Hid (TK w6 T T SB IK2 ρ2 (addW A N (k, ss)) (N + 1)) ∧ Hid (TS w6 T (T + 1) SB JS ρ2 A N))
            case first =>
              go_region_law (refine step_append_lies _ rfl (.tmp 152) (.tmp 156) 66 rfl (T + 2 + 1) 70 i70 z70 3 32 Ybad.underlying66 I70.out.1 I70.out.2.1 I70.out.2.2.1 I70.out.2.2.2.1 I70.out.2.2.2.2 (by decide) al N (wl SB A N) (by simp [Act.eval]) HOw.out ⟨w4.heap.size, 0, none⟩ 1 1 [.string k.1, .int .u8 (k.2 : Int), .pointer (some ⟨SB ss, 0, none⟩)] (by simp [Act.eval]) rfl HN5.out (by simp [Value.oneCell']) (by decide) (by unfold maxLen; omega) (by omega) HbT.out _ rfl ?_; intro g cp w5 hown hgrow hat hlt5; have HO6 : Hid (w5.ownsRow (T + 2 + 1) 70 3 (.slice (some ⟨g, 0, none⟩) (N + 1) cp) (N + 1) (wl SB A N ++ [.string k.1, .int .u8 (k.2 : Int), .pointer (some ⟨SB ss, 0, none⟩)])) := hown; have HG6 : Hid (World.grownBy (w4.alloc (.cells #[.string k.1, .int .u8 (k.2 : Int), .pointer (some ⟨SB ss, 0, none⟩)] 70)).drew w5 al.ownBlock) := hgrow; clear hown hgrow hat hlt5; have x2 := (cellB (HG6.out.block (T + 2) (World.block_lt_of_cell? _ _ HM5.out.tx.c0) (fun e => by have := (own_lt HM5.out.tx.own e.symm).1; omega)) 2).trans HM5.out.tx.c2; have f2 := (World.frozen?_of_block (a := ⟨T + 2, 2, none⟩) (HG6.out.block (T + 2) (World.block_lt_of_cell? _ _ HM5.out.tx.c0) (fun e => by have := (own_lt HM5.out.tx.own e.symm).1; omega))).trans (fz HM5.out.tx.bX 2))
              all_goals (go_wp2_with fail)
              all_goals go_meet
              all_goals
                obtain ⟨m1, m2, _⟩ := appX (s := ss) HM5.out HO6.out HG6.out
                have km : KeepM w4 (w4.alloc (.cells #[.string k.1, .int .u8 (k.2 : Int), .pointer (some ⟨SB ss, 0, none⟩)] 70)).drew := fun j es c e => alloc_lt _ e
                exact ⟨_, m1, (HK4.out.keep km.k).keep m2.k, (HS4.out.keep km.s).keep m2.s⟩
            case rest =>
              obtain ⟨al6, HM6, HK6, HS6⟩ := hcut
              clear HM4 HK4 HS4 BA CA4 HM5 a0 a1 a2 HN5 HOw HbT g2 k0 k1
              obtain ⟨w6, hw6⟩ : ∃ x, x = wc := ⟨_, rfl⟩
              subst hw6
              obtain ⟨m, hm⟩ : ∃ m : Option Nat, Hid ((SesIn A N ss → m = some (JS ss)) ∧ (¬ SesIn A N ss → m = none)) := by
                by_cases hki : SesIn A N ss
                · exact ⟨some (JS ss), fun _ => rfl, fun h => absurd hki h⟩
                · exact ⟨none, fun h => absurd h hki, fun _ => rfl⟩
              have HSe6 : Hid (Sess w6 SB) := HSc.out _ HM6.out.bel
              have L65 : (Instr.lookup 65 (.map (some (T + 1))) (.pointer (some ⟨SB ss, 0, none⟩)) false).run Ybad.prog w6 = .ok (.map m) w6 := by
                obtain ⟨l, c, h1, h2⟩ := HS6.out.mS
                have := RM.run_lookup Ybad.underlying65 (sessKeys HSe6.out) h1 (zero71 _) ss
                refine Eq.trans this ?_
                by_cases hki : SesIn A N ss
                · rw [(h2.2 ss _).2 ⟨hki, rfl⟩, hm.out.1 hki]; rfl
                · rw [get_none_of (fun v hv => hki ((h2.2 ss v).1 hv).1), hm.out.2 hki]; rfl
              have g1 := HM6.out.tx.c1
              have hE := eqn71
              go_upto_if 166 with fail
              clear L65 hE
              go_cut [] (fun w7 => ∃ JS' ρ', Hid (Md wS w7 T B lv al6 SB A N (addW A N (k, ss)) (N + 1) k) ∧ Hid (TSm w7 T (T + 1) SB JS' ρ' A N k ss) ∧ Hid (TK w7 T T SB IK2 ρ' (addW A N (k, ss)) (N + 1)))
              case first =>
                by_cases hki : SesIn A N ss
                · obtain rfl := hm.out.1 hki
                  go_wp2_with fail
                  go_meet
                  exact ⟨_, _, HM6, HS6.out.old hki, HK6⟩
                · obtain rfl := hm.out.2 hki
                  obtain ⟨lS, cS, mS, sS⟩ := HS6.out.mS
                  have HmS : Hid (RM.IsMap (kvS SB) w6 (T + 1) lS cS) := mS
                  have HsS : Hid (SSpec A N JS lS) := sS
                  have HkI : Hid (¬ SesIn A N ss) := hki
                  have M71 : ∀ w : World, (Instr.makeMap 71 none).run Ybad.prog w = .ok (.map (some w.heap.size)) (w.alloc (.map #[] 0)) := fun w => by kernel_rfl
                  have HSe7 : Sess (w6.alloc (.map #[] 0)) SB := HSe6.out.below ((Below.refl _ _).alloc (Nat.le_refl _) _)
                  have U1 : (Instr.mapUpdate 65 (.map (some (T + 1))) (.pointer (some ⟨SB ss, 0, none⟩)) (.map (some w6.heap.size))).run Ybad.prog (w6.alloc (.map #[] 0)) = .ok () (setBlock (w6.alloc (.map #[] 0)) (T + 1) (.map ((RM.ins lS ss (.map (some w6.heap.size)) cS).map (RM.Ent.raw (kvS SB))).toArray (RM.insC lS ss cS))) :=
                    RM.run_update Ybad.underlying65 (sessKeys HSe7) (w := w6.alloc (.map #[] 0)) (alloc_lt (w := w6) _ mS) ss _
                  clear mS sS hki
                  go_wp2_with fail
                  go_meet
                  obtain ⟨JS', ρ', h1, h2, h3, h4⟩ := newS (k := k) (w' := setBlock (w6.alloc (Obj.map #[] 0)) (T + 1) (.map ((RM.ins lS ss (.map (some w6.heap.size)) cS).map (RM.Ent.raw (kvS SB))).toArray (RM.insC lS ss cS))) HK6.out HS6.out HmS.out HsS.out HkI.out rfl ⟨rfl, rfl, rfl⟩
                  exact ⟨JS', ρ', HM6.out.keep h3 h4, h1, h2⟩
              case rest =>
                obtain ⟨JS2, ρ3, HM7, HS7, HK7⟩ := hcut
                clear HM6 HS6 HK6 HSe6 hm g1
                obtain ⟨w7, hw7⟩ : ∃ x, x = wc := ⟨_, rfl⟩
                subst hw7
                have g1 := HM7.out.tx.c1
                have k0 := HM7.out.k0
                have k1 := HM7.out.k1
                obtain ⟨lJ, cJ, mJ, sJ⟩ := HS7.out.mJ ss (.inr rfl)
                have HmJ : Hid (RM.IsMap kvK w7 (JS2 ss) lJ cJ ∧ JSpec A N ss lJ) := ⟨mJ, sJ⟩
                have HSe7 : Hid (∀ n, Sess (w7.drewN n) SB) := fun n => HSc.out _ ⟨HM7.out.bel.os, HM7.out.bel.tape, HM7.out.bel.output, HM7.out.bel.size, HM7.out.bel.block⟩
                have L65 : ∀ n, (Instr.lookup 65 (.map (some (T + 1))) (.pointer (some ⟨SB ss, 0, none⟩)) false).run Ybad.prog (w7.drewN n) = .ok (.map (some (JS2 ss))) (w7.drewN n) := fun n => by
                  obtain ⟨l, c, h1, h2⟩ := HS7.out.mS
                  have := RM.run_lookup Ybad.underlying65 (sessKeys (HSe7.out n)) (w := w7.drewN n) h1 (zero71 _) ss
                  rw [(h2.2 ss _).2 ⟨(addW_ses ss).2 (.inr rfl), rfl⟩] at this
                  exact this
                have U71 : ∀ n, (Instr.mapUpdate 71 (.map (some (JS2 ss))) (.agg #[.string k.1, .int .u8 (k.2 : Int)]) (.agg #[])).run Ybad.prog (w7.drewN n) = .ok () (setBlock (w7.drewN n) (JS2 ss) (.map ((RM.ins lJ k (.agg #[]) cJ).map (RM.Ent.raw kvK)).toArray (RM.insC lJ k cJ))) := fun n =>
                  RM.run_update Ybad.underlying71 (watchKeys _) (w := w7.drewN n) mJ k _
                clear mJ sJ
                go_wp2_with fail
                refine wp_region_last (l := [_, _, _, _, _, _, _, _]) (o := _) rfl (by kernel_rfl) (by kernel_rfl) (by kernel_rfl) (by kernel_rfl) (by kernel_rfl) ?_
                repeat (go_big_quiet_step (fail))
                refine wpQuiet_nil ?_
                rintro _ ⟨nq, rfl⟩
                go_simp
                obtain ⟨h1, h2, h3, h4⟩ := putS HS7.out HK7.out HmJ.out.1 HmJ.out.2 nq
                have HM8 := HM7.out.keep h3 h4
                generalize setBlock (w7.drewN nq) (JS2 ss) (.map ((RM.ins lJ k (.agg #[]) cJ).map (RM.Ent.raw kvK)).toArray (RM.insC lJ k cJ)) = w8 at h1 h2 HM8 ⊢
                have HS8 : Hid (TS w8 T (T + 1) SB JS2 ρ3 (addW A N (k, ss)) (N + 1)) := h1
                have HK8 : Hid (TK w8 T T SB IK2 ρ3 (addW A N (k, ss)) (N + 1)) := h2
                replace HM8 : Hid (Md wS w8 T B lv al6 SB A N (addW A N (k, ss)) (N + 1) k) := HM8
                clear HM7 HK7 HS7 L65 U71 h1 h2 h3 h4 g1 k0 k1 HmJ HSe7
                obtain ⟨i73, z73, j1, j2, j3, j4, j5⟩ := info73
                have I73 : Hid (Ybad.prog.info? 73 = some i73 ∧ i73.zero = some z73 ∧ i73.size = 3 ∧ i73.bytes = 32 ∧ z73.cells.size = 3) := ⟨j1, j2, j3, j4, j5⟩
                clear j1 j2 j3 j4 j5
                have k0 := HM8.out.k0
                have k1 := HM8.out.k1
                have BA : Hid (Below w8.heap.size w8 (w8.alloc (.cells #[.string k.1, .int .u8 (k.2 : Int), .int .i64 (ss.val : Int)] 73))) := (Below.refl _ _).alloc (Nat.le_refl _) _
                have HM9 : Hid (Md wS (w8.alloc (.cells #[.string k.1, .int .u8 (k.2 : Int), .int .i64 (ss.val : Int)] 73)) T B lv al6 SB A N (addW A N (k, ss)) (N + 1) k) := HM8.out.keep (fun j c t f e => alloc_lt _ e) (BA.out.mono (Nat.le_of_lt (Nat.lt_of_le_of_lt (Nat.le_add_right T 2) (World.block_lt_of_cell? _ _ HM8.out.tx.c0))))
                have HN9 : Hid (∀ j u, ([.string k.1, .int .u8 (k.2 : Int), .int .i64 (ss.val : Int)] : List Value)[j]? = some u → (w8.alloc (.cells #[.string k.1, .int .u8 (k.2 : Int), .int .i64 (ss.val : Int)] 73)).cell? ((⟨w8.heap.size, 0, none⟩ : Addr).add j) = some u) := World.news_of_block (cs := #[.string k.1, .int .u8 (k.2 : Int), .int .i64 (ss.val : Int)]) (heap_alloc_new w8 _)
                have HbT : Hid (T + 3 ≤ (w8.alloc (.cells #[.string k.1, .int .u8 (k.2 : Int), .int .i64 (ss.val : Int)] 73)).heap.size) := World.block_lt_of_cell? _ _ HM9.out.tx.c2
                have km : Hid (KeepM w8 (w8.alloc (.cells #[.string k.1, .int .u8 (k.2 : Int), .int .i64 (ss.val : Int)] 73))) := fun j es c e => alloc_lt _ e
                go_wp2_with (with_reducible (show wpList _ _ _ _ _ _); refine wpList_append_lies _ rfl _ _ 55 rfl (T + 3) 73 i73 z73 3 32 Ybad.underlying55 I73.out.1 I73.out.2.1 I73.out.2.2.1 I73.out.2.2.2.1 I73.out.2.2.2.2 (by decide) lv N (ll A N) rfl HM9.out.lst ⟨w8.heap.size, 0, none⟩ 1 1 [.string k.1, .int .u8 (k.2 : Int), .int .i64 (ss.val : Int)] rfl rfl HN9.out (by simp [Value.oneCell']) (by decide) (by unfold maxLen; omega) (by omega) HbT.out _ rfl ?_; intro g cp w9 hown hgrow hat hlt9)
                refine ⟨⟨_, i + 1, N + 1, al6, IK2, JS2, ρ3, addW A N (k, ss), rfl, hlt, by omega, rfl, ?_⟩, by simp [intOf]; omega⟩
                exact appL HM9.out (HK8.out.keep km.out.k) (HS8.out.keep km.out.s) HI.out HX.out hown hgrow
    · obtain rfl : nw = i := by omega
      go_wp2
      exact amid _ _ _ _ _ _ _ _ _ _ _ _ _ _ _ _ _ _ _ _ _ _ hSA hT Q HB HBw HTw HKs HE (by omega) hnk hps hwr hu
end Go.Proofs.YbulkcrxoDoor.F
