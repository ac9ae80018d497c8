/-
  LawS4681BFire: the table is built
-/
import Derived.Test.YbulkcrxoDoorB14
import Derived.Deep.DeepCutAuto
import Derived.Deep.CutBlock
import Derived.Deep.RegionWith
import Derived.Deep.RegionLaw
set_option linter.unusedVariables false
namespace Go.Proofs.YbulkcrxoDoor.F
open Go.RowKit Go.Any
open Go.ChangeMaps (setBlock)

set_option maxHeartbeats 100000000 in
set_option maxRecDepth 1000000 in
theorem b12 {c1 c2 c3 c4 c5 c6 c7 c8 c17 c18 c19 c20 c21 c22 c23 c24 c25 c26 c27 c28 c29 c30 c31 c32 c33 c34 c35 c36 c37 c38 c39 c40 c41 c42 c43 c44 c45 c46 c47 c48 c49 c50 c51 c52 c53 c54 c55 c56 c57 c58 c59 c60 c61 c62 c63 c64 c65 c66 c67 c68 c69 c70 c71 c72 c73 c74 c75 c76 c77 c78 c79 c80 c81 c82 c83 c84 c85 c86 c87 c88 c89 c90 c91 c92 c93 c94 c95 c96 c97 c98 c99 c100 c101 c102 c103 c104 c105 c106 c107 c108 c109 c110 c111 c112 c113 c114 c115 c116 c117 c118 c119 c120 c121 c122 c123 c124 c125 c126 c127 c128 c129 c130 c131 c132 c133 c134 c135 c136 c137 c138 c139 c140 c141 c142 c143 c144 c145 c146 c147 c148 c149 c150 c151 c152 c153 c154 c155 c156 c157 c158 c159 c160 c161 c162 c163 c164 c165 c166 c167 c168 c169 c170 c171 c172 c173 c174 c175 c176 c177 c178 c179 c180 c181 c182 c183 c184 c185 c186 c187 c188 c189 c190 c191 c192 c193 c194 c195 c196 c197 c198 c199 c200 c201 c202 c203 c204 c205 c206 c207 c208 c209 c210 c211 c212 c213 c214 c215 c216 c217 c218 c219 c220 c221 c222 c223 c224 c225 c226 c227 c228 c229 c230 c231 c232 c233 c234 c235 c236 c237 c238 c239 c240 c241 c242 c243 c244 c245 c246 c247 c248 c249 c250 c251 c252 c253 c254 c255 c256 c257 c258 c259 c260 c261 c262 c263 c264 c265 c266 c267 c268 c269 c270 c271 c272 c273 c274 c275 c276 c277 c278 c279 c280 c281 c282 c283 c284 c285 c286 c287 c288 c289 c290 c291 c292 c293 c294 c295 c296 c297 c298 c299 c300 c301 c302 c303 c304 c305 c306 c307 c308 c309 c310 c311 c312 c313 c314 c315 c316 c317 c318 c319 c320 c321 c322 c323 c324 c325 c326 c327 c328 c329 c330 c331 c332 c333 c334 c335 c336 c337 c338 c339 c340 c341 c342 c343 c344 c345 c346 c347 c348 c349 c350 c351 c352 c353 c354 c355 c356 c357 c358 c359 c360 c361 c362 c363 c364 c365 c366 c367 c368 c369 c370 c371 c372 c373 c374 c375 c376 c377 c378 c379 c380 c381 c382 c383 c384 c385 c386 c387 c388 c389 c390 c391 c392 c393 c394 c395 c396 c397 c398 c399 c400 c401 c402 c403 c404 c405 c406 c407 c408 c409 c410 c411 c412 c413 c414 c415 c416 c417 c418 c419 c420 c421 c422 c423 c424 c425 c426 c427 c428 c429 c430 c431 c432 c433 c434 c435 c436 c437 c438 c439 c440 c441 c442 c443 c444 c445 c446 c447 c448 c449 c450 c451 c452 c453 c454 c455 c456 c457 c458 c459 c460 c461 c462 c463 c464 c465 c466 c467 c468 c469 c470 c471 c472 c473 c474 c475 c476 c477 c478 c479 c480 c481 c482 c483 c484 c485 c486 c487 c488 c489 c490 c491 c492 c493 c494 c495 c496 c497 c498 c499 c500 c501 c502 c503 c504 c505 c506 c507 : Value} (w wt wr : World) (T SA CA : Nat) (SB : Fin 4 → Nat) (CB : Fin 4 → Option (Nat × Bool)) (wa : Option Addr) (nw wcap : Nat) (wp wq wk : Nat → Nat) (ei en fp pp : Nat) (p1 p2 : ByteArray)
    (hT : Hid (T = w.heap.size)) (hSA : Hid (SA = T + 3)) (hCA : Hid (CA = T + 3 + 1)) (HB0 : ∀ SB, Bd w wt T (.slice none 0 0) (.slice none 0 0) SB (fun _ => 0) (fun _ => 0) (ρ0 T) A0 0) (hz0 : wt.heap.size = T + 3) (Q : Hid (P1 wt wr SA SA CA 4 SB CB)) (HW : Hid (Ws w wa nw wp wq wk)) (HE : Hid (2 ≤ w.heap.size ∧ w.cell? ⟨1, 0, none⟩ = some (.int .i32 (-1)) ∧ w.cell? ⟨1, 1, none⟩ = some (.int .i64 (-1)) ∧ w.cell? ⟨1, 2, none⟩ = some (.int .i32 0))) (hnw : nw ≤ 1024) (hei5 : ei < 5) (hen : Hid (en = evn ei)) (hp1 : Hid (p1 = pb fp)) (hp2 : Hid (p2 = pb pp)) (hpp : Hid (pp = pr fp)) (hfp13 : 1 ≤ fp ∧ fp ≤ 3) :
    Code.wp Ybad.prog (restB 12) (bodyPost Ybad.prog Ybad.f4 fun e w' => e = .returned (.bool true) ∧ Below w.heap.size w w') ⟨#[.slice wa nw wcap, c1, c2, c3, c4, c5, c6, c7, c8, .int .i32 (en : Int), .int .i64 (fp : Int), .int .i64 (pp : Int), .string p1, .string p2, .pointer (some ⟨T + 2, 0, none⟩), .pointer (some ⟨SA, 0, none⟩), .pointer (some ⟨CA, 0, none⟩), c17, c18, c19, c20, c21, c22, c23, c24, c25, c26, c27, c28, c29, c30, c31, c32, c33, c34, c35, c36, c37, c38, c39, c40, c41, c42, c43, c44, c45, c46, c47, c48, c49, c50, c51, c52, c53, c54, c55, c56, c57, c58, c59, c60, c61, c62, c63, c64, c65, c66, c67, c68, c69, c70, c71, c72, c73, c74, c75, c76, c77, c78, c79, c80, c81, c82, c83, c84, c85, c86, c87, c88, c89, c90, c91, c92, c93, c94, c95, c96, c97, c98, c99, c100, c101, c102, c103, c104, c105, c106, c107, c108, c109, c110, c111, c112, c113, c114, c115, c116, c117, c118, c119, c120, c121, c122, c123, c124, c125, c126, c127, c128, c129, c130, c131, c132, c133, c134, c135, c136, c137, c138, c139, c140, c141, c142, c143, c144, c145, c146, c147, c148, c149, c150, c151, c152, c153, c154, c155, c156, c157, c158, c159, c160, c161, c162, c163, c164, c165, c166, c167, c168, c169, c170, c171, c172, c173, c174, c175, c176, c177, c178, c179, c180, c181, c182, c183, c184, c185, c186, c187, c188, c189, c190, c191, c192, c193, c194, c195, c196, c197, c198, c199, c200, c201, c202, c203, c204, c205, c206, c207, c208, c209, c210, c211, c212, c213, c214, c215, c216, c217, c218, c219, c220, c221, c222, c223, c224, c225, c226, c227, c228, c229, c230, c231, c232, c233, c234, c235, c236, c237, c238, c239, c240, c241, c242, c243, c244, c245, c246, c247, c248, c249, c250, c251, c252, c253, c254, c255, c256, c257, c258, c259, c260, c261, c262, c263, c264, c265, c266, c267, c268, c269, c270, c271, c272, c273, c274, c275, c276, c277, c278, c279, c280, c281, c282, c283, c284, c285, c286, c287, c288, c289, c290, c291, c292, c293, c294, c295, c296, c297, c298, c299, c300, c301, c302, c303, c304, c305, c306, c307, c308, c309, c310, c311, c312, c313, c314, c315, c316, c317, c318, c319, c320, c321, c322, c323, c324, c325, c326, c327, c328, c329, c330, c331, c332, c333, c334, c335, c336, c337, c338, c339, c340, c341, c342, c343, c344, c345, c346, c347, c348, c349, c350, c351, c352, c353, c354, c355, c356, c357, c358, c359, c360, c361, c362, c363, c364, c365, c366, c367, c368, c369, c370, c371, c372, c373, c374, c375, c376, c377, c378, c379, c380, c381, c382, c383, c384, c385, c386, c387, c388, c389, c390, c391, c392, c393, c394, c395, c396, c397, c398, c399, c400, c401, c402, c403, c404, c405, c406, c407, c408, c409, c410, c411, c412, c413, c414, c415, c416, c417, c418, c419, c420, c421, c422, c423, c424, c425, c426, c427, c428, c429, c430, c431, c432, c433, c434, c435, c436, c437, c438, c439, c440, c441, c442, c443, c444, c445, c446, c447, c448, c449, c450, c451, c452, c453, c454, c455, c456, c457, c458, c459, c460, c461, c462, c463, c464, c465, c466, c467, c468, c469, c470, c471, c472, c473, c474, c475, c476, c477, c478, c479, c480, c481, c482, c483, c484, c485, c486, c487, c488, c489, c490, c491, c492, c493, c494, c495, c496, c497, c498, c499, c500, c501, c502, c503, c504, c505, c506, c507], []⟩ wr := by
  conv => arg 2; whnf
  go_wp2_with fail
  have HB1 : Hid (Bb (wr.alloc (.cells hasC 108)) (wr.alloc (.cells hasC 108)) T wr.heap.size (.slice none 0 0) SB (fun _ => 0) (fun _ => 0) (ρ0 T) A0 0) := Bb.start (HB0 SB) hz0 (by rw [← hSA.out]; exact Q.out)
  have HSz : Hid ((wr.alloc (.cells hasC 108)).heap.size = wr.heap.size + 1) := by show _ = _; simp
  have QS : Hid (P1 wt (wr.alloc (.cells hasC 108)) SA SA CA 4 SB CB) := Q.out.ext ((Below.refl _ _).alloc (Nat.le_refl _) _)
  obtain ⟨HBk, hHB⟩ : ∃ x, Hid (x = wr.heap.size) := ⟨_, rfl⟩
  rw [← hHB.out] at HB1 HSz ⊢
  unfold hasC at HB1 HSz QS
  generalize wr.alloc (.cells #[.bool false, .bool false, .bool false, .bool false, .bool false, .bool false, .bool false, .bool false, .bool false, .bool false, .bool false, .bool false, .bool false, .bool false, .bool false, .bool false, .bool false, .bool false, .bool false, .bool false, .bool false, .bool false, .bool false, .bool false, .bool false, .bool false, .bool false, .bool false, .bool false, .bool false, .bool false, .bool false] 108) = wS at HB1 HSz QS ⊢
  have HBw : Hid (Below w.heap.size w wS) := by
    have b1 : Below T w wt := (HB0 SB).bel
    rw [← hT.out]
    exact b1.trans (QS.out.bel.mono (by have := hSA.out; omega))
  have Q2 : Hid (SA < HBk ∧ CA < HBk) := by rw [hHB.out]; exact ⟨Q.out.lS, Q.out.lC⟩
  have Q3 : Hid (∀ j, SB j ≠ HBk) := fun j => by have := (Q.out.ls j j.isLt).2.1; rw [hHB.out]; omega
  have Q4 : Hid (∀ j C cl, CB j = some (C, cl) → C ≠ HBk) := fun j C cl e => by have := (Q.out.lc j C cl j.isLt e).2.1; rw [hHB.out]; omega
  clear Q HB0
  rename_i K2 h2
  have HS2 : ∀ a w, StopB (restB 14) _ a w → K2 a w := h2
  clear h2
  go_loopw [110] (fun iv wx => ∃ (i N : Nat) (al : Value) (IK : Key → Nat) (JS : Fin 4 → Nat) (ρ : Nat → Role) (A : Nat → Wt), i ≤ nw ∧ N ≤ i ∧ iv = .int .i64 i ∧ Hid (Bb wS wx T HBk al SB IK JS ρ A N) ∧ Hid (W32 A N)) (fun iv _ => nw - (intOf iv).toNat)
  case atStart => exact ⟨0, 0, _, _, _, _, _, by omega, by omega, rfl, HB1, W32.start⟩
  case round =>
    obtain ⟨i, N, al, IK, JS, ρ, A, hi, hNi, rfl, HB, H32⟩ := hrel
    clear HB1
    by_cases hlt : i < nw
    · have hlt' : (i : Int) < nw := by omega
      obtain ⟨wb, off, rfl, g0, g1, g2⟩ := HW.out.c i hlt
      obtain ⟨xp, hxp⟩ : ∃ x, Hid (x = wp i) := ⟨_, rfl⟩
      obtain ⟨xq, hxq⟩ : ∃ x, Hid (x = wq i) := ⟨_, rfl⟩
      obtain ⟨xr, hxr⟩ : ∃ x, Hid (x = wk i) := ⟨_, rfl⟩
      have hp : xp < 256 := by rw [hxp.out]; exact HW.out.p i
      have hq : xq < 256 := by rw [hxq.out]; exact HW.out.q i
      have hr : xr < 256 := by rw [hxr.out]; exact HW.out.r i
      rw [← hxp.out] at g0
      rw [← hxq.out] at g1
      rw [← hxr.out] at g2
      have lb : wb < w.heap.size := World.block_lt_of_cell? _ _ g0
      have HBx : Hid (Below w.heap.size w wr) := HBw.out.trans (HB.out.bel.mono (by have := hT.out; omega))
      replace g0 := (HBx.out.cell (p := ⟨wb, _, none⟩) lb).trans g0
      replace g1 := (HBx.out.cell (p := ⟨wb, _, none⟩) lb).trans g1
      replace g2 := (HBx.out.cell (p := ⟨wb, _, none⟩) lb).trans g2
      clear lb
      obtain ⟨kk, hkk⟩ : ∃ x, Hid (x = xr % 2) := ⟨_, rfl⟩
      obtain ⟨qq, hqq⟩ : ∃ x, Hid (x = xq % 4) := ⟨_, rfl⟩
      obtain ⟨ss, hss⟩ : ∃ x : Fin 4, Hid (x.val = xp % 4) := ⟨⟨xp % 4, by omega⟩, rfl⟩
      have er : Int.tmod (xr : Int) 2 = (kk : Int) := by rw [Int.tmod_eq_emod_of_nonneg (by omega)]; have := hkk.out; omega
      have eq' : Int.tmod (xq : Int) 4 = (qq : Int) := by rw [Int.tmod_eq_emod_of_nonneg (by omega)]; have := hqq.out; omega
      have es : Int.tmod (xp : Int) 4 = (ss.val : Int) := by rw [Int.tmod_eq_emod_of_nonneg (by omega)]; have := hss.out; omega
      have hkk2 : kk < 2 := by have := hkk.out; omega
      have hqq4 : qq < 4 := by have := hqq.out; omega
      have hss4 : ss.val < 4 := ss.isLt
      have hkk2' : (kk : Int) < 2 := by omega
      have hqq4' : (qq : Int) < 4 := by omega
      have hss4' : (ss.val : Int) < 4 := by omega
      have hes : (ss.val : Int).toNat = ss.val := by simp
      have hh0 : wr.cell? ⟨HBk, ss.val * 8 + qq * 2 + kk, none⟩ = some (.bool (hasB A N ((pb qq, kk), ss))) := HB.out.hs ss qq kk hqq4 hkk2
      obtain ⟨hv, hhv⟩ : ∃ b, Hid (b = hasB A N ((pb qq, kk), ss)) := ⟨_, rfl⟩
      rw [← hhv.out] at hh0
      have fh := fz HB.out.bh (ss.val * 8 + qq * 2 + kk)
      have lHB : HBk < wr.heap.size := World.block_lt_of_cell? _ _ hh0
      go_upto_if 132 with fail
      have eSA : wr.heap[SA]? = wS.heap[SA]? := by
        obtain ⟨c, t, e⟩ := QS.out.bs
        have := hSA.out
        rw [HB.out.old SA c t _ QS.out.lS (by omega) (by have := hHB.out; have := Q2.out; omega) e, e]
      have sS : wr.cell? ⟨SA, ss.val, none⟩ = some (.pointer (some ⟨SB ss, 0, none⟩)) := (cellB eSA _).trans (QS.out.sa ss ss.isLt)
      have lSA : SA < wr.heap.size := World.block_lt_of_cell? _ _ sS
      have nSH : ¬ SA = HBk := by have := Q2.out; omega
      cases hv with
      | true =>
        go_wp2
        refine ⟨⟨i + 1, N, al, IK, JS, ρ, A, hlt, by omega, rfl, HB.out.below ((Below.refl _ _).alloc (Nat.le_refl _) _), H32⟩, by simp [intOf]; omega⟩
      | false =>
        have HX : Hid (¬ Has A N ((pb qq, kk), ss)) := hasB_false.1 hhv.out.symm
        obtain ⟨pq, hpq⟩ : ∃ x, Hid (x = pb qq) := ⟨_, rfl⟩
        have cb := bpath qq hqq4
        rw [← hpq.out] at cb
        go_upto_region 31 with (go_at_call 13; refine (cb _).mono ?_; rintro e w1 ⟨rfl, hw1⟩; have hw1 := hw1.symm; subst hw1)
        obtain ⟨B, hBk⟩ : ∃ B, Hid (B = wr.heap.size + 1) := ⟨_, rfl⟩
        obtain ⟨k, hk⟩ : ∃ k : Key, Hid (k = (pb qq, kk)) := ⟨_, rfl⟩
        obtain ⟨hf, hhf⟩ : ∃ f, Hid (f = fun (s' : Fin 4) (p' k' : Nat) => if s' = ss ∧ p' = qq ∧ k' = kk then true else hasB A N ((pb p', k'), s')) := ⟨_, rfl⟩
        obtain ⟨M0, K0, S0⟩ := HB.out.mb #[.int .u8 xp, .int .u8 xq, .int .u8 xr] 109 ss qq kk hqq4 hkk2
        rw [← hhf.out, ← hk.out, ← hpq.out, ← hBk.out] at M0
        rw [← hpq.out] at K0 S0
        rw [← hBk.out]
        have HM : Hid (Mb wS _ T HBk B al SB hf A N k) := M0
        have HTK : Hid (TK _ T T SB IK ρ A N) := K0
        have HTS : Hid (TS _ T (T + 1) SB JS ρ A N) := S0
        have HI : Hid (Inj A N) := HB.out.inj
        have HX2 : Hid (¬ Has A N (k, ss)) := by rw [hk.out]; exact HX.out
        have HSc : Hid (∀ w' al' h' A2 N2, Mb wS w' T HBk B al' SB h' A2 N2 k → Sess w' SB) := fun w' al' h' A2 N2 H => ⟨fun j => by
          obtain ⟨c, t, e⟩ := QS.out.sess.blk j
          have l1 := QS.out.ls j j.isLt
          have := hSA.out
          have := Q2.out
          exact ⟨c, t, H.old _ c t _ l1.2.1 (by omega) (Q3.out j) e⟩, QS.out.sess.inj⟩
        have hk1 : Hid (k.1 = pq ∧ k.2 = kk) := by rw [hk.out, hpq.out]; exact ⟨rfl, rfl⟩
        clear M0 K0 S0 hh0 fh eSA sS lSA nSH lHB HB HBx cb g0 g1 g2
        generalize ((wr.setCell ⟨HBk, ss.val * 8 + qq * 2 + kk, none⟩ (.bool true)).alloc (.cells #[.int .u8 xp, .int .u8 xq, .int .u8 xr] 109)).alloc (.cells #[.string pq, .int .u8 (kk : Int)] 61) = w2 at HM HTK HTS ⊢
        have g0 := HM.out.tx.c0
        have k0 := HM.out.k0
        have k1 := HM.out.k1
        obtain ⟨m, hm⟩ : ∃ m : Option Nat, Hid ((KeyIn A N k → m = some (IK k)) ∧ (¬ KeyIn A N k → m = none)) := by
          by_cases hki : KeyIn A N k
          · exact ⟨some (IK k), fun _ => rfl, fun h => absurd hki h⟩
          · exact ⟨none, fun h => absurd h hki, fun _ => rfl⟩
        have L64 : ∀ n, (Instr.lookup 64 (.map (some T)) (.agg #[.string k.1, .int .u8 (k.2 : Int)]) false).run Ybad.prog (w2.drewN n) = .ok (.map m) (w2.drewN n) := fun n => by
          obtain ⟨l, c, h1, h2⟩ := HTK.out.mK
          refine Eq.trans (RM.run_lookup Ybad.underlying64 (watchKeys (w2.drewN n)) (w := w2.drewN n) h1 (zero63 _) k) ?_
          by_cases hki : KeyIn A N k
          · rw [(h2.2 k _).2 ⟨hki, rfl⟩, hm.out.1 hki]; rfl
          · rw [get_none_of (fun v hv => hki ((h2.2 k v).1 hv).1), hm.out.2 hki]; rfl
        have hE := eqn63
        go_quiet (fail)
        clear L64 hE
        have HM2 : Hid (Mb wS (w2.drewN nq) T HBk B al SB hf A N k) := HM.out.drewN _
        have HTK2 : Hid (TK (w2.drewN nq) T T SB IK ρ A N) := HTK.out.drewN _
        have HTS2 : Hid (TS (w2.drewN nq) T (T + 1) SB JS ρ A N) := HTS.out.drewN _
        obtain ⟨w2o, hw2o⟩ : ∃ x, x = w2 := ⟨_, rfl⟩
        subst hw2o
        generalize w2o.drewN nq = w2 at HM2 HTK2 HTS2 ⊢
        clear HM HTK HTS k0 k1 g0
        go_upto_if 153 with fail
        go_cut [] (fun w3 => ∃ IK' ρ', Hid (Mb wS w3 T HBk B al SB hf A N k) ∧ Hid (TKm w3 T T SB IK' ρ' A N k ss) ∧ Hid (TS w3 T (T + 1) SB JS ρ' A N))
        case first =>
          by_cases hki : KeyIn A N k
          · obtain rfl := hm.out.1 hki
            go_wp2_with fail
            go_meet
            exact ⟨_, _, HM2, HTK2.out.old hki, HTS2⟩
          · obtain rfl := hm.out.2 hki
            obtain ⟨lK, cK, mK, sK⟩ := HTK2.out.mK
            have HmK : Hid (RM.IsMap kvK w2 T lK cK) := mK
            have HsK : Hid (KSpec A N IK lK) := sK
            have HkI : Hid (¬ KeyIn A N k) := hki
            have M63 : ∀ w : World, (Instr.makeMap 63 none).run Ybad.prog w = .ok (.map (some w.heap.size)) (w.alloc (.map #[] 0)) := fun w => by kernel_rfl
            have g0 := HM2.out.tx.c0
            have k0 := HM2.out.k0
            have k1 := HM2.out.k1
            have a0 := World.cell?_of_block (w := w2) (w' := w2.alloc (.map #[] 0)) (a := ⟨T + 2, 0, none⟩) (Below.heap_alloc _ _ _ (World.block_lt_of_cell? _ _ g0))
            have a1 := World.cell?_of_block (w := w2) (w' := w2.alloc (.map #[] 0)) (a := ⟨B, 0, none⟩) (Below.heap_alloc _ _ _ (World.block_lt_of_cell? _ _ k0))
            have a2 := World.cell?_of_block (w := w2) (w' := w2.alloc (.map #[] 0)) (a := ⟨B, 1, none⟩) (Below.heap_alloc _ _ _ (World.block_lt_of_cell? _ _ k1))
            rw [g0] at a0
            rw [k0] at a1
            rw [k1] at a2
            have U1 : (Instr.mapUpdate 64 (.map (some T)) (.agg #[.string k.1, .int .u8 (k.2 : Int)]) (.map (some w2.heap.size))).run Ybad.prog (w2.alloc (.map #[] 0)).drew = .ok () (setBlock (w2.alloc (.map #[] 0)).drew T (.map ((RM.ins lK k (.map (some w2.heap.size)) cK).map (RM.Ent.raw kvK)).toArray (RM.insC lK k cK))) :=
              RM.run_update Ybad.underlying64 (watchKeys _) (w := (w2.alloc (.map #[] 0)).drew) (alloc_lt (w := w2) _ mK) k _
            clear mK sK hki
            go_wp2_with fail
            go_region
            go_wp2_with fail
            go_meet
            obtain ⟨IK', ρ', h1, h2, h3, h4⟩ := newK (s := ss) (w' := setBlock (w2.alloc (Obj.map #[] 0)).drew T (Obj.map (List.map (RM.Ent.raw kvK) (RM.ins lK k (Value.map (some w2.heap.size)) cK)).toArray (RM.insC lK k cK))) HTK2.out HTS2.out HmK.out HsK.out HkI.out rfl ⟨rfl, rfl, rfl⟩
            exact ⟨IK', ρ', HM2.out.keep h3 h4, h1, h2⟩
        case rest =>
          obtain ⟨IK2, ρ2, HM3, HK3, HS3⟩ := hcut
          clear HM2 HTK2 HTS2 hm
          obtain ⟨w3, hw3⟩ : ∃ x, x = wc := ⟨_, rfl⟩
          subst hw3
          obtain ⟨ao, cap, hal⟩ := own_form HM3.out.tx.own
          have g0 := HM3.out.tx.c0
          have g2 := HM3.out.tx.c2
          rw [hal] at g2
          have k0 := HM3.out.k0
          have k1 := HM3.out.k1
          obtain ⟨lI, cI, mI, sI, stI⟩ := HK3.out.mI k (.inr rfl)
          have HmI : Hid (RM.IsMap (kvS SB) w3 (IK2 k) lI cI ∧ ISpec A N k lI ∧ RM.Stamps lI cI) := ⟨mI, sI, stI⟩
          have L64 : ∀ n, (Instr.lookup 64 (.map (some T)) (.agg #[.string k.1, .int .u8 (k.2 : Int)]) false).run Ybad.prog (w3.drewN n) = .ok (.map (some (IK2 k))) (w3.drewN n) := fun n => by
            obtain ⟨l, c, h1, h2⟩ := HK3.out.mK
            have := RM.run_lookup Ybad.underlying64 (watchKeys (w3.drewN n)) (w := w3.drewN n) h1 (zero63 _) k
            rw [(h2.2 k _).2 ⟨(addW_key k).2 (.inr rfl), rfl⟩] at this
            exact this
          have U63 : ∀ n, (Instr.mapUpdate 63 (.map (some (IK2 k))) (.pointer (some ⟨SB ss, 0, none⟩)) (.int .i64 (N : Int))).run Ybad.prog (w3.drewN n) = .ok () (setBlock (w3.drewN n) (IK2 k) (.map ((RM.ins lI ss (.int .i64 (N : Int)) cI).map (RM.Ent.raw (kvS SB))).toArray (RM.insC lI ss cI))) := fun n => by
            exact RM.run_update Ybad.underlying63 (sessKeys (HSc.out _ _ _ _ _ (HM3.out.drewN n))) (w := w3.drewN n) mI ss _
          clear mI sI stI
          go_wp2_with fail
          refine wp_region_last (l := [_, _, _, _, _, _, _, _, _, _, _, _]) (o := _) rfl (by kernel_rfl) (by kernel_rfl) (by kernel_rfl) (by kernel_rfl) (by kernel_rfl) ?_
          repeat (go_big_quiet_step (fail))
          refine wpQuiet_nil ?_
          rintro _ ⟨nq, rfl⟩
          go_simp
          obtain ⟨h1, h2, h3, h4⟩ := putK HK3.out HS3.out HX2.out HmI.out.1 HmI.out.2.1 HmI.out.2.2 nq
          have HM4 := HM3.out.keep h3 h4
          generalize setBlock (w3.drewN nq) (IK2 k) (.map ((RM.ins lI ss (.int .i64 (N : Int)) cI).map (RM.Ent.raw (kvS SB))).toArray (RM.insC lI ss cI)) = w4 at h1 h2 HM4 ⊢
          have HK4 : Hid (TK w4 T T SB IK2 ρ2 (addW A N (k, ss)) (N + 1)) := h1
          have HS4 : Hid (TS w4 T (T + 1) SB JS ρ2 A N) := h2
          replace HM4 : Hid (Mb wS w4 T HBk B al SB hf A N k) := HM4
          clear HM3 HK3 HS3 L64 U63 h1 h2 h3 h4 g0 g2 k0 k1 HmI hal
          obtain ⟨i70, z70, j1, j2, j3, j4, j5⟩ := info70
          have I70 : Hid (Ybad.prog.info? 70 = some i70 ∧ i70.zero = some z70 ∧ i70.size = 3 ∧ i70.bytes = 32 ∧ z70.cells.size = 3) := ⟨j1, j2, j3, j4, j5⟩
          clear j1 j2 j3 j4 j5
          have g2 := HM4.out.tx.c2
          have k0 := HM4.out.k0
          have k1 := HM4.out.k1
          obtain ⟨NB, hNB⟩ : ∃ x, Hid (x = w4.heap.size) := ⟨_, rfl⟩
          have BA : Hid (Below w4.heap.size w4 (w4.alloc (.cells #[.string k.1, .int .u8 (k.2 : Int), .pointer (some ⟨SB ss, 0, none⟩)] 70))) := (Below.refl _ _).alloc (Nat.le_refl _) _
          have CA4 : Hid (KeepC w4 (w4.alloc (.cells #[.string k.1, .int .u8 (k.2 : Int), .pointer (some ⟨SB ss, 0, none⟩)] 70)).drew) := fun j c t f e => alloc_lt _ e
          have HM5 : Hid (Mb wS (w4.alloc (.cells #[.string k.1, .int .u8 (k.2 : Int), .pointer (some ⟨SB ss, 0, none⟩)] 70)).drew T HBk B al SB hf A N k) := HM4.out.keep CA4.out ⟨rfl, rfl, rfl, BA.out.size, fun j hj => BA.out.block j (Nat.lt_trans hj (Nat.lt_of_le_of_lt (Nat.le_add_right T 2) (World.block_lt_of_cell? _ _ HM4.out.tx.c0)))⟩
          have a0 := HM5.out.tx.c2
          have a1 := HM5.out.k0
          have a2 := HM5.out.k1
          have HO5 := HM5.out.own
          have hN4 : N + 1 ≤ 4096 := by omega
          have HN5 : Hid (∀ j u, ([.string k.1, .int .u8 (k.2 : Int), .pointer (some ⟨SB ss, 0, none⟩)] : List Value)[j]? = some u → (w4.alloc (.cells #[.string k.1, .int .u8 (k.2 : Int), .pointer (some ⟨SB ss, 0, none⟩)] 70)).drew.cell? ((⟨w4.heap.size, 0, none⟩ : Addr).add j) = some u) := World.news_of_block (cs := #[.string k.1, .int .u8 (k.2 : Int), .pointer (some ⟨SB ss, 0, none⟩)]) (heap_alloc_new w4 _)
          have HOw : Hid ((w4.alloc (.cells #[.string k.1, .int .u8 (k.2 : Int), .pointer (some ⟨SB ss, 0, none⟩)] 70)).drew.ownsRow wS.heap.size 70 3 al N (wl SB A N)) := HO5
          have HbT : Hid (wS.heap.size ≤ (w4.alloc (.cells #[.string k.1, .int .u8 (k.2 : Int), .pointer (some ⟨SB ss, 0, none⟩)] 70)).drew.heap.size) := HM5.out.bel.size
          clear HO5
          go_wp2_with fail
          go_cut [] (fun w6 => ∃ al6, Hid (Mb wS w6 T HBk B al6 SB hf (addW A N (k, ss)) (N + 1) k) ∧ Hid (TK w6 T T SB IK2 ρ2 (addW A N (k, ss)) (N + 1)) ∧ Hid (TS w6 T (T + 1) SB JS ρ2 A N))
          case first =>
            go_region_law (refine step_append_lies _ rfl (.tmp 176) (.tmp 180) 66 rfl wS.heap.size 70 i70 z70 3 32 Ybad.underlying66 I70.out.1 I70.out.2.1 I70.out.2.2.1 I70.out.2.2.2.1 I70.out.2.2.2.2 (by decide) al N (wl SB A N) (by simp [Act.eval]) HOw.out ⟨w4.heap.size, 0, none⟩ 1 1 [.string k.1, .int .u8 (k.2 : Int), .pointer (some ⟨SB ss, 0, none⟩)] (by simp [Act.eval]) rfl HN5.out (by simp [Value.oneCell']) (by decide) (by unfold maxLen; omega) (by omega) HbT.out _ rfl ?_; intro g cp w5 hown hgrow hat hlt5; have HO6 : Hid (w5.ownsRow wS.heap.size 70 3 (.slice (some ⟨g, 0, none⟩) (N + 1) cp) (N + 1) (wl SB A N ++ [.string k.1, .int .u8 (k.2 : Int), .pointer (some ⟨SB ss, 0, none⟩)])) := hown; have HG6 : Hid (World.grownBy (w4.alloc (.cells #[.string k.1, .int .u8 (k.2 : Int), .pointer (some ⟨SB ss, 0, none⟩)] 70)).drew w5 al.ownBlock) := hgrow; clear hown hgrow hat hlt5; have x2 := (cellB (HG6.out.block (T + 2) (World.block_lt_of_cell? _ _ HM5.out.tx.c0) (fun e => by have := (own_lt HM5.out.own e.symm).1; have := HM5.out.lt; omega)) 2).trans HM5.out.tx.c2; have f2 := (World.frozen?_of_block (a := ⟨T + 2, 2, none⟩) (HG6.out.block (T + 2) (World.block_lt_of_cell? _ _ HM5.out.tx.c0) (fun e => by have := (own_lt HM5.out.own e.symm).1; have := HM5.out.lt; omega))).trans (fz HM5.out.tx.bX 2))
            all_goals (go_wp2_with fail)
            all_goals go_meet
            all_goals
              obtain ⟨m1, m2⟩ := HM5.out.app (s := ss) HO6.out HG6.out
              have km : KeepM w4 (w4.alloc (.cells #[.string k.1, .int .u8 (k.2 : Int), .pointer (some ⟨SB ss, 0, none⟩)] 70)).drew := fun j es c e => alloc_lt _ e
              exact ⟨_, m1, (HK4.out.keep km.k).keep m2.k, (HS4.out.keep km.s).keep m2.s⟩
          case rest =>
            obtain ⟨al6, HM6, HK6, HS6⟩ := hcut
            clear HM4 HK4 HS4 BA CA4 HM5 a0 a1 a2 HN5 HOw HbT g2 k0 k1
            obtain ⟨w6, hw6⟩ : ∃ x, x = wc := ⟨_, rfl⟩
            subst hw6
            obtain ⟨m, hm⟩ : ∃ m : Option Nat, Hid ((SesIn A N ss → m = some (JS ss)) ∧ (¬ SesIn A N ss → m = none)) := by
              by_cases hki : SesIn A N ss
              · exact ⟨some (JS ss), fun _ => rfl, fun h => absurd hki h⟩
              · exact ⟨none, fun h => absurd h hki, fun _ => rfl⟩
            have HSe6 : Hid (Sess w6 SB) := HSc.out _ _ _ _ _ HM6.out
            have L65 : (Instr.lookup 65 (.map (some (T + 1))) (.pointer (some ⟨SB ss, 0, none⟩)) false).run Ybad.prog w6 = .ok (.map m) w6 := by
              obtain ⟨l, c, h1, h2⟩ := HS6.out.mS
              have := RM.run_lookup Ybad.underlying65 (sessKeys HSe6.out) h1 (zero71 _) ss
              refine Eq.trans this ?_
              by_cases hki : SesIn A N ss
              · rw [(h2.2 ss _).2 ⟨hki, rfl⟩, hm.out.1 hki]; rfl
              · rw [get_none_of (fun v hv => hki ((h2.2 ss v).1 hv).1), hm.out.2 hki]; rfl
            have g1 := HM6.out.tx.c1
            have hE := eqn71
            go_upto_if 190 with fail
            clear L65 hE
            go_cut [] (fun w7 => ∃ JS' ρ', Hid (Mb wS w7 T HBk B al6 SB hf (addW A N (k, ss)) (N + 1) k) ∧ Hid (TSm w7 T (T + 1) SB JS' ρ' A N k ss) ∧ Hid (TK w7 T T SB IK2 ρ' (addW A N (k, ss)) (N + 1)))
            case first =>
              by_cases hki : SesIn A N ss
              · obtain rfl := hm.out.1 hki
                go_wp2_with fail
                go_meet
                exact ⟨_, _, HM6, HS6.out.old hki, HK6⟩
              · obtain rfl := hm.out.2 hki
                obtain ⟨lS, cS, mS, sS⟩ := HS6.out.mS
                have HmS : Hid (RM.IsMap (kvS SB) w6 (T + 1) lS cS) := mS
                have HsS : Hid (SSpec A N JS lS) := sS
                have HkI : Hid (¬ SesIn A N ss) := hki
                have M71 : ∀ w : World, (Instr.makeMap 71 none).run Ybad.prog w = .ok (.map (some w.heap.size)) (w.alloc (.map #[] 0)) := fun w => by kernel_rfl
                have HSe7 : Sess (w6.alloc (.map #[] 0)) SB := HSe6.out.below ((Below.refl _ _).alloc (Nat.le_refl _) _)
                have U1 : (Instr.mapUpdate 65 (.map (some (T + 1))) (.pointer (some ⟨SB ss, 0, none⟩)) (.map (some w6.heap.size))).run Ybad.prog (w6.alloc (.map #[] 0)) = .ok () (setBlock (w6.alloc (.map #[] 0)) (T + 1) (.map ((RM.ins lS ss (.map (some w6.heap.size)) cS).map (RM.Ent.raw (kvS SB))).toArray (RM.insC lS ss cS))) :=
                  RM.run_update Ybad.underlying65 (sessKeys HSe7) (w := w6.alloc (.map #[] 0)) (alloc_lt (w := w6) _ mS) ss _
                clear mS sS hki
                go_wp2_with fail
                go_meet
                obtain ⟨JS', ρ', h1, h2, h3, h4⟩ := newS (k := k) (w' := setBlock (w6.alloc (Obj.map #[] 0)) (T + 1) (.map ((RM.ins lS ss (.map (some w6.heap.size)) cS).map (RM.Ent.raw (kvS SB))).toArray (RM.insC lS ss cS))) HK6.out HS6.out HmS.out HsS.out HkI.out rfl ⟨rfl, rfl, rfl⟩
                exact ⟨JS', ρ', HM6.out.keep h3 h4, h1, h2⟩
            case rest =>
              obtain ⟨JS2, ρ3, HM7, HS7, HK7⟩ := hcut
              clear HM6 HS6 HK6 HSe6 hm g1
              obtain ⟨w7, hw7⟩ : ∃ x, x = wc := ⟨_, rfl⟩
              subst hw7
              have g1 := HM7.out.tx.c1
              have k0 := HM7.out.k0
              have k1 := HM7.out.k1
              obtain ⟨lJ, cJ, mJ, sJ⟩ := HS7.out.mJ ss (.inr rfl)
              have HmJ : Hid (RM.IsMap kvK w7 (JS2 ss) lJ cJ ∧ JSpec A N ss lJ) := ⟨mJ, sJ⟩
              have HSe7 : Hid (∀ n, Sess (w7.drewN n) SB) := fun n => HSc.out _ _ _ _ _ (HM7.out.drewN n)
              have L65 : ∀ n, (Instr.lookup 65 (.map (some (T + 1))) (.pointer (some ⟨SB ss, 0, none⟩)) false).run Ybad.prog (w7.drewN n) = .ok (.map (some (JS2 ss))) (w7.drewN n) := fun n => by
                obtain ⟨l, c, h1, h2⟩ := HS7.out.mS
                have := RM.run_lookup Ybad.underlying65 (sessKeys (HSe7.out n)) (w := w7.drewN n) h1 (zero71 _) ss
                rw [(h2.2 ss _).2 ⟨(addW_ses ss).2 (.inr rfl), rfl⟩] at this
                exact this
              have U71 : ∀ n, (Instr.mapUpdate 71 (.map (some (JS2 ss))) (.agg #[.string k.1, .int .u8 (k.2 : Int)]) (.agg #[])).run Ybad.prog (w7.drewN n) = .ok () (setBlock (w7.drewN n) (JS2 ss) (.map ((RM.ins lJ k (.agg #[]) cJ).map (RM.Ent.raw kvK)).toArray (RM.insC lJ k cJ))) := fun n =>
                RM.run_update Ybad.underlying71 (watchKeys _) (w := w7.drewN n) mJ k _
              clear mJ sJ
              go_wp2_with fail
              refine wp_region_last (l := [_, _, _, _, _, _, _, _]) (o := _) rfl (by kernel_rfl) (by kernel_rfl) (by kernel_rfl) (by kernel_rfl) (by kernel_rfl) ?_
              repeat (go_big_quiet_step (fail))
              refine wpQuiet_nil ?_
              rintro _ ⟨nq, rfl⟩
              go_simp
              obtain ⟨h1, h2, h3, h4⟩ := putS HS7.out HK7.out HmJ.out.1 HmJ.out.2 nq
              have HM8 := HM7.out.keep h3 h4
              generalize setBlock (w7.drewN nq) (JS2 ss) (.map ((RM.ins lJ k (.agg #[]) cJ).map (RM.Ent.raw kvK)).toArray (RM.insC lJ k cJ)) = w8 at h1 h2 HM8 ⊢
              have HS8 : Hid (TS w8 T (T + 1) SB JS2 ρ3 (addW A N (k, ss)) (N + 1)) := h1
              have HK8 : Hid (TK w8 T T SB IK2 ρ3 (addW A N (k, ss)) (N + 1)) := h2
              replace HM8 : Hid (Mb wS w8 T HBk B al6 SB hf (addW A N (k, ss)) (N + 1) k) := HM8
              clear HM7 HK7 HS7 L65 U71 h1 h2 h3 h4 g1 k0 k1 HmJ HSe7
              go_wp2
              rw [hk.out] at HM8 HK8 HS8
              rw [hhf.out] at HM8
              refine ⟨⟨i + 1, N + 1, al6, IK2, JS2, ρ3, addW A N ((pb qq, kk), ss), hlt, by omega, rfl, HM8.out.bb hqq4 HK8.out HS8.out HI.out HX.out, H32.out.add hqq4 hkk2⟩, by simp [intOf]; omega⟩
    · obtain rfl : nw = i := by omega
      go_wp2
      exact b14 _ _ _ _ _ _ _ _ _ _ _ _ _ _ _ _ _ _ _ _ _ _ hT hSA hCA QS HB HBw Q2 Q3 Q4 HE H32 (by omega) hei5 hen hp1 hp2 hpp hfp13
end Go.Proofs.YbulkcrxoDoor.F
