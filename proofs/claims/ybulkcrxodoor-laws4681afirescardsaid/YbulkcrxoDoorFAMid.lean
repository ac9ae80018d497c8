/-
  LawS4681AFires: the law behind the building of the table: the kinds, 'notify'.
-/
import Derived.Test.YbulkcrxoDoorFATail
import Derived.Deep.DeepCutAuto
import Derived.Deep.CutBlock
import Derived.Deep.RegionWith
import Derived.Deep.RegionLaw
set_option linter.unusedVariables false
namespace Go.Proofs.YbulkcrxoDoor.F
open Go.RowKit Go.Any
open Go.ChangeMaps (setBlock)

set_option maxHeartbeats 100000000 in
set_option maxRecDepth 1000000 in
theorem amid {c0 c1 c5 c6 c7 c8 c9 c10 c13 c14 c15 c18 c19 c20 c21 c22 c23 c24 c25 c26 c27 c28 c29 c30 c31 c32 c33 c34 c35 c36 c37 c38 c39 c40 c41 c42 c43 c44 c45 c46 c47 c48 c49 c50 c51 c52 c53 c54 c55 c56 c57 c58 c59 c60 c61 c62 c63 c64 c65 c66 c67 c68 c69 c70 c71 c72 c73 c74 c75 c76 c77 c78 c79 c80 c81 c82 c83 c84 c85 c86 c87 c88 c89 c90 c91 c92 c93 c94 c95 c96 c97 c98 c99 c100 c101 c102 c103 c104 c105 c106 c107 c108 c109 c110 c111 c112 c113 c114 c115 c116 c117 c118 c119 c120 c121 c122 c123 c124 c125 c126 c127 c128 c129 c130 c131 c132 c133 c134 c135 c136 c137 c138 c139 c140 c141 c142 c143 c144 c145 c146 c147 c148 c149 c150 c151 c152 c153 c154 c155 c156 c157 c158 c159 c160 c161 c162 c163 c164 c165 c166 c167 c168 c169 c170 c171 c172 c173 c174 c175 c176 c177 c178 c179 c180 c181 c182 c183 c184 c185 c186 c187 c188 c189 c190 c191 c192 c193 c194 c195 c196 c197 c198 c199 c200 c201 c202 c203 c204 c205 c206 c207 c208 c209 c210 c211 c212 c213 c214 c215 c216 c217 c218 c219 c220 c221 c222 c223 c224 c225 c226 c227 c228 c229 c230 c231 c232 c233 c234 c235 c236 c237 c238 c239 c240 c241 c242 c243 c244 c245 c246 c247 c248 c249 c250 c251 c252 c253 c254 c255 c256 c257 c258 c259 c260 c261 c262 c263 c264 c265 c266 c267 c268 c269 c270 c271 c272 c273 c274 c275 c276 c277 c278 c279 c280 c281 c282 c283 c284 c285 c286 c287 c288 c289 c290 c291 c292 c293 c294 c295 c296 c297 c298 c299 c300 c301 c302 c303 c304 c305 c306 c307 c308 c309 c310 c311 c312 c313 c314 c315 c316 c317 c318 c319 c320 c321 c322 c323 c324 c325 c326 c327 c328 c329 c330 c331 c332 c333 c334 c335 c336 c337 c338 c339 c340 c341 c342 c343 c344 c345 c346 c347 c348 c349 c350 c351 c352 c353 c354 c355 c356 c357 c358 c359 c360 c361 c362 c363 c364 c365 c366 c367 c368 c369 c370 c371 c372 c373 c374 c375 c376 c377 c378 c379 c380 c381 c382 c383 c384 c385 c386 c387 c388 c389 c390 c391 c392 c393 c394 c395 c396 c397 c398 c399 c400 c401 c402 c403 c404 c405 c406 c407 c408 c409 c410 c411 c412 c413 c414 c415 c416 c417 c418 c419 c420 c421 c422 c423 c424 c425 c426 c427 c428 c429 c430 c431 c432 c433 c434 c435 c436 c437 c438 c439 c440 c441 c442 c443 c444 c445 c446 c447 c448 c449 c450 c451 c452 c453 c454 c455 c456 c457 c458 c459 c460 c461 c462 c463 c464 c465 c466 c467 c468 c469 c470 c471 c472 c473 c474 c475 c476 c477 c478 c479 c480 c481 c482 c483 c484 c485 c486 c487 c488 c489 c490 c491 c492 c493 c494 c495 c496 c497 lv : Value} (w w0 wS wr : World) (T SA CA : Nat) (SB : Fin 4 → Nat) (CB : Fin 4 → Option (Nat × Bool)) (IK : Key → Nat) (JS : Fin 4 → Nat) (ρ : Nat → Role) (A : Nat → Wt) (N : Nat) (al : Value) (u : Nat) (ev : Int) (ps : Nat) (ka : Option Addr) (nk kc : Nat) (kr : Nat → Nat)
    (hSA : Hid (SA = w.heap.size + 1)) (hT : Hid (T = wS.heap.size)) (Q : Hid (P1 w0 wS SA SA CA 4 SB CB)) (HB : Hid (Bd wS wr T al lv SB IK JS ρ A N)) (HBw : Hid (Below w.heap.size w wS)) (HTw : Hid (w.heap.size + 3 ≤ T)) (HKs : Hid (Ks w ka nk kr)) (HE : Hid (2 ≤ w.heap.size ∧ w.cell? ⟨1, 0, none⟩ = some (.int .i32 (-1)) ∧ w.cell? ⟨1, 1, none⟩ = some (.int .i64 (-1)) ∧ w.cell? ⟨1, 2, none⟩ = some (.int .i32 0))) (hN1 : N ≤ 1024) (hnk : nk ≤ 1024) (hps : ps < 256) (hwr : IntKind.u32.wrap ev = (u : Int)) (hu : u < 4294967296) :
    Code.wp Ybad.prog (restA 8) (bodyPost Ybad.prog Ybad.f3 fun e w' => e = .returned (.bool true) ∧ Below w.heap.size w w') ⟨#[c0, c1, .int .i32 ev, .int .u8 (ps : Int), .slice ka nk kc, c5, c6, c7, c8, c9, c10, .pointer (some ⟨SA, 0, none⟩), .pointer (some ⟨CA, 0, none⟩), c13, c14, c15, .pointer (some ⟨T + 2, 0, none⟩), lv, c18, c19, c20, c21, c22, c23, c24, c25, c26, c27, c28, c29, c30, c31, c32, c33, c34, c35, c36, c37, c38, c39, c40, c41, c42, c43, c44, c45, c46, c47, c48, c49, c50, c51, c52, c53, c54, c55, c56, c57, c58, c59, c60, c61, c62, c63, c64, c65, c66, c67, c68, c69, c70, c71, c72, c73, c74, c75, c76, c77, c78, c79, c80, c81, c82, c83, c84, c85, c86, c87, c88, c89, c90, c91, c92, c93, c94, c95, c96, c97, c98, c99, c100, c101, c102, c103, c104, c105, c106, c107, c108, c109, c110, c111, c112, c113, c114, c115, c116, c117, c118, c119, c120, c121, c122, c123, c124, c125, c126, c127, c128, c129, c130, c131, c132, c133, c134, c135, c136, c137, c138, c139, c140, c141, c142, c143, c144, c145, c146, c147, c148, c149, c150, c151, c152, c153, c154, c155, c156, c157, c158, c159, c160, c161, c162, c163, c164, c165, c166, c167, c168, c169, c170, c171, c172, c173, c174, c175, c176, c177, c178, c179, c180, c181, c182, c183, c184, c185, c186, c187, c188, c189, c190, c191, c192, c193, c194, c195, c196, c197, c198, c199, c200, c201, c202, c203, c204, c205, c206, c207, c208, c209, c210, c211, c212, c213, c214, c215, c216, c217, c218, c219, c220, c221, c222, c223, c224, c225, c226, c227, c228, c229, c230, c231, c232, c233, c234, c235, c236, c237, c238, c239, c240, c241, c242, c243, c244, c245, c246, c247, c248, c249, c250, c251, c252, c253, c254, c255, c256, c257, c258, c259, c260, c261, c262, c263, c264, c265, c266, c267, c268, c269, c270, c271, c272, c273, c274, c275, c276, c277, c278, c279, c280, c281, c282, c283, c284, c285, c286, c287, c288, c289, c290, c291, c292, c293, c294, c295, c296, c297, c298, c299, c300, c301, c302, c303, c304, c305, c306, c307, c308, c309, c310, c311, c312, c313, c314, c315, c316, c317, c318, c319, c320, c321, c322, c323, c324, c325, c326, c327, c328, c329, c330, c331, c332, c333, c334, c335, c336, c337, c338, c339, c340, c341, c342, c343, c344, c345, c346, c347, c348, c349, c350, c351, c352, c353, c354, c355, c356, c357, c358, c359, c360, c361, c362, c363, c364, c365, c366, c367, c368, c369, c370, c371, c372, c373, c374, c375, c376, c377, c378, c379, c380, c381, c382, c383, c384, c385, c386, c387, c388, c389, c390, c391, c392, c393, c394, c395, c396, c397, c398, c399, c400, c401, c402, c403, c404, c405, c406, c407, c408, c409, c410, c411, c412, c413, c414, c415, c416, c417, c418, c419, c420, c421, c422, c423, c424, c425, c426, c427, c428, c429, c430, c431, c432, c433, c434, c435, c436, c437, c438, c439, c440, c441, c442, c443, c444, c445, c446, c447, c448, c449, c450, c451, c452, c453, c454, c455, c456, c457, c458, c459, c460, c461, c462, c463, c464, c465, c466, c467, c468, c469, c470, c471, c472, c473, c474, c475, c476, c477, c478, c479, c480, c481, c482, c483, c484, c485, c486, c487, c488, c489, c490, c491, c492, c493, c494, c495, c496, c497], []⟩ wr := by
  conv => arg 2; whnf
  have HI : Hid (Inj A N) := HB.out.inj
  obtain ⟨la, lcap, rfl, hLst⟩ := lst_of HB.out.lst
  have HLst : Hid (Lst wr T la A N) := hLst
  clear hLst
  obtain ⟨wL, hwL⟩ : ∃ x, x = wr := ⟨_, rfl⟩
  subst hwL
  have Hsz : Hid (T + 2 < wL.heap.size) := World.block_lt_of_cell? _ _ HB.out.tx.c0
  have HBx : Hid (Below w.heap.size w wL) := HBw.out.trans (HB.out.bel.mono (by have := HTw.out; omega))
  obtain ⟨AB, t1, t2, t3⟩ := Tbl.of HB.out.tk HB.out.ts HB.out.tx HB.out.inj (by omega) (by omega) (by omega) (by omega) (by omega)
  obtain ⟨K, hK⟩ : ∃ K, Hid (K = wL.heap.size) := ⟨_, rfl⟩
  rw [← hK.out] at t1
  have HT : Hid (Tbl wL T K (T + 2) T (T + 1) AB SB IK JS ρ A N) := t1
  have HAB : Hid ((0 < N → T + 2 < AB ∧ al.ownBlock = some AB) ∧ (N = 0 → AB = 0)) := ⟨t2, t3⟩
  clear t1 t2 t3
  have m74 := make74 nk hnk wL
  rw [← hK.out] at m74
  go_wp2_with fail
  have P0 : Hid (P3 wL (wL.alloc (.cells (madeCells #[.int .u8 0] nk) 59)) K nk kr 0) := P3.start hK.out
  generalize wL.alloc (.cells (madeCells #[.int .u8 0] nk) 59) = wM at P0 ⊢
  clear m74
  go_loopw [193] (fun iv wx => ∃ i : Nat, i ≤ nk ∧ iv = .int .i64 i ∧ Hid (P3 wL wx K nk kr i)) (fun iv _ => nk - (intOf iv).toNat)
  case atStart => exact ⟨0, by omega, rfl, P0⟩
  case round =>
    obtain ⟨i, hi, rfl, P⟩ := hrel
    clear P0
    by_cases hlt : i < nk
    · have hlt' : (i : Int) < nk := by omega
      obtain ⟨kb, off, rfl, g0⟩ := HKs.out.c i hlt
      have hkr := HKs.out.p i
      obtain ⟨xk, hxk⟩ : ∃ x, Hid (x = kr i) := ⟨_, rfl⟩
      rw [← hxk.out] at g0 hkr
      have lb : kb < w.heap.size := World.block_lt_of_cell? _ _ g0
      replace g0 := ((P.out.bel.mono (by have := hK.out; have := HBx.out.size; omega)).cell (p := ⟨kb, _, none⟩) lb).trans ((HBx.out.cell (p := ⟨kb, _, none⟩) lb).trans g0)
      have er : Int.tmod (xk : Int) 3 = ((xk % 3 : Nat) : Int) := by rw [Int.tmod_eq_emod_of_nonneg (by omega)]; omega
      obtain ⟨us, gs⟩ := Option.isSome_iff_exists.1 (P.out.all i hlt)
      have fs := fz P.out.blk i
      go_wp2
      refine ⟨⟨i + 1, hlt, rfl, ?_⟩, by simp [intOf]; omega⟩
      have := P.out.next hlt
      rw [← hxk.out, show ((xk % 3 : Nat) : Int) = (xk : Int) % 3 by omega] at this
      exact this
    · obtain rfl : nk = i := by omega
      go_wp2_with (go_at_call 8; refine (apath ps hps _).mono ?_; rintro e w1 ⟨rfl, rfl⟩)
      obtain ⟨pp, hpp⟩ : ∃ x, Hid (x = pth ps) := ⟨_, rfl⟩
      rw [← hpp.out]
      have hpl : pp.size ≤ 8 := by rw [hpp.out]; exact pth_size ps
      obtain ⟨V, hV⟩ : ∃ V, Hid (V = w1.heap.size) := ⟨_, rfl⟩
      have hVK : V = K + 1 := by rw [hV.out]; exact P.out.sz
      rw [← hV.out]
      have BV : Hid (Below K wL (w1.alloc (Obj.cells (srvC (T + 2)) 93))) := P.out.bel.alloc (by have := P.out.sz; omega) _
      have HSV : Hid (Srv (w1.alloc (Obj.cells (srvC (T + 2)) 93)) V (T + 2) 0 0) := by rw [hV.out]; exact srv_new w1 (T + 2)
      have HKD : Hid (∀ j, j < nk → (w1.alloc (Obj.cells (srvC (T + 2)) 93)).cell? ⟨K, j, none⟩ = some (.int .u8 ((kr j % 3 : Nat) : Int))) := fun j hj => (World.cell?_alloc_lt w1 _ ⟨K, j, none⟩ (by show K < _; rw [P.out.sz]; omega)).trans (P.out.set j hj)
      have HKB : Hid (∃ c t, (w1.alloc (Obj.cells (srvC (T + 2)) 93)).heap[K]? = some (.cells c t (0, 0))) := by
        obtain ⟨c, t, e⟩ := P.out.blk
        exact ⟨c, t, alloc_lt _ e⟩
      obtain ⟨kd, hkd⟩ : ∃ f : Nat → Nat, Hid (f = fun j => kr j % 3) := ⟨_, rfl⟩
      have TK' : T ≤ K := by have := hK.out; have := Hsz.out; omega
      have BVL : Hid (Below wL.heap.size wL (w1.alloc (Obj.cells (srvC (T + 2)) 93))) := by rw [← hK.out]; exact BV.out
      have BVS : Hid (Below wS.heap.size wS (w1.alloc (Obj.cells (srvC (T + 2)) 93))) := by
        rw [← hT.out]
        exact HB.out.bel.trans (BV.out.mono TK')
      have BVw : Hid (Below w.heap.size w (w1.alloc (Obj.cells (srvC (T + 2)) 93))) := HBx.out.trans (BV.out.mono (by have := HTw.out; omega))
      have A9 := notify T K V (T + 2) T (T + 1) AB SB CB IK JS ρ A N ev u pp (some ⟨K, 0, none⟩) nk nk kd (w1.alloc (Obj.cells (srvC (T + 2)) 93)) (HT.out.below BVL.out) (Q.out.sess.below BVS.out) (by rw [hT.out]; exact Q.out.env (by rw [← hT.out]; exact TK') (by omega)) hnk
        (fun j hj => ⟨K, rfl, by rw [hkd.out]; exact HKD.out j hj, Nat.le_refl _⟩) hpl hwr hu (by have := HTw.out; omega)
        ((BVw.out.cell (p := ⟨1, 0, none⟩) (by have := HE.out.1; show 1 < _; omega)).trans HE.out.2.1) ((BVw.out.cell (p := ⟨1, 1, none⟩) (by have := HE.out.1; show 1 < _; omega)).trans HE.out.2.2.1) ((BVw.out.cell (p := ⟨1, 2, none⟩) (by have := HE.out.1; show 1 < _; omega)).trans HE.out.2.2.2)
        (fun j lo fr len => Q.out.gots BVS.out j lo fr len) HSV.out
      refine A9.mono ?_
      clear A9
      rintro e w9 ⟨A', N', D, FB, lo, rfl, T9, H9, D9, AF9, BF9, lo9, FR9, AL9⟩
      have HN : Hid (Nf w w9 T K V AB SA CA SB CB IK JS ρ A N A' N' D FB lo u pp kd nk la) := Nf.of Q.out hT.out (by have := hSA.out; omega) HB.out hK.out BV.out hVK HAB.out (fun j hj => by rw [hkd.out]; exact HKD.out j hj) HKB.out BVw.out HLst.out T9 H9 D9 AF9 BF9 FR9 AL9
      clear T9 H9 D9 AF9 BF9 FR9 AL9
      rename_i K8 h8 K9 h9
      have HS8 : ∀ a w, Stop (restA 13) _ a w → K8 a w := h8
      clear h8
      subst hVK
      go_wp2
      exact atail _ _ _ _ _ _ _ _ _ _ _ _ _ _ _ _ _ _ _ _ _ _ _ _ _ _ _ HN hN1 hnk hpl hwr hu rfl
end Go.Proofs.YbulkcrxoDoor.F
