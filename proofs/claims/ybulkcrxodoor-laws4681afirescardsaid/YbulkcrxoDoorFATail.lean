/-
  LawS4681AFires: the law behind 'notify': the list is checked.
-/
import Derived.Test.YbulkcrxoDoorFAEnd
import Derived.Deep.DeepCutAuto
import Derived.Deep.CutBlock
import Derived.Deep.RegionWith
import Derived.Deep.RegionLaw
set_option linter.unusedVariables false
namespace Go.Proofs.YbulkcrxoDoor.F
open Go.RowKit Go.Any
open Go.ChangeMaps (setBlock)

set_option maxHeartbeats 100000000 in
set_option maxRecDepth 1000000 in
theorem atail {c0 c1 c3 c4 c5 c6 c7 c8 c9 c10 c13 c14 c15 c18 c19 c20 c21 c22 c23 c24 c26 c27 c30 c31 c32 c33 c34 c35 c36 c37 c38 c39 c40 c41 c42 c43 c44 c45 c46 c47 c48 c49 c50 c51 c52 c53 c54 c55 c56 c57 c58 c59 c60 c61 c62 c63 c64 c65 c66 c67 c68 c69 c70 c71 c72 c73 c74 c75 c76 c77 c78 c79 c80 c81 c82 c83 c84 c85 c86 c87 c88 c89 c90 c91 c92 c93 c94 c95 c96 c97 c98 c99 c100 c101 c102 c103 c104 c105 c106 c107 c108 c109 c110 c111 c112 c113 c114 c115 c116 c117 c118 c119 c120 c121 c122 c123 c124 c125 c126 c127 c128 c129 c130 c131 c132 c133 c134 c135 c136 c137 c138 c139 c140 c141 c142 c143 c144 c145 c146 c147 c148 c149 c150 c151 c152 c153 c154 c155 c156 c157 c158 c159 c160 c161 c162 c163 c164 c165 c166 c167 c168 c169 c170 c171 c172 c173 c174 c175 c176 c177 c178 c179 c180 c181 c182 c183 c184 c185 c186 c187 c188 c189 c190 c191 c192 c193 c194 c195 c196 c197 c198 c199 c200 c201 c202 c203 c204 c205 c206 c207 c208 c209 c210 c211 c212 c213 c214 c215 c216 c217 c218 c219 c220 c221 c222 c223 c224 c225 c226 c227 c228 c229 c230 c231 c232 c233 c234 c235 c236 c237 c238 c239 c240 c241 c242 c243 c244 c245 c246 c247 c248 c249 c250 c251 c252 c253 c254 c255 c256 c257 c258 c259 c260 c261 c262 c263 c264 c265 c266 c267 c268 c269 c270 c271 c272 c273 c274 c275 c276 c277 c278 c279 c280 c281 c282 c283 c284 c285 c286 c287 c288 c289 c290 c291 c292 c293 c294 c295 c296 c297 c298 c299 c300 c301 c302 c303 c304 c305 c306 c307 c308 c309 c310 c311 c312 c313 c314 c315 c316 c317 c318 c319 c320 c321 c322 c323 c324 c325 c326 c327 c328 c329 c330 c331 c332 c333 c334 c335 c336 c337 c338 c339 c340 c341 c342 c343 c344 c345 c346 c347 c348 c349 c350 c351 c352 c353 c354 c355 c356 c357 c358 c359 c360 c361 c362 c363 c364 c365 c366 c367 c368 c369 c370 c371 c372 c373 c374 c375 c376 c377 c378 c379 c380 c381 c382 c383 c384 c385 c386 c387 c388 c389 c390 c391 c392 c393 c394 c395 c396 c397 c398 c399 c400 c401 c402 c403 c404 c405 c406 c407 c408 c409 c410 c411 c412 c413 c414 c415 c416 c417 c418 c419 c420 c421 c422 c423 c424 c425 c426 c427 c428 c429 c430 c431 c432 c433 c434 c435 c436 c437 c438 c439 c440 c441 c442 c443 c444 c445 c446 c447 c448 c449 c450 c451 c452 c453 c454 c455 c456 c457 c458 c459 c460 c461 c462 c463 c464 c465 c466 c467 c468 c469 c470 c471 c472 c473 c474 c475 c476 c477 c478 c479 c480 c481 c482 c483 c484 c485 c486 c487 c488 c489 c490 c491 c492 c493 c494 c495 c496 c497 : Value} (w w9 : World) (T K V AB SA CA : Nat) (SB : Fin 4 → Nat) (CB : Fin 4 → Option (Nat × Bool)) (IK : Key → Nat) (JS : Fin 4 → Nat) (ρ : Nat → Role) (A : Nat → Wt) (N : Nat) (A' : Nat → Wt) (N' : Nat) (D : Fin 4 → Bool) (FB lo u : Nat) (pp : ByteArray) (kd : Nat → Nat) (nk : Nat) (la : Option Addr) (ev : Int) (lcap : Nat)
    (HN : Hid (Nf w w9 T K V AB SA CA SB CB IK JS ρ A N A' N' D FB lo u pp kd nk la)) (hNN : N ≤ 1024) (hnk : nk ≤ 1024) (hpl : pp.size ≤ 8) (hwr : IntKind.u32.wrap ev = (u : Int)) (hu : u < 4294967296) (hVK : V = K + 1) :
    Code.wp Ybad.prog (restA 13) (bodyPost Ybad.prog Ybad.f3 fun e w' => e = .returned (.bool true) ∧ Below w.heap.size w w') ⟨#[c0, c1, .int .i32 ev, c3, c4, c5, c6, c7, c8, c9, c10, .pointer (some ⟨SA, 0, none⟩), .pointer (some ⟨CA, 0, none⟩), c13, c14, c15, .pointer (some ⟨T + 2, 0, none⟩), .slice la N lcap, c18, c19, c20, c21, c22, c23, c24, .slice (some ⟨K, 0, none⟩) nk nk, c26, c27, .string pp, .pointer (some ⟨K + 1, 0, none⟩), c30, c31, c32, c33, c34, c35, c36, c37, c38, c39, c40, c41, c42, c43, c44, c45, c46, c47, c48, c49, c50, c51, c52, c53, c54, c55, c56, c57, c58, c59, c60, c61, c62, c63, c64, c65, c66, c67, c68, c69, c70, c71, c72, c73, c74, c75, c76, c77, c78, c79, c80, c81, c82, c83, c84, c85, c86, c87, c88, c89, c90, c91, c92, c93, c94, c95, c96, c97, c98, c99, c100, c101, c102, c103, c104, c105, c106, c107, c108, c109, c110, c111, c112, c113, c114, c115, c116, c117, c118, c119, c120, c121, c122, c123, c124, c125, c126, c127, c128, c129, c130, c131, c132, c133, c134, c135, c136, c137, c138, c139, c140, c141, c142, c143, c144, c145, c146, c147, c148, c149, c150, c151, c152, c153, c154, c155, c156, c157, c158, c159, c160, c161, c162, c163, c164, c165, c166, c167, c168, c169, c170, c171, c172, c173, c174, c175, c176, c177, c178, c179, c180, c181, c182, c183, c184, c185, c186, c187, c188, c189, c190, c191, c192, c193, c194, c195, c196, c197, c198, c199, c200, c201, c202, c203, c204, c205, c206, c207, c208, c209, c210, c211, c212, c213, c214, c215, c216, c217, c218, c219, c220, c221, c222, c223, c224, c225, c226, c227, c228, c229, c230, c231, c232, c233, c234, c235, c236, c237, c238, c239, c240, c241, c242, c243, c244, c245, c246, c247, c248, c249, c250, c251, c252, c253, c254, c255, c256, c257, c258, c259, c260, c261, c262, c263, c264, c265, c266, c267, c268, c269, c270, c271, c272, c273, c274, c275, c276, c277, c278, c279, c280, c281, c282, c283, c284, c285, c286, c287, c288, c289, c290, c291, c292, c293, c294, c295, c296, c297, c298, c299, c300, c301, c302, c303, c304, c305, c306, c307, c308, c309, c310, c311, c312, c313, c314, c315, c316, c317, c318, c319, c320, c321, c322, c323, c324, c325, c326, c327, c328, c329, c330, c331, c332, c333, c334, c335, c336, c337, c338, c339, c340, c341, c342, c343, c344, c345, c346, c347, c348, c349, c350, c351, c352, c353, c354, c355, c356, c357, c358, c359, c360, c361, c362, c363, c364, c365, c366, c367, c368, c369, c370, c371, c372, c373, c374, c375, c376, c377, c378, c379, c380, c381, c382, c383, c384, c385, c386, c387, c388, c389, c390, c391, c392, c393, c394, c395, c396, c397, c398, c399, c400, c401, c402, c403, c404, c405, c406, c407, c408, c409, c410, c411, c412, c413, c414, c415, c416, c417, c418, c419, c420, c421, c422, c423, c424, c425, c426, c427, c428, c429, c430, c431, c432, c433, c434, c435, c436, c437, c438, c439, c440, c441, c442, c443, c444, c445, c446, c447, c448, c449, c450, c451, c452, c453, c454, c455, c456, c457, c458, c459, c460, c461, c462, c463, c464, c465, c466, c467, c468, c469, c470, c471, c472, c473, c474, c475, c476, c477, c478, c479, c480, c481, c482, c483, c484, c485, c486, c487, c488, c489, c490, c491, c492, c493, c494, c495, c496, c497], []⟩ w9 := by
  conv => arg 2; whnf
  obtain ⟨z, hz⟩ : ∃ z, Hid (z = w9.heap.size) := ⟨_, rfl⟩
  go_wp2_with fail
  have L0 : Hid (L4 w9 _ z (hitB pp kd nk) A 0) := L4.start hz.out
  rw [← hz.out]
  generalize (w9.alloc (.cells #[.bool false, .bool false, .bool false, .bool false] 96)).alloc (.cells #[.int .i64 0, .int .i64 0, .int .i64 0, .int .i64 0] 97) = wa0 at L0 ⊢
  rename_i K6 h6
  have HS6 : ∀ a w, Stop (restA 17) _ a w → K6 a w := h6
  clear h6
  go_loopw [32, 216] (fun rv iv wx => ∃ i : Nat, i ≤ N ∧ iv = .int .i64 i ∧ rv = .int .i64 ((rc (fun x => !hitB pp kd nk x) A i : Nat) : Int) ∧ Hid (L4 w9 wx z (hitB pp kd nk) A i)) (fun _ iv _ => N - (intOf iv).toNat)
  case atStart => exact ⟨0, by omega, rfl, rfl, L0⟩
  case round =>
    obtain ⟨i, hi, rfl, rfl, HL⟩ := hrel
    clear L0
    obtain ⟨rn, hrn⟩ : ∃ n, Hid (n = rc (fun x => !hitB pp kd nk x) A i) := ⟨_, rfl⟩
    rw [← hrn.out]
    have hrnb : rn ≤ 1024 := by have := rc_le (fun x => !hitB pp kd nk x) A i; rw [← hrn.out] at this; omega
    by_cases hlt : i < N
    · have hlt' : (i : Int) < N := by omega
      obtain ⟨LB, lc, rfl, hLB, hlb, d0, d1, d2⟩ := HN.out.ls i hlt
      have lLB : LB < z := by
        rw [hz.out]
        rcases Array.getElem?_eq_some_iff.1 hlb with ⟨h, _⟩
        exact h
      have hlb' := (HL.out.bel.block LB lLB).trans hlb
      have y0 : wr.cell? ⟨LB, i * 3, none⟩ = some (.string (A i).1.1) := by simp only [World.cell?, hlb']; exact d0
      have y1 : wr.cell? ⟨LB, i * 3 + 1, none⟩ = some (.int .u8 ((A i).1.2 : Int)) := by simp only [World.cell?, hlb']; exact d1
      have y2 : wr.cell? ⟨LB, i * 3 + 2, none⟩ = some (.int .i64 ((A i).2.val : Int)) := by simp only [World.cell?, hlb']; exact d2
      clear d0 d1 d2 hlb'
      obtain ⟨k, s, hks⟩ : ∃ k s, Hid (A i = (k, s)) := ⟨_, _, rfl⟩
      rw [hks.out] at y0 y1 y2
      simp only at y0 y1 y2
      obtain ⟨hb, hhb⟩ : ∃ b, Hid (b = hitB pp kd nk (k, s)) := ⟨_, rfl⟩
      go_upto_if 224 with fail
      have HPl : Hid (Pl (wr.alloc (.cells #[.string k.1, .int .u8 (k.2 : Int), .int .i64 (s.val : Int)] 73)) wr.heap.size k s) := Pl.new wr k s
      have HLy : Hid (L4 w9 (wr.alloc (.cells #[.string k.1, .int .u8 (k.2 : Int), .int .i64 (s.val : Int)] 73)) z (hitB pp kd nk) A i) := HL.out.ext ((Below.refl _ _).alloc (Nat.le_refl _) _)
      obtain ⟨P, hP⟩ : ∃ P, Hid (P = wr.heap.size) := ⟨_, rfl⟩
      have hPz : z + 1 < P := by rw [hP.out]; exact HL.out.lt
      rw [← hP.out] at HPl ⊢
      generalize wr.alloc (.cells #[.string k.1, .int .u8 (k.2 : Int), .int .i64 (s.val : Int)] 73) = wy at HPl HLy ⊢
      clear y0 y1 y2 HL
      have lVz : V < z := by rw [hz.out]; exact World.block_lt_of_cell? _ _ HN.out.af.srv.s
      have lKz : K < z := by omega
      go_cut [35] (fun v wz => v = .bool hb ∧ wz = wy)
      case first =>
        have p1 := HPl.out.c1
        go_wp2_with fail
        · rename_i hsp
          have hkp : k.1 = pp := by rw [bytes_eq] at hsp; simpa using hsp
          clear hsp
          go_loopw [35, 227] (fun tv jv wz => ∃ j : Nat, j ≤ nk ∧ jv = .int .i64 j ∧ tv = .bool false ∧ wz = wy ∧ Hid (∀ t, t < j → kd t ≠ k.2)) (fun _ jv _ => nk - (intOf jv).toNat)
          case atStart => exact ⟨0, by omega, rfl, rfl, rfl, fun t ht => absurd ht (Nat.not_lt_zero _)⟩
          case round =>
            obtain ⟨j, hj, rfl, rfl, rfl, HJ⟩ := hrel
            by_cases hlj : j < nk
            · have hlj' : (j : Int) < nk := by omega
              have gk := (HLy.out.bel.cell (p := ⟨K, j, none⟩) lKz).trans (HN.out.ks j hlj)
              by_cases hq : kd j = k.2
              · rw [hq] at gk
                go_wp2_with fail
                go_meet
                exact ⟨by rw [hhb.out, hitB_true.2 ⟨hkp, j, hlj, hq⟩], rfl⟩
              · have hq' : ¬ (kd j : Int) = (k.2 : Int) := by omega
                go_wp2
                refine ⟨⟨j + 1, hlj, by first | rfl | trivial, by first | rfl | trivial, by first | rfl | trivial, ?_⟩, by simp [intOf]; omega⟩
                intro t ht
                rcases Nat.lt_succ_iff_lt_or_eq.1 ht with h | h
                · exact HJ.out t h
                · rw [h]; exact hq
            · obtain rfl : nk = j := by omega
              go_wp2_with fail
              go_meet
              refine ⟨?_, rfl⟩
              rw [hhb.out, hitB_false.2]
              rintro ⟨_, t, ht, e⟩
              exact HJ.out t ht e
        · rename_i hsp
          have hkp : ¬ k.1 = pp := by rw [bytes_eq] at hsp; simpa using hsp
          go_meet
          refine ⟨?_, rfl⟩
          rw [hhb.out, hitB_false.2]
          rintro ⟨e, _⟩
          exact hkp e
      case rest =>
        obtain ⟨rfl, hwc⟩ := hcut
        subst hwc
        have p0 := HPl.out.c0
        have p1 := HPl.out.c1
        have p2 := HPl.out.c2
        have hs4 : s.val < 4 := s.isLt
        have hs4' : (s.val : Int) < 4 := by omega
        have hes : (s.val : Int).toNat = s.val := by simp
        have lTz : T + 2 < z := by rw [hz.out]; exact World.block_lt_of_cell? _ _ HN.out.t.c0
        have gs := (HLy.out.bel.cell (p := ⟨SA, s.val, none⟩) (by rw [hz.out]; exact World.block_lt_of_cell? _ _ (HN.out.sa s))).trans (HN.out.sa s)
        obtain ⟨m, m', hm⟩ := mk_ex A' N' IK JS k s
        have HM : Hid (Mk A' N' IK JS k s m m') := hm
        clear hm
        have HTb : Hid (∀ w', Below z w9 w' → Tbl w' T K (T + 2) T (T + 1) AB SB IK JS ρ A' N' ∧ Sess w' SB) := fun w' h => ⟨HN.out.t.below (by rw [← hz.out]; exact h), HN.out.sess.below (by rw [← hz.out]; exact h)⟩
        cases hb with
        | true =>
          have HQ : Hid (hitB pp kd nk (k, s) = true) := hhb.out.symm
          obtain ⟨fv, gf⟩ : ∃ v, wc.cell? ⟨z, s.val, none⟩ = some v := ⟨_, HLy.out.f s⟩
          have ff := fz HLy.out.bf s.val
          go_upto_region 59 with fail
          have HL1 : Hid (L4 w9 (wc.setCell ⟨z, s.val, none⟩ (.bool true)) z (hitB pp kd nk) A (i + 1)) := by
            have := HLy.out.hit (by rw [hks.out]; exact HQ.out)
            rw [hks.out] at this
            exact this
          have HP1 : Hid (Pl (wc.setCell ⟨z, s.val, none⟩ (.bool true)) P k s) := HPl.out.set (by omega) _
          generalize wc.setCell ⟨z, s.val, none⟩ (.bool true) = wf at HL1 HP1 ⊢
          clear p0 p1 p2 gf ff gs HPl HLy
          have p0 := HP1.out.c0
          have p1 := HP1.out.c1
          have HX : Hid (¬ Has A' N' (k, s)) := fun h => ((HN.out.has _).1 h).2 (hitB_true.1 HQ.out)
          have t0 := (HTb.out _ HL1.out.bel).1.c0
          have HD : Hid (∀ n, Below z w9 (wf.drewN n)) := fun n => Below.same HL1.out.bel rfl ⟨rfl, rfl, rfl⟩
          have L64 : ∀ n, (Instr.lookup 64 (.map (some T)) (.agg #[.string k.1, .int .u8 (k.2 : Int)]) false).run Ybad.prog (wf.drewN n) = .ok (.map m) (wf.drewN n) := fun n => look64 (HTb.out _ (HD.out n)).1 HM.out
          have L63 : ∀ n, (Instr.lookup 63 (.map m) (.pointer (some ⟨SB s, 0, none⟩)) true).run Ybad.prog (wf.drewN n) = .ok (.tuple #[.int .i64 0, .bool false]) (wf.drewN n) := fun n => look63n (HTb.out _ (HD.out n)).1 (HTb.out _ (HD.out n)).2 HM.out HX.out
          go_quiet (fail)
          clear L64 L63 t0
          go_upto_region 62 with fail
          have HL2 : Hid (L4 w9 (wf.drewN nq) z (hitB pp kd nk) A (i + 1)) := HL1.out.ext ⟨rfl, rfl, rfl, Nat.le_refl _, fun _ _ => rfl⟩
          have HP2 : Hid (Pl (wf.drewN nq) P k s) := HP1.out
          generalize wf.drewN nq = wg at HL2 HP2 ⊢
          clear p0 p1 HD
          have p0 := HP2.out.c0
          have p1 := HP2.out.c1
          have t1 := (HTb.out _ HL2.out.bel).1.c1
          have HL3 : Hid (L4 w9 (wg.alloc (.cells #[] 36)) z (hitB pp kd nk) A (i + 1)) := HL2.out.ext ((Below.refl _ _).alloc (Nat.le_refl _) _)
          have HB : Hid (∀ w' : World, (w'.heap = wg.heap ∨ w'.heap = (wg.alloc (.cells #[] 36)).heap) ∧ w'.os = wg.os ∧ w'.tape = wg.tape ∧ w'.output = wg.output → Below z w9 w') := fun w' h => by
            rcases h with ⟨h | h, ho⟩
            · exact Below.same HL2.out.bel h ho
            · exact Below.same HL3.out.bel h ho
          have q0 := World.cell?_of_block (w := wg) (w' := wg.alloc (.cells #[] 36)) (a := ⟨P, 0, none⟩) (Below.heap_alloc _ _ _ (World.block_lt_of_cell? _ _ p0))
          have q1 := World.cell?_of_block (w := wg) (w' := wg.alloc (.cells #[] 36)) (a := ⟨P, 1, none⟩) (Below.heap_alloc _ _ _ (World.block_lt_of_cell? _ _ p1))
          have q2 := World.cell?_of_block (w := wg) (w' := wg.alloc (.cells #[] 36)) (a := ⟨T + 2, 1, none⟩) (Below.heap_alloc _ _ _ (World.block_lt_of_cell? _ _ t1))
          rw [p0] at q0
          rw [p1] at q1
          rw [t1] at q2
          have L65a : (Instr.lookup 65 (.map (some (T + 1))) (.pointer (some ⟨SB s, 0, none⟩)) false).run Ybad.prog wg.drew = .ok (.map m') wg.drew := look65 (HTb.out wg.drew (HB.out wg.drew ⟨.inl rfl, rfl, rfl, rfl⟩)).1 (HTb.out wg.drew (HB.out wg.drew ⟨.inl rfl, rfl, rfl, rfl⟩)).2 HM.out
          have L65b : (Instr.lookup 65 (.map (some (T + 1))) (.pointer (some ⟨SB s, 0, none⟩)) false).run Ybad.prog (wg.alloc (.cells #[] 36)).drew = .ok (.map m') (wg.alloc (.cells #[] 36)).drew := look65 (HTb.out (wg.alloc (.cells #[] 36)).drew (HB.out (wg.alloc (.cells #[] 36)).drew ⟨.inr rfl, rfl, rfl, rfl⟩)).1 (HTb.out (wg.alloc (.cells #[] 36)).drew (HB.out (wg.alloc (.cells #[] 36)).drew ⟨.inr rfl, rfl, rfl, rfl⟩)).2 HM.out
          have L71a : (Instr.lookup 71 (.map m') (.agg #[.string k.1, .int .u8 (k.2 : Int)]) true).run Ybad.prog wg.drew = .ok (.tuple #[.agg #[], .bool false]) wg.drew := look71n (HTb.out wg.drew (HB.out wg.drew ⟨.inl rfl, rfl, rfl, rfl⟩)).1 HM.out HX.out
          have L71b : (Instr.lookup 71 (.map m') (.agg #[.string k.1, .int .u8 (k.2 : Int)]) true).run Ybad.prog (wg.alloc (.cells #[] 36)).drew = .ok (.tuple #[.agg #[], .bool false]) (wg.alloc (.cells #[] 36)).drew := look71n (HTb.out (wg.alloc (.cells #[] 36)).drew (HB.out (wg.alloc (.cells #[] 36)).drew ⟨.inr rfl, rfl, rfl, rfl⟩)).1 HM.out HX.out
          go_region
          all_goals
            go_wp2
            refine ⟨⟨i + 1, hlt, by first | rfl | trivial, ?_, HL3.out.ext ⟨rfl, rfl, rfl, Nat.le_refl _, fun _ _ => rfl⟩⟩, by simp [intOf]; omega⟩
            rw [rc_skip (by rw [hks.out, HQ.out]; rfl), ← hrn.out]
        | false =>
          have HQ : Hid (hitB pp kd nk (k, s) = false) := hhb.out.symm
          obtain ⟨fv, gf, hfv⟩ : ∃ v : Nat, wc.cell? ⟨z + 1, s.val, none⟩ = some (.int .i64 (v : Nat)) ∧ Hid (v = rc (fun x => !hitB pp kd nk x && decide (x.2 = s)) A i) := ⟨_, HLy.out.l s, rfl⟩
          have hfvb : fv ≤ 1024 := by have := rc_le (fun x => !hitB pp kd nk x && decide (x.2 = s)) A i; rw [← hfv.out] at this; omega
          have ff := fz HLy.out.bl s.val
          go_upto_region 67 with fail
          have HL1 : Hid (L4 w9 (wc.setCell ⟨z + 1, s.val, none⟩ (.int .i64 ((fv : Int) + 1))) z (hitB pp kd nk) A (i + 1)) := by
            have := HLy.out.miss (by rw [hks.out]; exact HQ.out)
            rw [hks.out] at this
            rw [hfv.out]
            exact this
          have HP1 : Hid (Pl (wc.setCell ⟨z + 1, s.val, none⟩ (.int .i64 ((fv : Int) + 1))) P k s) := HPl.out.set (by omega) _
          generalize wc.setCell ⟨z + 1, s.val, none⟩ (.int .i64 ((fv : Int) + 1)) = wf at HL1 HP1 ⊢
          clear p0 p1 p2 gf ff gs HPl HLy
          have p0 := HP1.out.c0
          have p1 := HP1.out.c1
          have HX : Hid (Has A' N' (k, s)) := (HN.out.has _).2 ⟨⟨i, hlt, hks.out⟩, hitB_false.1 HQ.out⟩
          obtain ⟨i0, hi0, hA⟩ := HX.out
          have HA0 : Hid (A' i0 = (k, s)) := hA
          clear hA
          have t0 := (HTb.out _ HL1.out.bel).1.c0
          have HD : Hid (∀ n, Below z w9 (wf.drewN n)) := fun n => Below.same HL1.out.bel rfl ⟨rfl, rfl, rfl⟩
          have L64 : ∀ n, (Instr.lookup 64 (.map (some T)) (.agg #[.string k.1, .int .u8 (k.2 : Int)]) false).run Ybad.prog (wf.drewN n) = .ok (.map m) (wf.drewN n) := fun n => look64 (HTb.out _ (HD.out n)).1 HM.out
          have L63 : ∀ n, (Instr.lookup 63 (.map m) (.pointer (some ⟨SB s, 0, none⟩)) true).run Ybad.prog (wf.drewN n) = .ok (.tuple #[.int .i64 (i0 : Int), .bool true]) (wf.drewN n) := fun n => look63 (HTb.out _ (HD.out n)).1 (HTb.out _ (HD.out n)).2 HM.out hi0 HA0.out
          go_quiet (fail)
          clear L64 L63 t0
          go_upto_region 68 with fail
          have HL2 : Hid (L4 w9 (wf.drewN nq) z (hitB pp kd nk) A (i + 1)) := HL1.out.ext ⟨rfl, rfl, rfl, Nat.le_refl _, fun _ _ => rfl⟩
          have HP2 : Hid (Pl (wf.drewN nq) P k s) := HP1.out
          generalize wf.drewN nq = wg at HL2 HP2 ⊢
          clear p0 p1 HD
          have p0 := HP2.out.c0
          have p1 := HP2.out.c1
          obtain ⟨ao, cap, c2, hcap, hao⟩ := (HTb.out _ HL2.out.bel).1.c2
          obtain rfl := hao (by omega)
          clear hao
          obtain ⟨e0, e1, e2⟩ := (HTb.out _ HL2.out.bel).1.ce i0 hi0
          rw [HA0.out] at e0 e1 e2
          unfold kvS at e2
          simp only at e0 e1 e2
          have hi0' : (i0 : Int) < N' := by omega
          have d1 : decide ((i0 : Int) < 0) = false := by simp
          have d2 : decide ((N' : Int) ≤ i0) = false := by simp; omega
          have hN61 := fun n => neq61 (wg.drewN n) k
          have hN25 := fun n => neq25 (wg.drewN n) ⟨SB s, 0, none⟩
          go_quiet (fail)
          clear hN61 hN25 d1 d2 e0 e1 e2 c2
          go_upto_region 70 with fail
          have HL4 : Hid (L4 w9 (wg.drewN nq) z (hitB pp kd nk) A (i + 1)) := HL2.out.ext ⟨rfl, rfl, rfl, Nat.le_refl _, fun _ _ => rfl⟩
          have HP3 : Hid (Pl (wg.drewN nq) P k s) := HP2.out
          generalize wg.drewN nq = wh at HL4 HP3 ⊢
          clear p0 p1
          have p0 := HP3.out.c0
          have p1 := HP3.out.c1
          have t1 := (HTb.out _ HL4.out.bel).1.c1
          have HL5 : Hid (L4 w9 (wh.alloc (.cells #[] 36)) z (hitB pp kd nk) A (i + 1)) := HL4.out.ext ((Below.refl _ _).alloc (Nat.le_refl _) _)
          have HBq : Hid (∀ w' : World, (w'.heap = wh.heap ∨ w'.heap = (wh.alloc (.cells #[] 36)).heap) ∧ w'.os = wh.os ∧ w'.tape = wh.tape ∧ w'.output = wh.output → Below z w9 w') := fun w' h => by
            rcases h with ⟨h | h, ho⟩
            · exact Below.same HL4.out.bel h ho
            · exact Below.same HL5.out.bel h ho
          have q0 := World.cell?_of_block (w := wh) (w' := wh.alloc (.cells #[] 36)) (a := ⟨P, 0, none⟩) (Below.heap_alloc _ _ _ (World.block_lt_of_cell? _ _ p0))
          have q1 := World.cell?_of_block (w := wh) (w' := wh.alloc (.cells #[] 36)) (a := ⟨P, 1, none⟩) (Below.heap_alloc _ _ _ (World.block_lt_of_cell? _ _ p1))
          have q2 := World.cell?_of_block (w := wh) (w' := wh.alloc (.cells #[] 36)) (a := ⟨T + 2, 1, none⟩) (Below.heap_alloc _ _ _ (World.block_lt_of_cell? _ _ t1))
          rw [p0] at q0
          rw [p1] at q1
          rw [t1] at q2
          have L65a : (Instr.lookup 65 (.map (some (T + 1))) (.pointer (some ⟨SB s, 0, none⟩)) false).run Ybad.prog wh.drew = .ok (.map m') wh.drew := look65 (HTb.out wh.drew (HBq.out wh.drew ⟨.inl rfl, rfl, rfl, rfl⟩)).1 (HTb.out wh.drew (HBq.out wh.drew ⟨.inl rfl, rfl, rfl, rfl⟩)).2 HM.out
          have L65b : (Instr.lookup 65 (.map (some (T + 1))) (.pointer (some ⟨SB s, 0, none⟩)) false).run Ybad.prog (wh.alloc (.cells #[] 36)).drew = .ok (.map m') (wh.alloc (.cells #[] 36)).drew := look65 (HTb.out (wh.alloc (.cells #[] 36)).drew (HBq.out (wh.alloc (.cells #[] 36)).drew ⟨.inr rfl, rfl, rfl, rfl⟩)).1 (HTb.out (wh.alloc (.cells #[] 36)).drew (HBq.out (wh.alloc (.cells #[] 36)).drew ⟨.inr rfl, rfl, rfl, rfl⟩)).2 HM.out
          have L71a : (Instr.lookup 71 (.map m') (.agg #[.string k.1, .int .u8 (k.2 : Int)]) true).run Ybad.prog wh.drew = .ok (.tuple #[.agg #[], .bool true]) wh.drew := look71 (HTb.out wh.drew (HBq.out wh.drew ⟨.inl rfl, rfl, rfl, rfl⟩)).1 HM.out HX.out
          have L71b : (Instr.lookup 71 (.map m') (.agg #[.string k.1, .int .u8 (k.2 : Int)]) true).run Ybad.prog (wh.alloc (.cells #[] 36)).drew = .ok (.tuple #[.agg #[], .bool true]) (wh.alloc (.cells #[] 36)).drew := look71 (HTb.out (wh.alloc (.cells #[] 36)).drew (HBq.out (wh.alloc (.cells #[] 36)).drew ⟨.inr rfl, rfl, rfl, rfl⟩)).1 HM.out HX.out
          go_region
          all_goals
            go_wp2
            refine ⟨⟨i + 1, hlt, by first | rfl | trivial, ?_, HL5.out.ext ⟨rfl, rfl, rfl, Nat.le_refl _, fun _ _ => rfl⟩⟩, by simp [intOf]; omega⟩
            rw [rc_take (by rw [hks.out, HQ.out]; rfl), ← hrn.out]
            rfl
    · obtain rfl : N = i := by omega
      go_wp2
      exact aend _ _ _ _ _ _ _ _ _ _ _ _ _ _ _ _ _ _ _ _ _ _ _ _ _ _ _ _ _ HN hz HL hrn hrnb hpl hwr hu hVK
end Go.Proofs.YbulkcrxoDoor.F
