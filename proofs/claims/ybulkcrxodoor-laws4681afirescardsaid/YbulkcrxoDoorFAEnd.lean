/-
  LawS4681AFires: the end of the law: the sessions are checked.
-/
import Derived.Test.YbulkcrxoDoorFLs
import Derived.Deep.DeepCutAuto
import Derived.Deep.CutBlock
import Derived.Deep.RegionWith
import Derived.Deep.RegionLaw
set_option linter.unusedVariables false
namespace Go.Proofs.YbulkcrxoDoor.F
open Go.RowKit Go.Any
open Go.ChangeMaps (setBlock)

/-- What stands behind the first n statements. -/
def tlN : Nat → Code → Code
  | 0, c => c
  | n + 1, .seq _ b => tlN n b
  | _ + 1, c => c
noncomputable def restA (n : Nat) : Code := tlN n (Ybad.f3.body.getD .skip)
/-- Here the walk stands. -/
def Stop (c : Code) (Q : Exit → Act → World → Prop) (a : Act) (w : World) : Prop := Code.wp Ybad.prog c Q a w

set_option maxHeartbeats 100000000 in
set_option maxRecDepth 1000000 in
theorem aend {c0 c1 c3 c4 c5 c6 c7 c8 c9 c10 c13 c14 c15 c17 c18 c19 c20 c21 c22 c23 c24 c25 c26 c27 c33 c34 c35 c36 c37 c38 c39 c40 c41 c42 c43 c44 c45 c46 c47 c48 c49 c50 c51 c52 c53 c54 c55 c56 c57 c58 c59 c60 c61 c62 c63 c64 c65 c66 c67 c68 c69 c70 c71 c72 c73 c74 c75 c76 c77 c78 c79 c80 c81 c82 c83 c84 c85 c86 c87 c88 c89 c90 c91 c92 c93 c94 c95 c96 c97 c98 c99 c100 c101 c102 c103 c104 c105 c106 c107 c108 c109 c110 c111 c112 c113 c114 c115 c116 c117 c118 c119 c120 c121 c122 c123 c124 c125 c126 c127 c128 c129 c130 c131 c132 c133 c134 c135 c136 c137 c138 c139 c140 c141 c142 c143 c144 c145 c146 c147 c148 c149 c150 c151 c152 c153 c154 c155 c156 c157 c158 c159 c160 c161 c162 c163 c164 c165 c166 c167 c168 c169 c170 c171 c172 c173 c174 c175 c176 c177 c178 c179 c180 c181 c182 c183 c184 c185 c186 c187 c188 c189 c190 c191 c192 c193 c194 c195 c196 c197 c198 c199 c200 c201 c202 c203 c204 c205 c206 c207 c208 c209 c210 c211 c212 c213 c214 c215 c216 c217 c218 c219 c220 c221 c222 c223 c224 c225 c226 c227 c228 c229 c230 c231 c232 c233 c234 c235 c236 c237 c238 c239 c240 c241 c242 c243 c244 c245 c246 c247 c248 c249 c250 c251 c252 c253 c254 c255 c256 c257 c258 c259 c260 c261 c262 c263 c264 c265 c266 c267 c268 c269 c270 c271 c272 c273 c274 c275 c276 c277 c278 c279 c280 c281 c282 c283 c284 c285 c286 c287 c288 c289 c290 c291 c292 c293 c294 c295 c296 c297 c298 c299 c300 c301 c302 c303 c304 c305 c306 c307 c308 c309 c310 c311 c312 c313 c314 c315 c316 c317 c318 c319 c320 c321 c322 c323 c324 c325 c326 c327 c328 c329 c330 c331 c332 c333 c334 c335 c336 c337 c338 c339 c340 c341 c342 c343 c344 c345 c346 c347 c348 c349 c350 c351 c352 c353 c354 c355 c356 c357 c358 c359 c360 c361 c362 c363 c364 c365 c366 c367 c368 c369 c370 c371 c372 c373 c374 c375 c376 c377 c378 c379 c380 c381 c382 c383 c384 c385 c386 c387 c388 c389 c390 c391 c392 c393 c394 c395 c396 c397 c398 c399 c400 c401 c402 c403 c404 c405 c406 c407 c408 c409 c410 c411 c412 c413 c414 c415 c416 c417 c418 c419 c420 c421 c422 c423 c424 c425 c426 c427 c428 c429 c430 c431 c432 c433 c434 c435 c436 c437 c438 c439 c440 c441 c442 c443 c444 c445 c446 c447 c448 c449 c450 c451 c452 c453 c454 c455 c456 c457 c458 c459 c460 c461 c462 c463 c464 c465 c466 c467 c468 c469 c470 c471 c472 c473 c474 c475 c476 c477 c478 c479 c480 c481 c482 c483 c484 c485 c486 c487 c488 c489 c490 c491 c492 c493 c494 c495 c496 c497 : Value} (w w9 : World) (T K V AB SA CA : Nat) (SB : Fin 4 → Nat) (CB : Fin 4 → Option (Nat × Bool)) (IK : Key → Nat) (JS : Fin 4 → Nat) (ρ : Nat → Role) (A : Nat → Wt) (N : Nat) (A' : Nat → Wt) (N' : Nat) (D : Fin 4 → Bool) (FB lo u : Nat) (pp : ByteArray) (kd : Nat → Nat) (nk : Nat) (la : Option Addr) (ev : Int) (z rn : Nat) (wr : World)
    (HN : Hid (Nf w w9 T K V AB SA CA SB CB IK JS ρ A N A' N' D FB lo u pp kd nk la)) (hz : Hid (z = w9.heap.size)) (HL : Hid (L4 w9 wr z (hitB pp kd nk) A N)) (hrn : Hid (rn = rc (fun x => !hitB pp kd nk x) A N)) (hrnb : rn ≤ 1024) (hpl : pp.size ≤ 8) (hwr : IntKind.u32.wrap ev = (u : Int)) (hu : u < 4294967296) (hVK : V = K + 1) :
    Code.wp Ybad.prog (restA 17) (bodyPost Ybad.prog Ybad.f3 fun e w' => e = .returned (.bool true) ∧ Below w.heap.size w w') ⟨#[c0, c1, .int .i32 ev, c3, c4, c5, c6, c7, c8, c9, c10, .pointer (some ⟨SA, 0, none⟩), .pointer (some ⟨CA, 0, none⟩), c13, c14, c15, .pointer (some ⟨T + 2, 0, none⟩), c17, c18, c19, c20, c21, c22, c23, c24, c25, c26, c27, .string pp, .pointer (some ⟨K + 1, 0, none⟩), .pointer (some ⟨z, 0, none⟩), .pointer (some ⟨z + 1, 0, none⟩), .int .i64 (rn : Int), c33, c34, c35, c36, c37, c38, c39, c40, c41, c42, c43, c44, c45, c46, c47, c48, c49, c50, c51, c52, c53, c54, c55, c56, c57, c58, c59, c60, c61, c62, c63, c64, c65, c66, c67, c68, c69, c70, c71, c72, c73, c74, c75, c76, c77, c78, c79, c80, c81, c82, c83, c84, c85, c86, c87, c88, c89, c90, c91, c92, c93, c94, c95, c96, c97, c98, c99, c100, c101, c102, c103, c104, c105, c106, c107, c108, c109, c110, c111, c112, c113, c114, c115, c116, c117, c118, c119, c120, c121, c122, c123, c124, c125, c126, c127, c128, c129, c130, c131, c132, c133, c134, c135, c136, c137, c138, c139, c140, c141, c142, c143, c144, c145, c146, c147, c148, c149, c150, c151, c152, c153, c154, c155, c156, c157, c158, c159, c160, c161, c162, c163, c164, c165, c166, c167, c168, c169, c170, c171, c172, c173, c174, c175, c176, c177, c178, c179, c180, c181, c182, c183, c184, c185, c186, c187, c188, c189, c190, c191, c192, c193, c194, c195, c196, c197, c198, c199, c200, c201, c202, c203, c204, c205, c206, c207, c208, c209, c210, c211, c212, c213, c214, c215, c216, c217, c218, c219, c220, c221, c222, c223, c224, c225, c226, c227, c228, c229, c230, c231, c232, c233, c234, c235, c236, c237, c238, c239, c240, c241, c242, c243, c244, c245, c246, c247, c248, c249, c250, c251, c252, c253, c254, c255, c256, c257, c258, c259, c260, c261, c262, c263, c264, c265, c266, c267, c268, c269, c270, c271, c272, c273, c274, c275, c276, c277, c278, c279, c280, c281, c282, c283, c284, c285, c286, c287, c288, c289, c290, c291, c292, c293, c294, c295, c296, c297, c298, c299, c300, c301, c302, c303, c304, c305, c306, c307, c308, c309, c310, c311, c312, c313, c314, c315, c316, c317, c318, c319, c320, c321, c322, c323, c324, c325, c326, c327, c328, c329, c330, c331, c332, c333, c334, c335, c336, c337, c338, c339, c340, c341, c342, c343, c344, c345, c346, c347, c348, c349, c350, c351, c352, c353, c354, c355, c356, c357, c358, c359, c360, c361, c362, c363, c364, c365, c366, c367, c368, c369, c370, c371, c372, c373, c374, c375, c376, c377, c378, c379, c380, c381, c382, c383, c384, c385, c386, c387, c388, c389, c390, c391, c392, c393, c394, c395, c396, c397, c398, c399, c400, c401, c402, c403, c404, c405, c406, c407, c408, c409, c410, c411, c412, c413, c414, c415, c416, c417, c418, c419, c420, c421, c422, c423, c424, c425, c426, c427, c428, c429, c430, c431, c432, c433, c434, c435, c436, c437, c438, c439, c440, c441, c442, c443, c444, c445, c446, c447, c448, c449, c450, c451, c452, c453, c454, c455, c456, c457, c458, c459, c460, c461, c462, c463, c464, c465, c466, c467, c468, c469, c470, c471, c472, c473, c474, c475, c476, c477, c478, c479, c480, c481, c482, c483, c484, c485, c486, c487, c488, c489, c490, c491, c492, c493, c494, c495, c496, c497], []⟩ wr := by
  conv => arg 2; whnf
  have lVz : V < z := by rw [hz.out]; exact World.block_lt_of_cell? _ _ HN.out.af.srv.s
  have lTz : T + 2 < z := by rw [hz.out]; exact World.block_lt_of_cell? _ _ HN.out.t.c0
  have HTb : Hid (∀ w', Below z w9 w' → Tbl w' T K (T + 2) T (T + 1) AB SB IK JS ρ A' N' ∧ Sess w' SB) := fun w' h => ⟨HN.out.t.below (by rw [← hz.out]; exact h), HN.out.sess.below (by rw [← hz.out]; exact h)⟩
  obtain ⟨ao, cap, c2, hcap, hao⟩ := (HTb.out _ HL.out.bel).1.c2
  clear hao
  have hNr : N' = rn := by
    rw [hrn.out]
    exact left_all HN.out.inj HN.out.t.inj (fun x => by rw [HN.out.has x, Bool.not_eq_true', hitB_false])
  rw [hNr] at c2
  go_wp2_with fail
  refine (aframe wr.heap.size ev u pp _ hpl hwr hu (hdr_cells wr)).mono ?_
  rintro e w10 ⟨B, rfl, hBf, hBl, hBB⟩
  have HL10 : Hid (L4 w9 w10 z (hitB pp kd nk) A N) := HL.out.ext (((Below.refl _ _).alloc (Nat.le_refl _) _).trans (hBl.mono (by simp)))
  have HBf : Hid (Buf w10 B (32 + pp.size) (frm u pp)) := hBf
  have HBlt : Hid (B < w10.heap.size) := World.block_lt_of_cell? _ _ (Option.isSome_iff_exists.1 (hBf.th 0 (by omega)).1).choose_spec
  clear hBf hBl hBB HL c2
  go_wp2_with fail
  go_loopw [49, 50] (fun qv iv wx => ∃ i : Nat, i ≤ 4 ∧ iv = .int .i64 i ∧ qv = .int .i64 (qn (fun j => D j && isOpen (CB j)) i) ∧ Hid (Below w10.heap.size w10 wx)) (fun _ iv _ => 4 - (intOf iv).toNat)
  case atStart => exact ⟨0, by omega, rfl, rfl, Below.refl _ _⟩
  case round =>
    obtain ⟨i, hi, rfl, rfl, HWx⟩ := hrel
    have HLx : Hid (L4 w9 wr z (hitB pp kd nk) A N) := HL10.out.ext HWx.out
    by_cases hlt : i < 4
    · obtain ⟨s, rfl⟩ : ∃ s : Fin 4, i = s.val := ⟨⟨i, hlt⟩, rfl⟩
      have hs4' : (s.val : Int) < 4 := by omega
      have hes : (s.val : Int).toNat = s.val := by simp
      have lSA : SA < z := by rw [hz.out]; exact World.block_lt_of_cell? _ _ (HN.out.sa s)
      have lCA : CA < z := by rw [hz.out]; exact World.block_lt_of_cell? _ _ (HN.out.ca s)
      have gs := (HLx.out.bel.cell (p := ⟨SA, s.val, none⟩) lSA).trans (HN.out.sa s)
      have gc := (HLx.out.bel.cell (p := ⟨CA, s.val, none⟩) lCA).trans (HN.out.ca s)
      have gf := HLx.out.f s
      rw [fired_eq (HN.out.d s)] at gf
      have gl := HLx.out.l s
      have t1 := (HTb.out _ HLx.out.bel).1.c1
      obtain ⟨m, m', hm⟩ := mk_ex A' N' IK JS w0K.1 s
      have HD : Hid (∀ n, Below z w9 (wr.drewN n)) := fun n => Below.same HLx.out.bel rfl ⟨rfl, rfl, rfl⟩
      have L65 : ∀ n, (Instr.lookup 65 (.map (some (T + 1))) (.pointer (some ⟨SB s, 0, none⟩)) false).run Ybad.prog (wr.drewN n) = .ok (.map m') (wr.drewN n) := fun n => look65 (HTb.out _ (HD.out n)).1 (HTb.out _ (HD.out n)).2 hm
      have N71 : ∀ n ty, (Builtin.len_ #[71] ty #[.map m']).run Ybad.prog (wr.drewN n) = .ok (.int .i64 ((rc (fun x => !hitB pp kd nk x && decide (x.2 = s)) A N : Nat) : Int)) (wr.drewN n) := fun n ty => len71 (HTb.out _ (HD.out n)).1 hm HN.out.inj (fun x => by rw [HN.out.has x, Bool.not_eq_true', hitB_false]) ty
      clear hm
      generalize rc (fun x => !hitB pp kd nk x && decide (x.2 = s)) A N = ln at gl N71
      have G0 := (HN.out.af.got s).below (by rw [← hz.out]; exact HLx.out.bel)
      have HBuf : Hid (D s = true → Buf wr FB 64 (frm u pp)) := fun h => by
        have hb := HN.out.bf ⟨s, h⟩
        exact hb.below (by rw [← hz.out]; exact HLx.out.bel) (World.block_lt_of_cell? _ _ (Option.isSome_iff_exists.1 (hb.th 0 (by omega)).1).choose_spec)
      have HBx : Hid (Buf wr B (32 + pp.size) (frm u pp)) := HBf.out.below HWx.out HBlt.out
      have HFr : Hid (Rd wr B (frm u pp) ∧ (D s = true → Rd wr FB (frm u pp))) := ⟨HBx.out.rd, fun h => (HBuf.out h).rd⟩
      clear HBuf HBx
      have HQ : Hid (qn (fun j => D j && isOpen (CB j)) (s.val + 1) = qn (fun j => D j && isOpen (CB j)) s.val + b2z (D s && isOpen (CB s))) := by
        show qn _ (s.val + 1) = _
        conv => lhs; unfold qn
        rw [dif_pos hlt]
      have hqb := qn_bd (fun j => D j && isOpen (CB j)) s.val
      obtain ⟨qq, hqq⟩ : ∃ q, Hid (q = qn (fun j => D j && isOpen (CB j)) s.val) := ⟨_, rfl⟩
      rw [← hqq.out] at hqb ⊢
      have hqb2 : qq ≤ 4 := by omega
      generalize hd : D s = d at gf G0 HFr HQ
      generalize hcb : CB s = cb at gc G0 HQ
      clear hd hcb
      go_upto_region 84 with fail
      go_quiet (fail)
      clear L65 N71 t1
      have hq27 := fun w C => neq27 w ⟨C, 0, none⟩
      have hq27n := neq27n
      match cb, d with
      | none, false =>
        have c18 := G0.c18
        have c19 := G0.c19
        clear G0
        go_wp2
        refine ⟨⟨s.val + 1, hlt, by first | rfl | trivial, ?_, HWx.out.trans ⟨rfl, rfl, rfl, Nat.le_refl _, fun _ _ => rfl⟩⟩, by simp [intOf]; omega⟩
        rw [HQ.out, ← hqq.out]
        simp [isOpen, b2z]
      | none, true =>
        obtain ⟨g, cp, G1, hg, c0⟩ := G0
        have c18 := G1.c18
        have c19 := G1.c19
        clear G1
        go_wp2_with (go_at_call 11; refine (aeq FB B (32 + pp.size) 64 (32 + pp.size) (frm u pp) (wr.drewN nq) (frm_len u pp) (by omega) (HFr.out.2 rfl) HFr.out.1).mono ?_; rintro e wq ⟨rfl, kq, rfl⟩)
        go_wp2
        refine ⟨⟨s.val + 1, hlt, by first | rfl | trivial, ?_, HWx.out.trans ⟨rfl, rfl, rfl, Nat.le_refl _, fun _ _ => rfl⟩⟩, by simp [intOf]; omega⟩
        rw [HQ.out, ← hqq.out]
        simp [isOpen, b2z]
      | some (C, true), false =>
        have c18 := G0.1.c18
        have c19 := G0.1.c19
        have c12 := G0.2.c12
        have c13 := G0.2.c13
        have c14 := G0.2.c14
        clear G0
        go_wp2
        refine ⟨⟨s.val + 1, hlt, by first | rfl | trivial, ?_, HWx.out.trans ⟨rfl, rfl, rfl, Nat.le_refl _, fun _ _ => rfl⟩⟩, by simp [intOf]; omega⟩
        rw [HQ.out, ← hqq.out]
        simp [isOpen, b2z]
      | some (C, true), true =>
        have c18 := G0.1.c18
        have c19 := G0.1.c19
        have c12 := G0.2.c12
        have c13 := G0.2.c13
        have c14 := G0.2.c14
        clear G0
        go_wp2
        refine ⟨⟨s.val + 1, hlt, by first | rfl | trivial, ?_, HWx.out.trans ⟨rfl, rfl, rfl, Nat.le_refl _, fun _ _ => rfl⟩⟩, by simp [intOf]; omega⟩
        rw [HQ.out, ← hqq.out]
        simp [isOpen, b2z]
      | some (C, false), false =>
        have c18 := G0.1.c18
        have c19 := G0.1.c19
        have c12 := G0.2.c12
        have c13 := G0.2.c13
        have c14 := G0.2.c14
        clear G0
        go_wp2
        refine ⟨⟨s.val + 1, hlt, by first | rfl | trivial, ?_, HWx.out.trans ⟨rfl, rfl, rfl, Nat.le_refl _, fun _ _ => rfl⟩⟩, by simp [intOf]; omega⟩
        rw [HQ.out, ← hqq.out]
        simp [isOpen, b2z]
      | some (C, false), true =>
        obtain ⟨G1, g, cp, G2, hg, c0⟩ := G0
        have c18 := G1.c18
        have c19 := G1.c19
        have c12 := G2.c12
        have c13 := G2.c13
        have c14 := G2.c14
        clear G1 G2
        go_wp2_with (go_at_call 11; refine (aeq FB B (32 + pp.size) 64 (32 + pp.size) (frm u pp) (wr.drewN nq) (frm_len u pp) (by omega) (HFr.out.2 rfl) HFr.out.1).mono ?_; rintro e wq ⟨rfl, kq, rfl⟩)
        go_wp2
        refine ⟨⟨s.val + 1, hlt, by first | rfl | trivial, ?_, HWx.out.trans ⟨rfl, rfl, rfl, Nat.le_refl _, fun _ _ => rfl⟩⟩, by simp [intOf]; omega⟩
        rw [HQ.out, ← hqq.out]
        simp [isOpen, b2z]
    · obtain rfl : 4 = i := by omega
      have hq := qn_four (fun j => D j && isOpen (CB j))
      rw [hq]
      have SV : Srv wr V (T + 2) (cnt fun j => D j && isOpen (CB j)) (cnt fun j => D j && isOpen (CB j)) := HN.out.af.srv.block (HLx.out.bel.block V lVz)
      rw [hVK] at SV
      have v0 := SV.s
      have v1 := SV.e
      clear SV hq
      generalize (cnt fun j => D j && isOpen (CB j)) = cc at v0 v1 ⊢
      have HFin : Hid (Below w.heap.size w wr) := HN.out.bel.trans (HLx.out.bel.mono (by rw [hz.out]; exact HN.out.bel.size))
      go_wp2
      go_ret
      exact ⟨rfl, HFin.out⟩
end Go.Proofs.YbulkcrxoDoor.F
