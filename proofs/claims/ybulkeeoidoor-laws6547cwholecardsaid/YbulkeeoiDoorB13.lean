import Derived.Test.YbulkeeoiDoorSt5
namespace Go.Proofs.YbulkeeoiDoor
open Go.RowKit Go.Sort
set_option linter.unusedVariables false

def findBlk (n : Nat) : Code → Option Code
  | .block m c => if m = n then some (.block m c) else findBlk n c
  | .seq a b => match findBlk n a with
    | some c => some c
    | none => findBlk n b
  | .loop c => findBlk n c
  | .scope c => findBlk n c
  | .cond _ a b => match findBlk n a with
    | some c => some c
    | none => findBlk n b
  | _ => none

set_option maxHeartbeats 8000000 in
set_option maxRecDepth 100000 in
theorem body13 (I : In) (p : Pl) (now : Int) (w : World) (T D C V P : Nat) (rv wv : Value) (f1 f2 f3 : ByteArray → Option Value) (da : Option Addr) (dc : Nat) (W9 wr : World) (i : Nat) (M : Hid (Mem I p w)) (S9 : Hid (St5 I (red now) w T D C V P rv wv f1 f2 f3 da dc W9)) (b0 : I.L0 ≤ 1048576) (b3 : I.L3 ≤ 1048576) (hnj : Hid (∀ j, j < I.L3 → I.n j ≤ 1048576)) (hr : Hid (-1125899906842624 < red now ∧ red now < 1125899906842624))
    (B9 : Hid (Below W9.heap.size W9 wr)) (hlt : i < I.L0) (K K2 K3 : Act → World → Prop) (R : Ending → World → Prop)
    (c4 c5 c6 c7 c8 c9 c10 c11 c12 c13 c15 c17 c18 c19 c20 c21 c23 c24 c25 c26 c27 c30 c31 c32 c33 c34 c35 c36 c37 c38 c39 c40 c41 c42 c43 c44 c45 c46 c47 c48 c49 c50 c51 c52 c53 c54 c55 c56 c57 c58 c59 c60 c61 c62 c63 c64 c65 c66 c67 c68 c69 c70 c71 c72 c73 c74 c75 c76 c77 c78 c79 c80 c81 c82 c83 c84 c85 c86 c87 c88 c89 c90 c91 c92 c93 c94 c95 c96 c97 c98 c99 c100 c101 c102 c103 c104 c105 c106 c107 c108 c109 c110 c111 c112 c113 c114 c115 c116 c117 c118 c119 c120 c121 c122 c123 c124 c125 c126 c127 c128 c129 c130 c131 c132 c133 c134 c135 c136 c137 c138 c139 c140 c141 c142 c143 c144 c145 c146 c147 c148 c149 c150 c151 c152 c153 c154 c155 c156 c157 c158 c159 c160 c161 c162 c163 c164 c165 c166 c167 c168 c169 c170 c171 c172 c173 c174 c175 c176 c177 c178 c179 c180 c181 c182 c183 c184 c185 c186 c187 c188 c189 c190 c191 c192 c193 c194 c195 c196 c197 c198 c199 c200 c201 c202 c203 c204 c205 c206 c207 c208 c209 c210 c211 c212 c213 c214 c215 c216 c217 c218 c219 c220 c221 c222 c226 c227 c228 c229 c230 c231 c232 c233 c234 c235 c236 c237 c238 c239 c240 c241 c242 c243 c244 c245 c246 c247 c248 c249 c250 c251 c252 c253 c254 c255 c256 c257 c258 c259 c260 c261 c262 c263 c264 c265 c266 c267 c268 c269 c270 c271 c272 c273 c274 c275 c276 c277 c278 c279 c280 c281 c282 c283 c284 c285 c286 c287 c288 c289 c290 c291 c292 c293 c294 c295 c296 c297 c298 c299 c300 c301 c302 c303 c304 c305 c306 c307 c308 c309 c310 c311 c312 c313 c314 c315 c316 c317 c318 c319 c320 c321 c322 c323 c324 c325 c326 c327 c328 c329 c330 c331 c332 c333 c334 c335 c336 c337 c338 c339 c340 c341 c342 c343 c344 c345 c346 c347 c348 c349 c350 c351 c352 c353 c354 c355 c356 c357 c358 c359 c360 c361 c362 c363 c364 c365 c366 c367 c368 c369 c370 c371 c372 c373 c374 c375 c376 c377 c378 c379 c380 c381 c382 c383 c384 c385 c386 c387 c388 c389 c390 c391 c392 c393 c394 c395 c396 c397 c398 c399 c400 c401 c402 c403 c404 c405 c406 c407 c408 c409 c410 c411 c412 c413 c414 c415 c416 c417 c418 c419 c420 c421 c422 c423 c424 c425 c426 c427 c428 c429 c430 c431 c432 c433 c434 c435 c436 c437 c438 c439 c440 c441 c442 c443 c444 c445 c446 c447 c448 : Value)
    (hK : ∀ (u10 u29 u30 u31 u32 u33 u34 u35 u36 u37 u38 u39 u226 u227 u228 u229 u230 u231 u232 u233 u234 u235 u236 u237 u238 u239 u240 u241 u242 u243 u244 u245 u246 u247 u248 u249 u250 u251 u252 u253 u254 u255 u256 u257 u258 u259 u260 u261 u262 u263 u264 u265 u266 u267 u268 u269 u270 u271 u272 u273 u274 u275 u276 u277 u278 u279 u280 u281 u282 u283 u284 u285 u286 u287 u288 u289 u290 u291 u292 u293 u294 u295 u296 u297 u298 u299 u300 u301 u302 u303 u304 u305 u306 u307 u308 u309 u310 u311 u312 u313 u314 u315 u316 u317 u318 u319 u320 u321 u322 u323 u324 u325 u326 u327 u328 u329 u330 u331 u332 u333 u334 u335 u336 u337 u338 u339 u340 u341 u342 u343 u344 u345 u346 u347 u348 u349 u350 u351 u352 u353 u354 u355 u356 u357 u358 u359 u360 u361 u362 u363 u364 : Value) (wd : World), u29 = .int .i64 (cnt (GOf I f3) (i + 1) : Int) → Below W9.heap.size W9 wd → K ⟨#[.slice p.a0 I.L0 p.c0, .slice p.a1 I.L1 p.c1, .slice p.a2 I.L2 p.c2, .slice p.a3 I.L3 p.c3, c4, c5, c6, c7, c8, c9, u10, c11, c12, c13, .int .i64 (red now), c15, .pointer (some ⟨T + 1, 0, none⟩), c17, c18, c19, c20, c21, .map (some C), c23, c24, c25, c26, c27, .pointer (some ⟨V, 0, none⟩), u29, u30, u31, u32, u33, u34, u35, u36, u37, u38, u39, c40, c41, c42, c43, c44, c45, c46, c47, c48, c49, c50, c51, c52, c53, c54, c55, c56, c57, c58, c59, c60, c61, c62, c63, c64, c65, c66, c67, c68, c69, c70, c71, c72, c73, c74, c75, c76, c77, c78, c79, c80, c81, c82, c83, c84, c85, c86, c87, c88, c89, c90, c91, c92, c93, c94, c95, c96, c97, c98, c99, c100, c101, c102, c103, c104, c105, c106, c107, c108, c109, c110, c111, c112, c113, c114, c115, c116, c117, c118, c119, c120, c121, c122, c123, c124, c125, c126, c127, c128, c129, c130, c131, c132, c133, c134, c135, c136, c137, c138, c139, c140, c141, c142, c143, c144, c145, c146, c147, c148, c149, c150, c151, c152, c153, c154, c155, c156, c157, c158, c159, c160, c161, c162, c163, c164, c165, c166, c167, c168, c169, c170, c171, c172, c173, c174, c175, c176, c177, c178, c179, c180, c181, c182, c183, c184, c185, c186, c187, c188, c189, c190, c191, c192, c193, c194, c195, c196, c197, c198, c199, c200, c201, c202, c203, c204, c205, c206, c207, c208, c209, c210, c211, c212, c213, c214, c215, c216, c217, c218, c219, c220, c221, c222, .slice p.a0 I.L0 p.c0, .int .i64 (I.L0 : Int), .int .i64 (i : Int), u226, u227, u228, u229, u230, u231, u232, u233, u234, u235, u236, u237, u238, u239, u240, u241, u242, u243, u244, u245, u246, u247, u248, u249, u250, u251, u252, u253, u254, u255, u256, u257, u258, u259, u260, u261, u262, u263, u264, u265, u266, u267, u268, u269, u270, u271, u272, u273, u274, u275, u276, u277, u278, u279, u280, u281, u282, u283, u284, u285, u286, u287, u288, u289, u290, u291, u292, u293, u294, u295, u296, u297, u298, u299, u300, u301, u302, u303, u304, u305, u306, u307, u308, u309, u310, u311, u312, u313, u314, u315, u316, u317, u318, u319, u320, u321, u322, u323, u324, u325, u326, u327, u328, u329, u330, u331, u332, u333, u334, u335, u336, u337, u338, u339, u340, u341, u342, u343, u344, u345, u346, u347, u348, u349, u350, u351, u352, u353, u354, u355, u356, u357, u358, u359, u360, u361, u362, u363, u364, c365, c366, c367, c368, c369, c370, c371, c372, c373, c374, c375, c376, c377, c378, c379, c380, c381, c382, c383, c384, c385, c386, c387, c388, c389, c390, c391, c392, c393, c394, c395, c396, c397, c398, c399, c400, c401, c402, c403, c404, c405, c406, c407, c408, c409, c410, c411, c412, c413, c414, c415, c416, c417, c418, c419, c420, c421, c422, c423, c424, c425, c426, c427, c428, c429, c430, c431, c432, c433, c434, c435, c436, c437, c438, c439, c440, c441, c442, c443, c444, c445, c446, c447, c448], []⟩ wd) :
    Code.wp Ybad.prog ((Ybad.f3.body.bind (findBlk 13)).getD .skip) (Exit.then K (Exit.then K2 (Exit.inBlock 12 (Exit.then K3 (bodyPost Ybad.prog Ybad.f3 R))))) ⟨#[.slice p.a0 I.L0 p.c0, .slice p.a1 I.L1 p.c1, .slice p.a2 I.L2 p.c2, .slice p.a3 I.L3 p.c3, c4, c5, c6, c7, c8, c9, c10, c11, c12, c13, .int .i64 (red now), c15, .pointer (some ⟨T + 1, 0, none⟩), c17, c18, c19, c20, c21, .map (some C), c23, c24, c25, c26, c27, .pointer (some ⟨V, 0, none⟩), .int .i64 (cnt (GOf I f3) i : Int), c30, c31, c32, c33, c34, c35, c36, c37, c38, c39, c40, c41, c42, c43, c44, c45, c46, c47, c48, c49, c50, c51, c52, c53, c54, c55, c56, c57, c58, c59, c60, c61, c62, c63, c64, c65, c66, c67, c68, c69, c70, c71, c72, c73, c74, c75, c76, c77, c78, c79, c80, c81, c82, c83, c84, c85, c86, c87, c88, c89, c90, c91, c92, c93, c94, c95, c96, c97, c98, c99, c100, c101, c102, c103, c104, c105, c106, c107, c108, c109, c110, c111, c112, c113, c114, c115, c116, c117, c118, c119, c120, c121, c122, c123, c124, c125, c126, c127, c128, c129, c130, c131, c132, c133, c134, c135, c136, c137, c138, c139, c140, c141, c142, c143, c144, c145, c146, c147, c148, c149, c150, c151, c152, c153, c154, c155, c156, c157, c158, c159, c160, c161, c162, c163, c164, c165, c166, c167, c168, c169, c170, c171, c172, c173, c174, c175, c176, c177, c178, c179, c180, c181, c182, c183, c184, c185, c186, c187, c188, c189, c190, c191, c192, c193, c194, c195, c196, c197, c198, c199, c200, c201, c202, c203, c204, c205, c206, c207, c208, c209, c210, c211, c212, c213, c214, c215, c216, c217, c218, c219, c220, c221, c222, .slice p.a0 I.L0 p.c0, .int .i64 (I.L0 : Int), .int .i64 (i : Int), c226, c227, c228, c229, c230, c231, c232, c233, c234, c235, c236, c237, c238, c239, c240, c241, c242, c243, c244, c245, c246, c247, c248, c249, c250, c251, c252, c253, c254, c255, c256, c257, c258, c259, c260, c261, c262, c263, c264, c265, c266, c267, c268, c269, c270, c271, c272, c273, c274, c275, c276, c277, c278, c279, c280, c281, c282, c283, c284, c285, c286, c287, c288, c289, c290, c291, c292, c293, c294, c295, c296, c297, c298, c299, c300, c301, c302, c303, c304, c305, c306, c307, c308, c309, c310, c311, c312, c313, c314, c315, c316, c317, c318, c319, c320, c321, c322, c323, c324, c325, c326, c327, c328, c329, c330, c331, c332, c333, c334, c335, c336, c337, c338, c339, c340, c341, c342, c343, c344, c345, c346, c347, c348, c349, c350, c351, c352, c353, c354, c355, c356, c357, c358, c359, c360, c361, c362, c363, c364, c365, c366, c367, c368, c369, c370, c371, c372, c373, c374, c375, c376, c377, c378, c379, c380, c381, c382, c383, c384, c385, c386, c387, c388, c389, c390, c391, c392, c393, c394, c395, c396, c397, c398, c399, c400, c401, c402, c403, c404, c405, c406, c407, c408, c409, c410, c411, c412, c413, c414, c415, c416, c417, c418, c419, c420, c421, c422, c423, c424, c425, c426, c427, c428, c429, c430, c431, c432, c433, c434, c435, c436, c437, c438, c439, c440, c441, c442, c443, c444, c445, c446, c447, c448], []⟩ wr := by
  have j1 : ∀ wx, Sem.run Ybad.prog (Instr.indexAt 22 (.slice p.a0 I.L0 p.c0) (.int .i64 (i : Int))) wx = .ok (.pointer (some ⟨p.g0, p.o0 + i * 2, none⟩)) wx := M.out.x0 i hlt
  have S10 := hide (S9.out.kept B9.out)
  have t0 := (M.out.kept S10.out.s4.s3.s2.bel).t0 i hlt
  have c0 : wr.cell? ⟨p.g0, p.o0 + i * 2, none⟩ = some (.int .u8 (I.ka i : Int)) := t0 0 _ rfl
  have c1 : wr.cell? ⟨p.g0, p.o0 + i * 2 + 1, none⟩ = some (.string (I.Wr i)) := t0 1 _ rfl
  have hka := M.out.k0 i hlt
  have F7 : Hid (∀ W10, W10 = wr.alloc (.cells #[.int .u8 (I.ka i : Int), .string (I.Wr i)] 45) → St5 I (red now) w T D C V P rv wv f1 f2 f3 da dc W10 ∧ Blk W10 wr.heap.size #[.int .u8 (I.ka i : Int), .string (I.Wr i)] 45 ∧ Below W9.heap.size W9 W10) := by
    rintro W10 rfl
    exact ⟨S10.out.kept ((Below.refl _ wr).alloc (Nat.le_refl _) _), Blk.made _ _ _, B9.out.alloc B9.out.size _⟩
  clear t0
  have HK := hide hK
  clear hK
  have hPb : P ≤ 1048576 := by have := S9.out.cntP; have := cnt_le (GOf I f3) I.L0; omega
  conv => arg 2; whnf
  go_upto_region 50 with fail
  generalize hW10 : wr.alloc (.cells #[.int .u8 (I.ka i : Int), .string (I.Wr i)] 45) = W10
  obtain ⟨s11, k11, b11⟩ := F7.out W10 hW10.symm
  have S11 := hide s11
  have K11 := hide k11
  have B11 := hide b11
  have k0 := k11.cell 0 _ rfl
  clear F7 hW10 s11 k11 b11 c0 c1 j1
  go_upto_block 14 with fail
  go_cut [33] (fun v33 wd => v33 = .int .i64 (lastI I.kc (I.ka i % 6) I.L3) ∧ wd = W10)
  case first =>
    go_wp2_with fail
    go_loopg [236, 33] I.L3 (fun g s236 s33 wi => ∃ j : Nat, j ≤ I.L3 ∧ I.L3 - j ≤ g ∧ s236 = .int .i64 j ∧ s33 = .int .i64 (lastI I.kc (I.ka i % 6) j) ∧ wi = W10)
    case atStart => exact ⟨0, Nat.zero_le _, by omega, rfl, rfl, rfl⟩
    case round =>
      obtain ⟨j, hj, hg2, rfl, rfl, hwi⟩ := hrel
      subst hwi
      by_cases hjl : j < I.L3
      · have jx : ∀ wx, Sem.run Ybad.prog (Instr.indexAt 25 (.slice p.a3 I.L3 p.c3) (.int .i64 (j : Int))) wx = .ok (.pointer (some ⟨p.g3, p.o3 + j * 2, none⟩)) wx := M.out.x3 j hjl
        have cj : wr.cell? ⟨p.g3, p.o3 + j * 2, none⟩ = some (.int .u8 (I.kc j : Int)) := (M.out.kept S11.out.s4.s3.s2.bel).t3 j hjl 0 _ rfl
        have hkc := M.out.k3 j hjl
        clear k0
        by_cases he : I.kc j % 6 = I.ka i % 6
        · have hd : ((I.kc j : Int) % 6 == (I.ka i : Int) % 6) = true := by simp; omega
          have HL : Hid (lastI I.kc (I.ka i % 6) (j + 1) = (j : Int)) := by rw [Hid, lastI_step, if_pos he]
          clear he
          go_wp2
          go_roundg (I.L3 - (j + 1))
          case measure => omega
          case rel => exact ⟨j + 1, by omega, by omega, by go_num, by rw [HL.out], rfl⟩
        · have hd : ((I.kc j : Int) % 6 == (I.ka i : Int) % 6) = false := by simp; omega
          have HL : Hid (lastI I.kc (I.ka i % 6) (j + 1) = lastI I.kc (I.ka i % 6) j) := by rw [Hid, lastI_step, if_neg he]
          clear he
          go_wp2
          go_roundg (I.L3 - (j + 1))
          case measure => omega
          case rel => exact ⟨j + 1, by omega, by omega, by go_num, by rw [HL.out], rfl⟩
      · have : j = I.L3 := by omega
        subst this
        clear k0
        go_wp2
        go_meet
        case rel => exact ⟨rfl, rfl⟩
  case rest =>
    obtain ⟨rfl, hw10⟩ := hcut
    subst hw10
    obtain ⟨gr, cr, hr1, hr2⟩ := own_some (F := fun i => [Value.string (aorS (I.ka i))]) (size := 1) (fun _ => rfl) S11.out.s4.s3.s2.o2 hlt
    obtain ⟨gw, cw, hw1, hw2⟩ := own_some (F := fun i => [Value.string (I.Wr i)]) (size := 1) (fun _ => rfl) S11.out.s4.s3.s2.o3 hlt
    have u2 : wc.cell? ⟨T + 1, 2, none⟩ = some (.slice (some ⟨gr, 0, none⟩) I.L0 cr) := by rw [← hr1]; exact S11.out.s4.s3.s2.kU.cell 2 _ rfl
    have u3 : wc.cell? ⟨T + 1, 3, none⟩ = some (.slice (some ⟨gw, 0, none⟩) I.L0 cw) := by rw [← hw1]; exact S11.out.s4.s3.s2.kU.cell 3 _ rfl
    have a1 := hr2 i hlt 0 _ rfl
    have a2 := hw2 i hlt 0 _ rfl
    rw [Nat.mul_one, Nat.add_zero] at a1 a2
    have k1 := K11.out.cell 1 _ rfl
    have hi0 : (0 : Int) ≤ (i : Int) := Int.natCast_nonneg _
    have hi1 : (i : Int) < (I.L0 : Int) := by omega
    have K6 : Hid (∀ wx, Calls Ybad.prog 6 #[.int .u8 (I.ka i : Int)] wx fun e w' => e = .returned (.string (aorS (I.ka i))) ∧ w' = wx) := fun wx => aor6 (I.ka i) hka wx
    clear hr1 hr2 hw1 hw2
    generalize hb31 : wr.heap.size = b31 at *
    clear hb31
    go_upto_region 58 with fail
    go_region_held (fun w' => w'.cell? ⟨T + 1, 2, none⟩ = some (.slice (some ⟨gr, 0, none⟩) I.L0 cr) ∧ w'.cell? ⟨T + 1, 3, none⟩ = some (.slice (some ⟨gw, 0, none⟩) I.L0 cw) ∧ w'.cell? ⟨gr, i, none⟩ = some (.string (aorS (I.ka i))) ∧ w'.cell? ⟨gw, i, none⟩ = some (.string (I.Wr i)) ∧ w'.cell? ⟨b31, 0, none⟩ = some (.int .u8 (I.ka i : Int)) ∧ w'.cell? ⟨b31, 1, none⟩ = some (.string (I.Wr i)))
      (first | exact ⟨u2, u3, a1, a2, k0, k1⟩ | go_keep)
      (first | (go_at_call 6; refine (K6.out _).mono ?_; rintro e w6 ⟨rfl, rfl⟩))
    clear u2 u3 a1 a2 k0 k1
    cases hl : lastc I.kc (I.ka i % 6) I.L3 with
    | none =>
      have hI : lastI I.kc (I.ka i % 6) I.L3 = -1 := by unfold lastI; rw [hl]
      have HC : Hid (cnt (GOf I f3) (i + 1) = cnt (GOf I f3) i) := by rw [Hid, cnt_step, hl]; rfl
      have HL := hide hl
      clear hl
      go_wp2
      apply HK.out
      · rw [HC.out]
      · exact B11.out.drew
    | some j =>
      have hI : lastI I.kc (I.ka i % 6) I.L3 = (j : Int) := by unfold lastI; rw [hl]
      have HC : Hid (cnt (GOf I f3) (i + 1) = cnt (GOf I f3) i + 1) := by rw [Hid, cnt_step, hl]; rfl
      have hd0 : decide ((j : Int) < 0) = false := by simp
      obtain ⟨gd, ca, cc', gc, hda, hcp, hx, ixc, hac, hnil⟩ := S11.out.reg hlt hl
      have hjl := (lastc_lt hl).1
      have HL := hide hl
      have S12 : Hid (St5 I (red now) w T D C V P rv wv f1 f2 f3 da dc wc.drew) := S11.out.kept (Below.refl _ wc).drew
      have K12 : Hid (Blk wc.drew b31 #[.int .u8 (I.ka i : Int), .string (I.Wr i)] 45) := K11.out
      have B12 : Hid (Below W9.heap.size W9 wc.drew) := B11.out.drew
      have v4 : wc.drew.cell? ⟨V, 4, none⟩ = some (.slice (some ⟨gd, 0, none⟩) P dc) := by rw [← hda]; exact S11.out.kV.cell 4 _ rfl
      have IXC := hide ixc
      have HAC : Hid (At wc.drew (I.n j) gc (fun k => k * 5) (fun k => ((I.Bb j k).contact (red now)).toList)) := hac
      have x0 : wc.drew.cell? ⟨gd, cnt (GOf I f3) i * 4, none⟩ = some (.string (I.Wr i)) := hx 0 _ rfl
      have x1 : wc.drew.cell? ⟨gd, cnt (GOf I f3) i * 4 + 1, none⟩ = some (.string (regId (PdOf I i))) := hx 1 _ rfl
      have x2 : wc.drew.cell? ⟨gd, cnt (GOf I f3) i * 4 + 2, none⟩ = some (.int .i64 (StOf I i)) := hx 2 _ rfl
      have x3 : wc.drew.cell? ⟨gd, cnt (GOf I f3) i * 4 + 3, none⟩ = some (.slice ca (I.n j) cc') := hx 3 _ rfl
      have HN := hide hnil
      have HDA := hide hda
      clear hl hda hx ixc hac hnil S11 K11 B11
      generalize cnt (GOf I f3) i = cI at *
      have hp0 : (0 : Int) ≤ (cI : Int) := Int.natCast_nonneg _
      have hp1 : (cI : Int) < (P : Int) := by omega
      have hp2 : (cI : Int) ≤ 1048576 := by omega
      have hd1 : decide ((P : Int) ≤ (cI : Int)) = false := by simp; omega
      generalize wc.drew = W11 at *
      have F8 : Hid (∀ W12, W12 = W11.alloc (.cells (rc4 (I.Wr i) (regId (PdOf I i)) (StOf I i) (.slice ca (I.n j) cc')) 98) → St5 I (red now) w T D C V P rv wv f1 f2 f3 da dc W12 ∧ Blk W12 W11.heap.size (rc4 (I.Wr i) (regId (PdOf I i)) (StOf I i) (.slice ca (I.n j) cc')) 98 ∧ Blk W12 b31 #[.int .u8 (I.ka i : Int), .string (I.Wr i)] 45 ∧ Below W9.heap.size W9 W12 ∧ At W12 (I.n j) gc (fun k => k * 5) (fun k => ((I.Bb j k).contact (red now)).toList)) := by
        rintro W12 rfl
        have hb := (Below.refl _ W11).alloc (Nat.le_refl _) (.cells (rc4 (I.Wr i) (regId (PdOf I i)) (StOf I i) (.slice ca (I.n j) cc')) 98)
        exact ⟨S12.out.kept hb, Blk.made _ _ _, K12.out.alloc _, B12.out.alloc B12.out.size _, HAC.out.kept hb⟩
      go_upto_region 64 with fail
      clear x0 x1 x2 x3 v4
      generalize hW12 : W11.alloc (.cells (rc4 (I.Wr i) (regId (PdOf I i)) (StOf I i) (.slice ca (I.n j) cc')) 98) = W12
      obtain ⟨s13, k35, k31, b13, a13⟩ := F8.out W12 hW12.symm
      have S13 := hide s13
      have K35 := hide k35
      have K31 := hide k31
      have B13 := hide b13
      have A13 := hide a13
      clear F8 hW12 s13 k35 k31 b13 a13 S12 K12 B12 HAC
      generalize W11.heap.size = b35 at *
      have hbw : Hid (Below w.heap.size w W12) := S13.out.s4.s3.s2.bel
      go_upto_if 290 with fail
      go_cut [36] (fun v36 wd => v36 = .int .u64 (PdOf I i : Int) ∧ wd = W12)
      case first =>
        by_cases hk : I.ka i % 6 < I.L1
        · have hdk : decide ((I.ka i : Int) % 6 < (I.L1 : Int)) = true := by simp; omega
          have jx : ∀ wx, Sem.run Ybad.prog (Instr.indexAt 23 (.slice p.a1 I.L1 p.c1) (.int .i64 ((I.ka i : Int) % 6))) wx = .ok (.pointer (some ⟨p.g1, p.o1 + I.ka i % 6, none⟩)) wx := M.out.x1 (I.ka i % 6) hk
          have cx : W12.cell? ⟨p.g1, p.o1 + I.ka i % 6, none⟩ = some (.int .u64 (I.pb (I.ka i % 6) : Int)) := (M.out.kept hbw.out).t1 (I.ka i % 6) hk 0 _ rfl
          have HP : Hid (PdOf I i = I.pb (I.ka i % 6)) := by rw [Hid, PdOf, if_pos hk]
          go_wp2
          go_meet
          case rel => exact ⟨by rw [HP.out], rfl⟩
        · have hdk : decide ((I.ka i : Int) % 6 < (I.L1 : Int)) = false := by simp; omega
          have HP : Hid (PdOf I i = 0) := by rw [Hid, PdOf, if_neg hk]
          go_wp2
          go_meet
          case rel => exact ⟨by rw [HP.out]; rfl, rfl⟩
      case rest =>
        obtain ⟨rfl, hw12⟩ := hcut
        subst hw12
        go_upto_region 69 with fail
        obtain ⟨bS, hbS⟩ : ∃ b : Bool, b = decide (StOf I i = 1) := ⟨_, rfl⟩
        have HbS := hide hbS
        clear hbS
        go_cut [306] (fun v306 wd => v306 = .bool bS ∧ wd = wc)
        case first =>
          by_cases hk : I.ka i % 6 < I.L2
          · have hdk : decide ((I.ka i : Int) % 6 < (I.L2 : Int)) = true := by simp; omega
            have jx : ∀ wx, Sem.run Ybad.prog (Instr.indexAt 24 (.slice p.a2 I.L2 p.c2) (.int .i64 ((I.ka i : Int) % 6))) wx = .ok (.pointer (some ⟨p.g2, p.o2 + I.ka i % 6, none⟩)) wx := M.out.x2 (I.ka i % 6) hk
            have cx : wc.cell? ⟨p.g2, p.o2 + I.ka i % 6, none⟩ = some (.int .u8 (I.bd (I.ka i % 6) : Int)) := (M.out.kept hbw.out).t2 (I.ka i % 6) hk 0 _ rfl
            by_cases h0 : I.bd (I.ka i % 6) % 3 = 0
            · have hz : ((I.bd (I.ka i % 6) : Int) % 3 != 0) = false := by simp; omega
              have HS : Hid (decide (StOf I i = 1) = false) := by rw [Hid, StOf, if_neg (fun h => h.2 h0)]; rfl
              clear h0
              go_wp2
              go_meet
              case rel => exact ⟨by rw [HbS.out, HS.out], rfl⟩
            · have hz : ((I.bd (I.ka i % 6) : Int) % 3 != 0) = true := by simp; omega
              have HS : Hid (decide (StOf I i = 1) = true) := by rw [Hid, StOf, if_pos ⟨hk, h0⟩]; rfl
              clear h0
              go_wp2
              go_meet
              case rel => exact ⟨by rw [HbS.out, HS.out], rfl⟩
          · have hdk : decide ((I.ka i : Int) % 6 < (I.L2 : Int)) = false := by simp; omega
            have HS : Hid (decide (StOf I i = 1) = false) := by rw [Hid, StOf, if_neg (fun h => hk h.1)]; rfl
            go_wp2
            go_meet
            case rel => exact ⟨by rw [HbS.out, HS.out], rfl⟩
        case rest =>
          obtain ⟨rfl, hw12⟩ := hcut
          subst hw12
          go_upto_if 306 with fail
          go_cut [37] (fun v37 wd => v37 = .int .i64 (StOf I i) ∧ wd = wc)
          case first =>
            cases bS with
            | true =>
              have HS : Hid (StOf I i = 1) := by
                show StOf I i = 1
                have := HbS.out
                simpa using this.symm
              go_wp2
              go_meet
              case rel => exact ⟨by rw [HS.out], rfl⟩
            | false =>
              have hs : ¬ StOf I i = 1 := by have := HbS.out; simpa using this.symm
              have HS : Hid (StOf I i = 2) := by
                show StOf I i = 2
                unfold StOf at hs ⊢
                split
                · rename_i h; rw [if_pos h] at hs; exact absurd rfl hs
                · rfl
              clear hs
              go_wp2
              go_meet
              case rel => exact ⟨by rw [HS.out], rfl⟩
          case rest =>
            obtain ⟨rfl, hw12⟩ := hcut
            subst hw12
            have hpd : PdOf I i < 18446744073709551616 := by
              unfold PdOf
              split
              · rename_i h; exact M.out.k1 _ h
              · omega
            have K9 : Hid (∀ wx, Below wc.heap.size wc wx → Calls Ybad.prog 9 #[.int .u64 (PdOf I i : Int)] wx fun e w' => e = .returned (.string (num (PdOf I i))) ∧ Below wc.heap.size wc w') := by
              intro wx hx
              refine (dec9 (PdOf I i) hpd wx).mono ?_
              rintro e w' ⟨rfl, hb'⟩
              exact ⟨rfl, hx.trans (hb'.mono hx.size)⟩
            have d0 : ∀ wx, Below wc.heap.size wc wx → wx.cell? ⟨b35, 0, none⟩ = some (.string (I.Wr i)) := fun wx hx => (K35.out.kept hx).cell 0 _ rfl
            have d1 : ∀ wx, Below wc.heap.size wc wx → wx.cell? ⟨b35, 1, none⟩ = some (.string ({ data := #[114] } ++ num (PdOf I i))) := fun wx hx => (K35.out.kept hx).cell 1 _ rfl
            have d2 : ∀ wx, Below wc.heap.size wc wx → wx.cell? ⟨b35, 2, none⟩ = some (.int .i64 (StOf I i)) := fun wx hx => (K35.out.kept hx).cell 2 _ rfl
            have e1 : ∀ wx, Below wc.heap.size wc wx → wx.cell? ⟨b31, 1, none⟩ = some (.string (I.Wr i)) := fun wx hx => (K31.out.kept hx).cell 1 _ rfl
            have hb0 := Below.refl wc.heap.size wc
            have hns := num_size hpd
            have hif : 1 + (num (PdOf I i)).size ≤ 9223372036854775807 := by omega
            go_upto_region 71 with fail
            go_region_held (fun w' => Below wc.heap.size wc w')
              (repeat' (first | assumption | apply Below.drew | apply below_alloc))
              (first | (go_at_call 9; refine (K9.out _ (by repeat' (first | assumption | apply Below.drew | apply below_alloc))).mono ?_; rintro e w13 ⟨rfl, hb13⟩))
            have S15 := hide (S13.out.kept hb13)
            have K15 := hide (K35.out.kept hb13)
            have A15 := hide (A13.out.kept hb13)
            have B15 := hide (B13.out.trans (hb13.mono B13.out.size))
            clear d0 d1 d2 e1 hb0 hns hif hb13 K9
            have jx3 : ∀ wx, Sem.run Ybad.prog (Instr.indexAt 25 (.slice p.a3 I.L3 p.c3) (.int .i64 (j : Int))) wx = .ok (.pointer (some ⟨p.g3, p.o3 + j * 2, none⟩)) wx := M.out.x3 j hjl
            have c31 : w13.cell? ⟨p.g3, p.o3 + j * 2 + 1, none⟩ = some (.slice (p.ab j) (I.n j) (p.cp j)) := (M.out.kept S15.out.s4.s3.s2.bel).t3 j hjl 1 _ rfl
            have v3 := K15.out.cell 3 _ rfl
            have q96 := eql96
            have hn96 := isNone_eq HN.out
            have hnn := hnj.out j hjl
            go_upto_block 16 with fail
            clear jx3 c31 v3 q96 hn96
            go_wp2_with fail
            go_loopg [348] (I.n j) (fun g s348 wi => ∃ q : Nat, q ≤ I.n j ∧ I.n j - q ≤ g ∧ s348 = .int .i64 q ∧ Hid (Below w13.heap.size w13 wi))
            case atStart => exact ⟨0, Nat.zero_le _, by omega, rfl, Below.refl _ _⟩
            case round =>
              obtain ⟨q, hq, hg9, rfl, B16⟩ := hrel
              generalize hwi : wr = wi at *
              clear hwi
              by_cases hqn : q < I.n j
              · have jc : ∀ wx, Sem.run Ybad.prog (Instr.indexAt 96 (.slice ca (I.n j) cc') (.int .i64 (q : Int))) wx = .ok (.pointer (some ⟨gc, q * 5, none⟩)) wx := IXC.out q hqn
                have jb : ∀ wx, Sem.run Ybad.prog (Instr.indexAt 26 (.slice (p.ab j) (I.n j) (p.cp j)) (.int .i64 (q : Int))) wx = .ok (.pointer (some ⟨p.gb j, p.ob j + q * 4, none⟩)) wx := M.out.xb j hjl q hqn
                have S16 := hide (S15.out.kept B16.out)
                have hac := (A15.out.kept B16.out)
                have hok := M.out.kb j hjl q hqn
                have hM := hide (M.out.kept S16.out.s4.s3.s2.bel)
                have K10 : Hid (∀ wx, Below wi.heap.size wi wx → Calls Ybad.prog 10 #[.agg (cc ({ data := #[99] } ++ num (I.Bb j q).id) (cst (I.Bb j q).ev) (I.Bb j q).ev (cex (I.Bb j q).ev (red (I.Bb j q).ex - red now)) (I.Bb j q).uri), .agg (rb ((I.Bb j q).id : Int) (I.Bb j q).ev (I.Bb j q).uri (I.Bb j q).ex), .int .i64 (red now)] wx fun e w' => e = .returned (.bool true) ∧ Below wi.heap.size wi w') := by
                  intro wx hx
                  refine (contactBd (I.Bb j q) hok (red now) hr.out wx).mono ?_
                  rintro e w' ⟨rfl, hb'⟩
                  exact ⟨rfl, hx.trans (hb'.mono hx.size)⟩
                have h0 : ∀ wx, Below wi.heap.size wi wx → wx.cell? ⟨gc, q * 5, none⟩ = some (.string ({ data := #[99] } ++ num (I.Bb j q).id)) := fun wx hx => (hac.kept hx) q hqn 0 _ rfl
                have h1 : ∀ wx, Below wi.heap.size wi wx → wx.cell? ⟨gc, q * 5 + 1, none⟩ = some (.int .i64 (cst (I.Bb j q).ev)) := fun wx hx => (hac.kept hx) q hqn 1 _ rfl
                have h2 : ∀ wx, Below wi.heap.size wi wx → wx.cell? ⟨gc, q * 5 + 2, none⟩ = some (.int .i64 (I.Bb j q).ev) := fun wx hx => (hac.kept hx) q hqn 2 _ rfl
                have h3 : ∀ wx, Below wi.heap.size wi wx → wx.cell? ⟨gc, q * 5 + 3, none⟩ = some (.int .i64 (cex (I.Bb j q).ev (red (I.Bb j q).ex - red now))) := fun wx hx => (hac.kept hx) q hqn 3 _ rfl
                have h4 : ∀ wx, Below wi.heap.size wi wx → wx.cell? ⟨gc, q * 5 + 4, none⟩ = some (.string (I.Bb j q).uri) := fun wx hx => (hac.kept hx) q hqn 4 _ rfl
                have r0 : ∀ wx, Below wi.heap.size wi wx → wx.cell? ⟨p.gb j, p.ob j + q * 4, none⟩ = some (.int .u64 ((I.Bb j q).id : Int)) := fun wx hx => (hM.out.kept hx).tb j hjl q hqn 0 _ rfl
                have r1 : ∀ wx, Below wi.heap.size wi wx → wx.cell? ⟨p.gb j, p.ob j + q * 4 + 1, none⟩ = some (.int .i8 (I.Bb j q).ev) := fun wx hx => (hM.out.kept hx).tb j hjl q hqn 1 _ rfl
                have r2 : ∀ wx, Below wi.heap.size wi wx → wx.cell? ⟨p.gb j, p.ob j + q * 4 + 2, none⟩ = some (.string (I.Bb j q).uri) := fun wx hx => (hM.out.kept hx).tb j hjl q hqn 2 _ rfl
                have r3 : ∀ wx, Below wi.heap.size wi wx → wx.cell? ⟨p.gb j, p.ob j + q * 4 + 3, none⟩ = some (.int .i64 (I.Bb j q).ex) := fun wx hx => (hM.out.kept hx).tb j hjl q hqn 3 _ rfl
                have vr : ∀ wx, Below wi.heap.size wi wx → wx.cell? ⟨b35, 3, none⟩ = some (.slice ca (I.n j) cc') := fun wx hx => ((K15.out.kept B16.out).kept hx).cell 3 _ rfl
                have hb0 := Below.refl wi.heap.size wi
                clear hac hok
                generalize ({ data := #[99] } ++ num (I.Bb j q).id : ByteArray) = tX at *
                generalize cst (I.Bb j q).ev = cX at *
                generalize cex (I.Bb j q).ev (red (I.Bb j q).ex - red now) = dX at *
                generalize (I.Bb j q).id = iX at *
                generalize (I.Bb j q).ev = vX at *
                generalize (I.Bb j q).uri = uX at *
                generalize (I.Bb j q).ex = xX at *
                go_upto_region 79 with fail
                go_region_held (fun w' => Below wi.heap.size wi w')
                  (repeat' (first | assumption | apply Below.drew | apply below_alloc))
                  (first | (go_at_call 10; refine (K10.out _ (by repeat' (first | assumption | apply Below.drew | apply below_alloc))).mono ?_; rintro e w17 ⟨rfl, hb17⟩))
                have B17 := hide (B16.out.trans (hb17.mono B16.out.size))
                clear h0 h1 h2 h3 h4 r0 r1 r2 r3 vr hb0 jc jb hb17
                go_wp2
                go_roundg (I.n j - (q + 1))
                case measure => omega
                case rel => exact ⟨q + 1, by omega, by omega, by go_num, B17⟩
              · have : q = I.n j := by omega
                go_wp2
                apply HK.out
                · rw [HC.out]; exact congrArg _ (by omega)
                · exact B15.out.trans (B16.out.mono B15.out.size)
end Go.Proofs.YbulkeeoiDoor
