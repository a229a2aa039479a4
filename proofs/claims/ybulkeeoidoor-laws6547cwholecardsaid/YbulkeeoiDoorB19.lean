import Derived.Test.YbulkeeoiDoorB13
namespace Go.Proofs.YbulkeeoiDoor
open Go.RowKit Go.Sort
set_option linter.unusedVariables false

set_option maxHeartbeats 8000000 in
set_option maxRecDepth 100000 in
theorem body19 (I : In) (p : Pl) (now : Int) (w : World) (T D C V P : Nat) (rv wv : Value) (f1 f2 f3 : ByteArray → Option Value) (da : Option Addr) (dc : Nat) (W9 wr : World) (k : Nat) (M : Hid (Mem I p w)) (S9 : Hid (St5 I (red now) w T D C V P rv wv f1 f2 f3 da dc W9)) (b0 : I.L0 ≤ 1048576) (b3 : I.L3 ≤ 1048576) (hnj : Hid (∀ j, j < I.L3 → I.n j ≤ 1048576)) (hr : Hid (-1125899906842624 < red now ∧ red now < 1125899906842624))
    (B9 : Hid (Below W9.heap.size W9 wr)) (hk6 : k < 6) (K K2 K3 : Act → World → Prop) (R : Ending → World → Prop)
    (c4 c5 c6 c7 c8 c9 c10 c11 c12 c13 c15 c17 c18 c19 c20 c21 c23 c24 c25 c26 c27 c29 c30 c31 c32 c33 c34 c35 c36 c37 c38 c39 c41 c42 c43 c44 c45 c46 c47 c48 c49 c50 c51 c52 c53 c54 c55 c56 c57 c58 c59 c60 c61 c62 c63 c64 c65 c66 c67 c68 c69 c70 c71 c72 c73 c74 c75 c76 c77 c78 c79 c80 c81 c82 c83 c84 c85 c86 c87 c88 c89 c90 c91 c92 c93 c94 c95 c96 c97 c98 c99 c100 c101 c102 c103 c104 c105 c106 c107 c108 c109 c110 c111 c112 c113 c114 c115 c116 c117 c118 c119 c120 c121 c122 c123 c124 c125 c126 c127 c128 c129 c130 c131 c132 c133 c134 c135 c136 c137 c138 c139 c140 c141 c142 c143 c144 c145 c146 c147 c148 c149 c150 c151 c152 c153 c154 c155 c156 c157 c158 c159 c160 c161 c162 c163 c164 c165 c166 c167 c168 c169 c170 c171 c172 c173 c174 c175 c176 c177 c178 c179 c180 c181 c182 c183 c184 c185 c186 c187 c188 c189 c190 c191 c192 c193 c194 c195 c196 c197 c198 c199 c200 c201 c202 c203 c204 c205 c206 c207 c208 c209 c210 c211 c212 c213 c214 c215 c216 c217 c218 c219 c220 c221 c222 c223 c224 c225 c226 c227 c228 c229 c230 c231 c232 c233 c234 c235 c236 c237 c238 c239 c240 c241 c242 c243 c244 c245 c246 c247 c248 c249 c250 c251 c252 c253 c254 c255 c256 c257 c258 c259 c260 c261 c262 c263 c264 c265 c266 c267 c268 c269 c270 c271 c272 c273 c274 c275 c276 c277 c278 c279 c280 c281 c282 c283 c284 c285 c286 c287 c288 c289 c290 c291 c292 c293 c294 c295 c296 c297 c298 c299 c300 c301 c302 c303 c304 c305 c306 c307 c308 c309 c310 c311 c312 c313 c314 c315 c316 c317 c318 c319 c320 c321 c322 c323 c324 c325 c326 c327 c328 c329 c330 c331 c332 c333 c334 c335 c336 c337 c338 c339 c340 c341 c342 c343 c344 c345 c346 c347 c348 c349 c350 c351 c352 c353 c354 c355 c356 c357 c358 c359 c360 c361 c362 c363 c364 c365 c366 c367 c368 c369 c370 c371 c372 c373 c374 c375 c376 c377 c378 c379 c380 c381 c382 c383 c384 c385 c386 c387 c388 c389 c390 c391 c392 c393 c394 c395 c396 c397 c398 c399 c400 c401 c402 c403 c404 c405 c406 c407 c408 c409 c410 c411 c412 c413 c414 c415 c416 c417 c418 c419 c420 c421 c422 c423 c424 c425 c426 c427 c428 c429 c430 c431 c432 c433 c434 c435 c436 c437 c438 c439 c440 c441 c442 c443 c444 c445 c446 c447 c448 : Value)
    (hK : ∀ (u10 u41 u42 u43 u44 u45 u396 u397 u398 u399 u400 u401 u402 u403 u404 u405 u406 u407 u408 u409 u410 u411 u412 u413 u414 u415 u416 u417 u418 u419 u420 u421 u422 u423 u424 u425 u426 u427 u428 u429 u430 u431 u432 u433 u434 u435 u436 u437 u438 u439 u440 u441 u442 u443 u444 u445 u446 u447 u448 : Value) (wd : World), Below W9.heap.size W9 wd → K ⟨#[.slice p.a0 I.L0 p.c0, .slice p.a1 I.L1 p.c1, .slice p.a2 I.L2 p.c2, .slice p.a3 I.L3 p.c3, c4, c5, c6, c7, c8, c9, u10, c11, c12, c13, .int .i64 (red now), c15, .pointer (some ⟨T + 1, 0, none⟩), c17, c18, c19, c20, c21, .map (some C), c23, c24, c25, c26, c27, .pointer (some ⟨V, 0, none⟩), c29, c30, c31, c32, c33, c34, c35, c36, c37, c38, c39, .int .i64 (k : Int), u41, u42, u43, u44, u45, c46, c47, c48, c49, c50, c51, c52, c53, c54, c55, c56, c57, c58, c59, c60, c61, c62, c63, c64, c65, c66, c67, c68, c69, c70, c71, c72, c73, c74, c75, c76, c77, c78, c79, c80, c81, c82, c83, c84, c85, c86, c87, c88, c89, c90, c91, c92, c93, c94, c95, c96, c97, c98, c99, c100, c101, c102, c103, c104, c105, c106, c107, c108, c109, c110, c111, c112, c113, c114, c115, c116, c117, c118, c119, c120, c121, c122, c123, c124, c125, c126, c127, c128, c129, c130, c131, c132, c133, c134, c135, c136, c137, c138, c139, c140, c141, c142, c143, c144, c145, c146, c147, c148, c149, c150, c151, c152, c153, c154, c155, c156, c157, c158, c159, c160, c161, c162, c163, c164, c165, c166, c167, c168, c169, c170, c171, c172, c173, c174, c175, c176, c177, c178, c179, c180, c181, c182, c183, c184, c185, c186, c187, c188, c189, c190, c191, c192, c193, c194, c195, c196, c197, c198, c199, c200, c201, c202, c203, c204, c205, c206, c207, c208, c209, c210, c211, c212, c213, c214, c215, c216, c217, c218, c219, c220, c221, c222, c223, c224, c225, c226, c227, c228, c229, c230, c231, c232, c233, c234, c235, c236, c237, c238, c239, c240, c241, c242, c243, c244, c245, c246, c247, c248, c249, c250, c251, c252, c253, c254, c255, c256, c257, c258, c259, c260, c261, c262, c263, c264, c265, c266, c267, c268, c269, c270, c271, c272, c273, c274, c275, c276, c277, c278, c279, c280, c281, c282, c283, c284, c285, c286, c287, c288, c289, c290, c291, c292, c293, c294, c295, c296, c297, c298, c299, c300, c301, c302, c303, c304, c305, c306, c307, c308, c309, c310, c311, c312, c313, c314, c315, c316, c317, c318, c319, c320, c321, c322, c323, c324, c325, c326, c327, c328, c329, c330, c331, c332, c333, c334, c335, c336, c337, c338, c339, c340, c341, c342, c343, c344, c345, c346, c347, c348, c349, c350, c351, c352, c353, c354, c355, c356, c357, c358, c359, c360, c361, c362, c363, c364, c365, c366, c367, c368, c369, c370, c371, c372, c373, c374, c375, c376, c377, c378, c379, c380, c381, c382, c383, c384, c385, c386, c387, c388, c389, c390, c391, c392, c393, c394, c395, u396, u397, u398, u399, u400, u401, u402, u403, u404, u405, u406, u407, u408, u409, u410, u411, u412, u413, u414, u415, u416, u417, u418, u419, u420, u421, u422, u423, u424, u425, u426, u427, u428, u429, u430, u431, u432, u433, u434, u435, u436, u437, u438, u439, u440, u441, u442, u443, u444, u445, u446, u447, u448], []⟩ wd) :
    Code.wp Ybad.prog ((Ybad.f3.body.bind (findBlk 19)).getD .skip) (Exit.then K (Exit.then K2 (Exit.inBlock 18 (Exit.then K3 (bodyPost Ybad.prog Ybad.f3 R))))) ⟨#[.slice p.a0 I.L0 p.c0, .slice p.a1 I.L1 p.c1, .slice p.a2 I.L2 p.c2, .slice p.a3 I.L3 p.c3, c4, c5, c6, c7, c8, c9, c10, c11, c12, c13, .int .i64 (red now), c15, .pointer (some ⟨T + 1, 0, none⟩), c17, c18, c19, c20, c21, .map (some C), c23, c24, c25, c26, c27, .pointer (some ⟨V, 0, none⟩), c29, c30, c31, c32, c33, c34, c35, c36, c37, c38, c39, .int .i64 (k : Int), c41, c42, c43, c44, c45, c46, c47, c48, c49, c50, c51, c52, c53, c54, c55, c56, c57, c58, c59, c60, c61, c62, c63, c64, c65, c66, c67, c68, c69, c70, c71, c72, c73, c74, c75, c76, c77, c78, c79, c80, c81, c82, c83, c84, c85, c86, c87, c88, c89, c90, c91, c92, c93, c94, c95, c96, c97, c98, c99, c100, c101, c102, c103, c104, c105, c106, c107, c108, c109, c110, c111, c112, c113, c114, c115, c116, c117, c118, c119, c120, c121, c122, c123, c124, c125, c126, c127, c128, c129, c130, c131, c132, c133, c134, c135, c136, c137, c138, c139, c140, c141, c142, c143, c144, c145, c146, c147, c148, c149, c150, c151, c152, c153, c154, c155, c156, c157, c158, c159, c160, c161, c162, c163, c164, c165, c166, c167, c168, c169, c170, c171, c172, c173, c174, c175, c176, c177, c178, c179, c180, c181, c182, c183, c184, c185, c186, c187, c188, c189, c190, c191, c192, c193, c194, c195, c196, c197, c198, c199, c200, c201, c202, c203, c204, c205, c206, c207, c208, c209, c210, c211, c212, c213, c214, c215, c216, c217, c218, c219, c220, c221, c222, c223, c224, c225, c226, c227, c228, c229, c230, c231, c232, c233, c234, c235, c236, c237, c238, c239, c240, c241, c242, c243, c244, c245, c246, c247, c248, c249, c250, c251, c252, c253, c254, c255, c256, c257, c258, c259, c260, c261, c262, c263, c264, c265, c266, c267, c268, c269, c270, c271, c272, c273, c274, c275, c276, c277, c278, c279, c280, c281, c282, c283, c284, c285, c286, c287, c288, c289, c290, c291, c292, c293, c294, c295, c296, c297, c298, c299, c300, c301, c302, c303, c304, c305, c306, c307, c308, c309, c310, c311, c312, c313, c314, c315, c316, c317, c318, c319, c320, c321, c322, c323, c324, c325, c326, c327, c328, c329, c330, c331, c332, c333, c334, c335, c336, c337, c338, c339, c340, c341, c342, c343, c344, c345, c346, c347, c348, c349, c350, c351, c352, c353, c354, c355, c356, c357, c358, c359, c360, c361, c362, c363, c364, c365, c366, c367, c368, c369, c370, c371, c372, c373, c374, c375, c376, c377, c378, c379, c380, c381, c382, c383, c384, c385, c386, c387, c388, c389, c390, c391, c392, c393, c394, c395, c396, c397, c398, c399, c400, c401, c402, c403, c404, c405, c406, c407, c408, c409, c410, c411, c412, c413, c414, c415, c416, c417, c418, c419, c420, c421, c422, c423, c424, c425, c426, c427, c428, c429, c430, c431, c432, c433, c434, c435, c436, c437, c438, c439, c440, c441, c442, c443, c444, c445, c446, c447, c448], []⟩ wr := by
  have S10 := hide (S9.out.kept B9.out)
  have HK := hide hK
  clear hK
  conv => arg 2; whnf
  go_upto_block 20 with fail
  go_cut [41] (fun v41 wd => v41 = .int .i64 (lastI I.kc k I.L3) ∧ wd = wr)
  case first =>
    go_wp2_with fail
    go_loopg [402, 41] I.L3 (fun g s402 s41 wi => ∃ j : Nat, j ≤ I.L3 ∧ I.L3 - j ≤ g ∧ s402 = .int .i64 j ∧ s41 = .int .i64 (lastI I.kc k j) ∧ Hid (wi = wr))
    case atStart => exact ⟨0, Nat.zero_le _, by omega, rfl, rfl, rfl⟩
    case round =>
      obtain ⟨j, hj, hg2, rfl, rfl, hwi⟩ := hrel
      by_cases hjl : j < I.L3
      · have jx : ∀ wx, Sem.run Ybad.prog (Instr.indexAt 25 (.slice p.a3 I.L3 p.c3) (.int .i64 (j : Int))) wx = .ok (.pointer (some ⟨p.g3, p.o3 + j * 2, none⟩)) wx := M.out.x3 j hjl
        have cj : wr.cell? ⟨p.g3, p.o3 + j * 2, none⟩ = some (.int .u8 (I.kc j : Int)) := by rw [hwi.out]; exact (M.out.kept S10.out.s4.s3.s2.bel).t3 j hjl 0 _ rfl
        have hkc := M.out.k3 j hjl
        by_cases he : I.kc j % 6 = k
        · have hd : ((I.kc j : Int) % 6 == (k : Int)) = true := by simp; omega
          have HL : Hid (lastI I.kc k (j + 1) = (j : Int)) := by rw [Hid, lastI_step, if_pos he]
          clear he
          go_wp2
          go_roundg (I.L3 - (j + 1))
          case measure => omega
          case rel => exact ⟨j + 1, by omega, by omega, by go_num, by rw [HL.out], hwi⟩
        · have hd : ((I.kc j : Int) % 6 == (k : Int)) = false := by simp; omega
          have HL : Hid (lastI I.kc k (j + 1) = lastI I.kc k j) := by rw [Hid, lastI_step, if_neg he]
          clear he
          go_wp2
          go_roundg (I.L3 - (j + 1))
          case measure => omega
          case rel => exact ⟨j + 1, by omega, by omega, by go_num, by rw [HL.out], hwi⟩
      · have : j = I.L3 := by omega
        subst this
        go_wp2
        go_meet
        case rel => exact ⟨rfl, hwi.out⟩
  case rest =>
    obtain ⟨rfl, hw10⟩ := hcut
    subst hw10
    have hHd := S10.out.s4.q3 k hk6
    cases hl : lastc I.kc k I.L3 with
    | none =>
      have hI : lastI I.kc k I.L3 = -1 := by unfold lastI; rw [hl]
      clear hl hHd
      go_wp2
      apply HK.out
      exact B9.out
    | some j =>
      have hI : lastI I.kc k I.L3 = (j : Int) := by unfold lastI; rw [hl]
      have hd0 : decide ((j : Int) < 0) = false := by simp
      have hjl := (lastc_lt hl).1
      rw [hl] at hHd
      obtain ⟨bv, hf3, hown⟩ := hHd
      obtain ⟨ba, bcap, gb, rfl, ixb, hab, _, _⟩ := own_view Ybad.underlying72 Ybad.sizeOf86 (size := 15) (fun i => rfl) hown
      have lk : Sem.run Ybad.prog (Instr.lookup 49 (.map (some C)) (.string (aorS k)) false) wc = .ok (.slice ba (I.n j) bcap) wc := by rw [look49 S10.out.s4.m3 (aorS k), hf3]; rfl
      have K6 : Hid (∀ wx, Calls Ybad.prog 6 #[.int .u8 (k : Int)] wx fun e w' => e = .returned (.string (aorS k)) ∧ w' = wx) := fun wx => aor6 k (by omega) wx
      have hw : IntKind.u8.wrap (k : Int) = (k : Int) := by rw [IntKind.wrap_u8]; omega
      have jx3 : ∀ wx, Sem.run Ybad.prog (Instr.indexAt 25 (.slice p.a3 I.L3 p.c3) (.int .i64 (j : Int))) wx = .ok (.pointer (some ⟨p.g3, p.o3 + j * 2, none⟩)) wx := M.out.x3 j hjl
      have c31 : wc.cell? ⟨p.g3, p.o3 + j * 2 + 1, none⟩ = some (.slice (p.ab j) (I.n j) (p.cp j)) := (M.out.kept S10.out.s4.s3.s2.bel).t3 j hjl 1 _ rfl
      have hnn := hnj.out j hjl
      have IXB := hide ixb
      have HAB := hide hab
      have k0 : (0 : Int) ≤ (k : Int) := by omega
      have k1 : (k : Int) < 6 := by omega
      clear hl hf3 hown ixb hab
      go_upto_block 22 with (first | (go_at_call 6; refine (K6.out _).mono ?_; rintro e w6 ⟨rfl, rfl⟩))
      clear jx3 c31 lk
      go_wp2_with fail
      go_loopg [435] (I.n j) (fun g s435 wi => ∃ q : Nat, q ≤ I.n j ∧ I.n j - q ≤ g ∧ s435 = .int .i64 q ∧ Hid (Below w6.heap.size w6 wi))
      case atStart => exact ⟨0, Nat.zero_le _, by omega, rfl, Below.refl _ _⟩
      case round =>
        obtain ⟨q, hq, hg9, rfl, B16⟩ := hrel
        by_cases hqn : q < I.n j
        · have jc : ∀ wx, Sem.run Ybad.prog (Instr.indexAt 72 (.slice ba (I.n j) bcap) (.int .i64 (q : Int))) wx = .ok (.pointer (some ⟨gb, q * 15, none⟩)) wx := IXB.out q hqn
          have jb : ∀ wx, Sem.run Ybad.prog (Instr.indexAt 26 (.slice (p.ab j) (I.n j) (p.cp j)) (.int .i64 (q : Int))) wx = .ok (.pointer (some ⟨p.gb j, p.ob j + q * 4, none⟩)) wx := M.out.xb j hjl q hqn
          have S16 := hide (S10.out.kept B16.out)
          have hac := (HAB.out.kept B16.out)
          have hok := M.out.kb j hjl q hqn
          have hM := hide (M.out.kept S16.out.s4.s3.s2.bel)
          have K11 : Hid (∀ wx, Below wr.heap.size wr wx → Calls Ybad.prog 11 #[.agg (bc ((I.Bb j q).id : Int) (I.Bb j q).ev (I.Bb j q).uri (tS (red (I.Bb j q).ex)) (tN (red (I.Bb j q).ex))), .agg (rb ((I.Bb j q).id : Int) (I.Bb j q).ev (I.Bb j q).uri (I.Bb j q).ex)] wx fun e w' => e = .returned (.bool true) ∧ Below wr.heap.size wr w') := by
            intro wx hx
            refine (sameBd (I.Bb j q) hok wx).mono ?_
            rintro e w' ⟨rfl, hb'⟩
            exact ⟨rfl, hx.trans (hb'.mono hx.size)⟩
          have hat : Hid (∀ wx, Below wr.heap.size wr wx → ∀ t u, (bc ((I.Bb j q).id : Int) (I.Bb j q).ev (I.Bb j q).uri (tS (red (I.Bb j q).ex)) (tN (red (I.Bb j q).ex))).toList[t]? = some u → wx.cell? ⟨gb, q * 15 + t, none⟩ = some u) := fun wx hx t u hu => (hac.kept hx) q hqn t u hu
          have r0 : ∀ wx, Below wr.heap.size wr wx → wx.cell? ⟨p.gb j, p.ob j + q * 4, none⟩ = some (.int .u64 ((I.Bb j q).id : Int)) := fun wx hx => (hM.out.kept hx).tb j hjl q hqn 0 _ rfl
          have r1 : ∀ wx, Below wr.heap.size wr wx → wx.cell? ⟨p.gb j, p.ob j + q * 4 + 1, none⟩ = some (.int .i8 (I.Bb j q).ev) := fun wx hx => (hM.out.kept hx).tb j hjl q hqn 1 _ rfl
          have r2 : ∀ wx, Below wr.heap.size wr wx → wx.cell? ⟨p.gb j, p.ob j + q * 4 + 2, none⟩ = some (.string (I.Bb j q).uri) := fun wx hx => (hM.out.kept hx).tb j hjl q hqn 2 _ rfl
          have r3 : ∀ wx, Below wr.heap.size wr wx → wx.cell? ⟨p.gb j, p.ob j + q * 4 + 3, none⟩ = some (.int .i64 (I.Bb j q).ex) := fun wx hx => (hM.out.kept hx).tb j hjl q hqn 3 _ rfl
          have hb0 := Below.refl wr.heap.size wr
          clear hac hok
          generalize tS (red (I.Bb j q).ex) = sX at *
          generalize tN (red (I.Bb j q).ex) = nX at *
          generalize (I.Bb j q).id = iX at *
          generalize (I.Bb j q).ev = vX at *
          generalize (I.Bb j q).uri = uX at *
          generalize (I.Bb j q).ex = xX at *
          have g0 : ∀ wx, Below wr.heap.size wr wx → wx.cell? ⟨gb, q * 15, none⟩ = some (.string { data := #[] }) := fun wx hx => hat.out wx hx 0 _ rfl
          have g1 : ∀ wx, Below wr.heap.size wr wx → wx.cell? ⟨gb, q * 15 + 1, none⟩ = some _ := fun wx hx => hat.out wx hx 1 _ rfl
          have g2 : ∀ wx, Below wr.heap.size wr wx → wx.cell? ⟨gb, q * 15 + 2, none⟩ = some _ := fun wx hx => hat.out wx hx 2 _ rfl
          have g3 : ∀ wx, Below wr.heap.size wr wx → wx.cell? ⟨gb, q * 15 + 3, none⟩ = some _ := fun wx hx => hat.out wx hx 3 _ rfl
          have g4 : ∀ wx, Below wr.heap.size wr wx → wx.cell? ⟨gb, q * 15 + 4, none⟩ = some _ := fun wx hx => hat.out wx hx 4 _ rfl
          have g5 : ∀ wx, Below wr.heap.size wr wx → wx.cell? ⟨gb, q * 15 + 5, none⟩ = some _ := fun wx hx => hat.out wx hx 5 _ rfl
          have g6 : ∀ wx, Below wr.heap.size wr wx → wx.cell? ⟨gb, q * 15 + 6, none⟩ = some _ := fun wx hx => hat.out wx hx 6 _ rfl
          have g7 : ∀ wx, Below wr.heap.size wr wx → wx.cell? ⟨gb, q * 15 + 7, none⟩ = some _ := fun wx hx => hat.out wx hx 7 _ rfl
          have g8 : ∀ wx, Below wr.heap.size wr wx → wx.cell? ⟨gb, q * 15 + 8, none⟩ = some _ := fun wx hx => hat.out wx hx 8 _ rfl
          have g9 : ∀ wx, Below wr.heap.size wr wx → wx.cell? ⟨gb, q * 15 + 9, none⟩ = some _ := fun wx hx => hat.out wx hx 9 _ rfl
          have g10 : ∀ wx, Below wr.heap.size wr wx → wx.cell? ⟨gb, q * 15 + 10, none⟩ = some _ := fun wx hx => hat.out wx hx 10 _ rfl
          have g11 : ∀ wx, Below wr.heap.size wr wx → wx.cell? ⟨gb, q * 15 + 11, none⟩ = some _ := fun wx hx => hat.out wx hx 11 _ rfl
          have g12 : ∀ wx, Below wr.heap.size wr wx → wx.cell? ⟨gb, q * 15 + 12, none⟩ = some _ := fun wx hx => hat.out wx hx 12 _ rfl
          have g13 : ∀ wx, Below wr.heap.size wr wx → wx.cell? ⟨gb, q * 15 + 13, none⟩ = some _ := fun wx hx => hat.out wx hx 13 _ rfl
          have g14 : ∀ wx, Below wr.heap.size wr wx → wx.cell? ⟨gb, q * 15 + 14, none⟩ = some _ := fun wx hx => hat.out wx hx 14 _ rfl
          go_upto_region 105 with fail
          go_region_held (fun w' => Below wr.heap.size wr w')
            (repeat' (first | assumption | apply Below.drew | apply below_alloc))
            (first | (go_at_call 11; refine (K11.out _ (by repeat' (first | assumption | apply Below.drew | apply below_alloc))).mono ?_; rintro e w17 ⟨rfl, hb17⟩))
          have B17 := hide (B16.out.trans (hb17.mono B16.out.size))
          clear g0 g1 g2 g3 g4 g5 g6 g7 g8 g9 g10 g11 g12 g13 g14 r0 r1 r2 r3 hb0 jc jb hb17
          go_wp2
          go_roundg (I.n j - (q + 1))
          case measure => omega
          case rel => exact ⟨q + 1, by omega, by omega, by go_num, B17⟩
        · have : q = I.n j := by omega
          go_wp2
          apply HK.out
          exact B9.out.trans (B16.out.mono B9.out.size)
end Go.Proofs.YbulkeeoiDoor
