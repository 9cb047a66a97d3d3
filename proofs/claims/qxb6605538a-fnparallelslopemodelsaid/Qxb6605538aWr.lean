/-
  'FnParallelSlopeModel': the law's count of its points.
-/
import Derived.Test.Qxb6605538aWq
namespace Go.Proofs.Qxb6605538a.fl
open Go.ChangeShapes Go.WideShapes Go.RowKit

/-- how many places the first k groups have -/
def Ln (xss : List (List Nat)) (k : Nat) : Nat := ((xss.take k).map List.length).sum
theorem Ln_step {xss : List (List Nat)} {k : Nat} (h : k < xss.length) : Ln xss (k + 1) = Ln xss k + (xss[k]).length := by
  unfold Ln
  rw [List.take_succ_eq_append_getElem h, List.map_append, List.sum_append]
  simp
theorem Ln_full {xss : List (List Nat)} {k : Nat} (h : xss.length ≤ k) : Ln xss k = (xss.map List.length).sum := by
  unfold Ln
  rw [List.take_of_length_le h]

set_option maxRecDepth 1000000 in
set_option maxHeartbeats 16000000 in
theorem law_b3 (z4 z5 z6 z7 z8 z9 z10 z12 z13 z14 z15 z16 z17 z18 z19 z20 z21 z22 z23 z24 z25 z26 z27 z28 z29 z30 z31 z32 z33 z34 z35 z36 z37 z38 z39 z40 z41 z42 z43 z44 z45 z46 z47 z48 z49 z50 z51 z52 z53 z54 z55 z56 z57 z58 z59 z60 z61 z62 z63 z64 z65 z66 z67 z68 z69 z70 z71 z72 z73 z74 z75 z76 z77 z78 z79 z80 z81 z82 z83 z84 z85 z86 z87 z88 z89 z90 z91 z92 z93 z94 z95 z96 z97 z98 z99 z100 z101 z102 z103 z104 z105 z106 z107 z108 z109 z110 z111 z112 z113 z114 z115 z116 z117 z118 z119 z120 z121 z122 z123 z124 z125 z126 z127 z128 z129 z130 z131 z132 z133 z134 z135 z136 z137 z138 z139 z140 z141 z142 z143 z144 z145 z146 z147 z148 z149 z150 z151 z152 z153 z154 z155 z156 z157 z158 z159 z160 z161 z162 z163 z164 z165 z166 z167 z168 z169 z170 z171 z172 z173 z174 z175 z176 z177 z178 z179 z180 z181 z182 z183 z184 z185 z186 z187 z188 z189 z190 z191 z192 z193 z194 z195 z196 z197 z198 z199 z200 z201 z202 z203 z204 z205 z206 z207 z208 z209 z210 z211 z212 z213 z214 z215 z216 z217 z218 z219 z220 z221 z222 z223 z224 z225 z226 z227 z228 z229 z230 z231 z232 z233 z234 z235 z236 z237 z238 z239 z240 z241 z242 z243 z244 z245 z246 z247 z248 z249 z250 z251 z252 z253 z254 z255 z256 z257 z258 z259 z260 z261 z262 z263 z264 z265 z266 z267 z268 z269 z270 z271 z272 z273 z274 z275 z276 z277 z278 z279 z280 z281 z282 z283 z284 z285 z286 z287 z288 z289 z290 z291 z292 z293 z294 z295 z296 z297 z298 z299 z300 z301 z302 z303 z304 z305 z306 z307 z308 z309 z310 z311 z312 z313 z314 z315 z316 z317 z318 z319 z320 z321 z322 z323 z324 z325 z326 z327 z328 z329 z330 z331 z332 z333 z334 z335 z336 z337 z338 z339 z340 z341 z342 z343 z344 z345 z346 z347 z348 z349 z350 z351 z352 z353 z354 z355 z356 z357 z358 z359 z360 z361 z362 z363 z364 z365 z366 z367 z368 z369 z370 z371 z372 z373 z374 z375 z376 z377 z378 z379 z380 z381 z382 z383 z384 z385 z386 z387 z388 z389 z390 z391 z392 z393 z394 z395 z396 z397 z398 z399 z400 z401 z402 z403 z404 z405 z406 z407 z408 z409 z410 z411 z412 z413 z414 z415 z416 z417 : Value) (a0 a1 a2 a3 : Option Addr) (c0 c1 c2 c3 : Nat) (xss yss zss : List (List Nat)) (cs : List Nat) (w : World)
    (hr : Rows0 w (.slice a0 xss.length c0) (.slice a1 yss.length c1) (.slice a2 zss.length c2) xss yss zss) (hf : FSrc w.heap.size w (.slice a3 cs.length c3) cs)
    (tot : (xss.map List.length).sum ≤ 4096) (hcl : cs.length ≤ 4096) :
    Code.wp Try.prog (dropSeq 6 (Try.f5.body.getD .skip)) (bodyPost Try.prog Try.f5 (Post w)) ⟨#[.slice a0 xss.length c0, .slice a1 yss.length c1, .slice a2 zss.length c2, .slice a3 cs.length c3, z4, z5, z6, z7, z8, z9, z10, .int .i64 0, z12, z13, z14, z15, z16, z17, z18, z19, z20, z21, z22, z23, z24, z25, z26, z27, z28, z29, z30, z31, z32, z33, z34, z35, z36, z37, z38, z39, z40, z41, z42, z43, z44, z45, z46, z47, z48, z49, z50, z51, z52, z53, z54, z55, z56, z57, z58, z59, z60, z61, z62, z63, z64, z65, z66, z67, z68, z69, z70, z71, z72, z73, z74, z75, z76, z77, z78, z79, z80, z81, z82, z83, z84, z85, z86, z87, z88, z89, z90, z91, z92, z93, z94, z95, z96, z97, z98, z99, z100, z101, z102, z103, z104, z105, z106, z107, z108, z109, z110, z111, z112, z113, z114, z115, z116, z117, z118, z119, z120, z121, z122, z123, z124, z125, z126, z127, z128, z129, z130, z131, z132, z133, z134, z135, z136, z137, z138, z139, z140, z141, z142, z143, z144, z145, z146, z147, z148, z149, z150, z151, z152, z153, z154, z155, z156, z157, z158, z159, z160, z161, z162, z163, z164, z165, z166, z167, z168, z169, z170, z171, z172, z173, z174, z175, z176, z177, z178, z179, z180, z181, z182, z183, z184, z185, z186, z187, z188, z189, z190, z191, z192, z193, z194, z195, z196, z197, z198, z199, z200, z201, z202, z203, z204, z205, z206, z207, z208, z209, z210, z211, z212, z213, z214, z215, z216, z217, z218, z219, z220, z221, z222, z223, z224, z225, z226, z227, z228, z229, z230, z231, z232, z233, z234, z235, z236, z237, z238, z239, z240, z241, z242, z243, z244, z245, z246, z247, z248, z249, z250, z251, z252, z253, z254, z255, z256, z257, z258, z259, z260, z261, z262, z263, z264, z265, z266, z267, z268, z269, z270, z271, z272, z273, z274, z275, z276, z277, z278, z279, z280, z281, z282, z283, z284, z285, z286, z287, z288, z289, z290, z291, z292, z293, z294, z295, z296, z297, z298, z299, z300, z301, z302, z303, z304, z305, z306, z307, z308, z309, z310, z311, z312, z313, z314, z315, z316, z317, z318, z319, z320, z321, z322, z323, z324, z325, z326, z327, z328, z329, z330, z331, z332, z333, z334, z335, z336, z337, z338, z339, z340, z341, z342, z343, z344, z345, z346, z347, z348, z349, z350, z351, z352, z353, z354, z355, z356, z357, z358, z359, z360, z361, z362, z363, z364, z365, z366, z367, z368, z369, z370, z371, z372, z373, z374, z375, z376, z377, z378, z379, z380, z381, z382, z383, z384, z385, z386, z387, z388, z389, z390, z391, z392, z393, z394, z395, z396, z397, z398, z399, z400, z401, z402, z403, z404, z405, z406, z407, z408, z409, z410, z411, z412, z413, z414, z415, z416, z417], []⟩ w := by
  have HR := Lib.hid hr
  have HF := Lib.hid hf
  have HTT := Lib.hid tot
  have hln := hr.l2
  clear hr hf tot
  conv => arg 2; whnf
  go_upto_block 4 with fail
  go_cut [11] (fun _ W => W = w)
  case rest =>
    rename_i hK
    have hW := hcut
    replace hW := hW.symm
    subst hW
    apply hK
    exact law_c _ _ _ _ _ _ _ _ _ _ _ _ _ _ _ _ _ _ _ _ _ _ _ _ _ _ _ _ _ _ _ _ _ _ _ _ _ _ _ _ _ _ _ _ _ _ _ _ _ _ _ _ _ _ _ _ _ _ _ _ _ _ _ _ _ _ _ _ _ _ _ _ _ _ _ _ _ _ _ _ _ _ _ _ _ _ _ _ _ _ _ _ _ _ _ _ _ _ _ _ _ _ _ _ _ _ _ _ _ _ _ _ _ _ _ _ _ _ _ _ _ _ _ _ _ _ _ _ _ _ _ _ _ _ _ _ _ _ _ _ _ _ _ _ _ _ _ _ _ _ _ _ _ _ _ _ _ _ _ _ _ _ _ _ _ _ _ _ _ _ _ _ _ _ _ _ _ _ _ _ _ _ _ _ _ _ _ _ _ _ _ _ _ _ _ _ _ _ _ _ _ _ _ _ _ _ _ _ _ _ _ _ _ _ _ _ _ _ _ _ _ _ _ _ _ _ _ _ _ _ _ _ _ _ _ _ _ _ _ _ _ _ _ _ _ _ _ _ _ _ _ _ _ _ _ _ _ _ _ _ _ _ _ _ _ _ _ _ _ _ _ _ _ _ _ _ _ _ _ _ _ _ _ _ _ _ _ _ _ _ _ _ _ _ _ _ _ _ _ _ _ _ _ _ _ _ _ _ _ _ _ _ _ _ _ _ _ _ _ _ _ _ _ _ _ _ _ _ _ _ _ _ _ _ _ _ _ _ _ _ _ _ _ _ _ _ _ _ _ _ _ _ _ _ _ _ _ _ _ _ _ _ _ _ _ _ _ _ _ _ _ _ _ _ _ _ _ _ _ _ _ _ _ _ _ _ _ _ _ _ _ _ _ _ _ _ _ _ _ _ _ _ _ _ _ _ _ _ _ _ _ _ _ _ a0 a1 a2 a3 c0 c1 c2 c3 xss yss zss cs w HR.out HF.out HTT.out hcl
  case first =>
    go_wp2_with fail
    go_loopw [11, 14] (fun s g W => ∃ m k : Nat, s = .int .i64 m ∧ g = .int .i64 k ∧ m ≤ 4096 ∧ k ≤ zss.length ∧ W = w) (fun _ g _ => zss.length - (intOf g).toNat)
    case atStart => exact ⟨0, 0, rfl, rfl, by omega, by omega, rfl⟩
    case round =>
      obtain ⟨m, k, rfl, rfl, hm, hk, hW⟩ := hrel
      replace hW := hW.symm
      subst hW
      by_cases hlt : k < zss.length
      · obtain ⟨b, o, a, c, eb, _, hc, r0⟩ := HR.out.h2.at (Below.refl _ _) hlt
        cases eb
        have hq2 := HR.out.m2 _ (List.getElem_mem hlt)
        obtain ⟨q, hq⟩ : ∃ l, l = (zss[k]).length := ⟨_, rfl⟩
        rw [← hq] at hc hq2 
        clear hq r0 
        by_cases k1 : q ≤ 4096
        · by_cases k2 : m + q ≤ 4096
          · go_wp2
            go_roundw
            case rel => exact ⟨m + q, k + 1, by go_num, by go_num, by omega, by omega, by trivial⟩
            case measure => simp [intOf]; omega
          · go_wp2
            go_ret
            exact ⟨rfl, Below.refl _ _⟩
        · go_wp2
          go_ret
          exact ⟨rfl, Below.refl _ _⟩
      · skip
        go_wp2_with fail
        go_meet
        exact rfl

set_option maxRecDepth 1000000 in
set_option maxHeartbeats 16000000 in
theorem law_b2 (z4 z5 z6 z7 z8 z9 z12 z13 z14 z15 z16 z17 z18 z19 z20 z21 z22 z23 z24 z25 z26 z27 z28 z29 z30 z31 z32 z33 z34 z35 z36 z37 z38 z39 z40 z41 z42 z43 z44 z45 z46 z47 z48 z49 z50 z51 z52 z53 z54 z55 z56 z57 z58 z59 z60 z61 z62 z63 z64 z65 z66 z67 z68 z69 z70 z71 z72 z73 z74 z75 z76 z77 z78 z79 z80 z81 z82 z83 z84 z85 z86 z87 z88 z89 z90 z91 z92 z93 z94 z95 z96 z97 z98 z99 z100 z101 z102 z103 z104 z105 z106 z107 z108 z109 z110 z111 z112 z113 z114 z115 z116 z117 z118 z119 z120 z121 z122 z123 z124 z125 z126 z127 z128 z129 z130 z131 z132 z133 z134 z135 z136 z137 z138 z139 z140 z141 z142 z143 z144 z145 z146 z147 z148 z149 z150 z151 z152 z153 z154 z155 z156 z157 z158 z159 z160 z161 z162 z163 z164 z165 z166 z167 z168 z169 z170 z171 z172 z173 z174 z175 z176 z177 z178 z179 z180 z181 z182 z183 z184 z185 z186 z187 z188 z189 z190 z191 z192 z193 z194 z195 z196 z197 z198 z199 z200 z201 z202 z203 z204 z205 z206 z207 z208 z209 z210 z211 z212 z213 z214 z215 z216 z217 z218 z219 z220 z221 z222 z223 z224 z225 z226 z227 z228 z229 z230 z231 z232 z233 z234 z235 z236 z237 z238 z239 z240 z241 z242 z243 z244 z245 z246 z247 z248 z249 z250 z251 z252 z253 z254 z255 z256 z257 z258 z259 z260 z261 z262 z263 z264 z265 z266 z267 z268 z269 z270 z271 z272 z273 z274 z275 z276 z277 z278 z279 z280 z281 z282 z283 z284 z285 z286 z287 z288 z289 z290 z291 z292 z293 z294 z295 z296 z297 z298 z299 z300 z301 z302 z303 z304 z305 z306 z307 z308 z309 z310 z311 z312 z313 z314 z315 z316 z317 z318 z319 z320 z321 z322 z323 z324 z325 z326 z327 z328 z329 z330 z331 z332 z333 z334 z335 z336 z337 z338 z339 z340 z341 z342 z343 z344 z345 z346 z347 z348 z349 z350 z351 z352 z353 z354 z355 z356 z357 z358 z359 z360 z361 z362 z363 z364 z365 z366 z367 z368 z369 z370 z371 z372 z373 z374 z375 z376 z377 z378 z379 z380 z381 z382 z383 z384 z385 z386 z387 z388 z389 z390 z391 z392 z393 z394 z395 z396 z397 z398 z399 z400 z401 z402 z403 z404 z405 z406 z407 z408 z409 z410 z411 z412 z413 z414 z415 z416 z417 : Value) (a0 a1 a2 a3 : Option Addr) (c0 c1 c2 c3 : Nat) (xss yss zss : List (List Nat)) (cs : List Nat) (w : World)
    (hr : Rows0 w (.slice a0 xss.length c0) (.slice a1 yss.length c1) (.slice a2 zss.length c2) xss yss zss) (hf : FSrc w.heap.size w (.slice a3 cs.length c3) cs)
    (tot : (xss.map List.length).sum ≤ 4096) (hcl : cs.length ≤ 4096) :
    Code.wp Try.prog (dropSeq 5 (Try.f5.body.getD .skip)) (bodyPost Try.prog Try.f5 (Post w)) ⟨#[.slice a0 xss.length c0, .slice a1 yss.length c1, .slice a2 zss.length c2, .slice a3 cs.length c3, z4, z5, z6, z7, z8, z9, .int .i64 0, .int .i64 0, z12, z13, z14, z15, z16, z17, z18, z19, z20, z21, z22, z23, z24, z25, z26, z27, z28, z29, z30, z31, z32, z33, z34, z35, z36, z37, z38, z39, z40, z41, z42, z43, z44, z45, z46, z47, z48, z49, z50, z51, z52, z53, z54, z55, z56, z57, z58, z59, z60, z61, z62, z63, z64, z65, z66, z67, z68, z69, z70, z71, z72, z73, z74, z75, z76, z77, z78, z79, z80, z81, z82, z83, z84, z85, z86, z87, z88, z89, z90, z91, z92, z93, z94, z95, z96, z97, z98, z99, z100, z101, z102, z103, z104, z105, z106, z107, z108, z109, z110, z111, z112, z113, z114, z115, z116, z117, z118, z119, z120, z121, z122, z123, z124, z125, z126, z127, z128, z129, z130, z131, z132, z133, z134, z135, z136, z137, z138, z139, z140, z141, z142, z143, z144, z145, z146, z147, z148, z149, z150, z151, z152, z153, z154, z155, z156, z157, z158, z159, z160, z161, z162, z163, z164, z165, z166, z167, z168, z169, z170, z171, z172, z173, z174, z175, z176, z177, z178, z179, z180, z181, z182, z183, z184, z185, z186, z187, z188, z189, z190, z191, z192, z193, z194, z195, z196, z197, z198, z199, z200, z201, z202, z203, z204, z205, z206, z207, z208, z209, z210, z211, z212, z213, z214, z215, z216, z217, z218, z219, z220, z221, z222, z223, z224, z225, z226, z227, z228, z229, z230, z231, z232, z233, z234, z235, z236, z237, z238, z239, z240, z241, z242, z243, z244, z245, z246, z247, z248, z249, z250, z251, z252, z253, z254, z255, z256, z257, z258, z259, z260, z261, z262, z263, z264, z265, z266, z267, z268, z269, z270, z271, z272, z273, z274, z275, z276, z277, z278, z279, z280, z281, z282, z283, z284, z285, z286, z287, z288, z289, z290, z291, z292, z293, z294, z295, z296, z297, z298, z299, z300, z301, z302, z303, z304, z305, z306, z307, z308, z309, z310, z311, z312, z313, z314, z315, z316, z317, z318, z319, z320, z321, z322, z323, z324, z325, z326, z327, z328, z329, z330, z331, z332, z333, z334, z335, z336, z337, z338, z339, z340, z341, z342, z343, z344, z345, z346, z347, z348, z349, z350, z351, z352, z353, z354, z355, z356, z357, z358, z359, z360, z361, z362, z363, z364, z365, z366, z367, z368, z369, z370, z371, z372, z373, z374, z375, z376, z377, z378, z379, z380, z381, z382, z383, z384, z385, z386, z387, z388, z389, z390, z391, z392, z393, z394, z395, z396, z397, z398, z399, z400, z401, z402, z403, z404, z405, z406, z407, z408, z409, z410, z411, z412, z413, z414, z415, z416, z417], []⟩ w := by
  have HR := Lib.hid hr
  have HF := Lib.hid hf
  have HTT := Lib.hid tot
  have hln := hr.l1
  clear hr hf tot
  conv => arg 2; whnf
  go_upto_block 2 with fail
  go_cut [10] (fun _ W => W = w)
  case rest =>
    rename_i hK
    have hW := hcut
    replace hW := hW.symm
    subst hW
    apply hK
    exact law_b3 _ _ _ _ _ _ _ _ _ _ _ _ _ _ _ _ _ _ _ _ _ _ _ _ _ _ _ _ _ _ _ _ _ _ _ _ _ _ _ _ _ _ _ _ _ _ _ _ _ _ _ _ _ _ _ _ _ _ _ _ _ _ _ _ _ _ _ _ _ _ _ _ _ _ _ _ _ _ _ _ _ _ _ _ _ _ _ _ _ _ _ _ _ _ _ _ _ _ _ _ _ _ _ _ _ _ _ _ _ _ _ _ _ _ _ _ _ _ _ _ _ _ _ _ _ _ _ _ _ _ _ _ _ _ _ _ _ _ _ _ _ _ _ _ _ _ _ _ _ _ _ _ _ _ _ _ _ _ _ _ _ _ _ _ _ _ _ _ _ _ _ _ _ _ _ _ _ _ _ _ _ _ _ _ _ _ _ _ _ _ _ _ _ _ _ _ _ _ _ _ _ _ _ _ _ _ _ _ _ _ _ _ _ _ _ _ _ _ _ _ _ _ _ _ _ _ _ _ _ _ _ _ _ _ _ _ _ _ _ _ _ _ _ _ _ _ _ _ _ _ _ _ _ _ _ _ _ _ _ _ _ _ _ _ _ _ _ _ _ _ _ _ _ _ _ _ _ _ _ _ _ _ _ _ _ _ _ _ _ _ _ _ _ _ _ _ _ _ _ _ _ _ _ _ _ _ _ _ _ _ _ _ _ _ _ _ _ _ _ _ _ _ _ _ _ _ _ _ _ _ _ _ _ _ _ _ _ _ _ _ _ _ _ _ _ _ _ _ _ _ _ _ _ _ _ _ _ _ _ _ _ _ _ _ _ _ _ _ _ _ _ _ _ _ _ _ _ _ _ _ _ _ _ _ _ _ _ _ _ _ _ _ _ _ _ _ _ _ _ _ _ _ _ _ _ _ _ _ _ _ _ _ _ a0 a1 a2 a3 c0 c1 c2 c3 xss yss zss cs w HR.out HF.out HTT.out hcl
  case first =>
    go_wp2_with fail
    go_loopw [10, 13] (fun s g W => ∃ m k : Nat, s = .int .i64 m ∧ g = .int .i64 k ∧ m ≤ 4096 ∧ k ≤ yss.length ∧ W = w) (fun _ g _ => yss.length - (intOf g).toNat)
    case atStart => exact ⟨0, 0, rfl, rfl, by omega, by omega, rfl⟩
    case round =>
      obtain ⟨m, k, rfl, rfl, hm, hk, hW⟩ := hrel
      replace hW := hW.symm
      subst hW
      by_cases hlt : k < yss.length
      · obtain ⟨b, o, a, c, eb, _, hc, r0⟩ := HR.out.h1.at (Below.refl _ _) hlt
        cases eb
        have hq2 := HR.out.m1 _ (List.getElem_mem hlt)
        obtain ⟨q, hq⟩ : ∃ l, l = (yss[k]).length := ⟨_, rfl⟩
        rw [← hq] at hc hq2 
        clear hq r0 
        by_cases k1 : q ≤ 4096
        · by_cases k2 : m + q ≤ 4096
          · go_wp2
            go_roundw
            case rel => exact ⟨m + q, k + 1, by go_num, by go_num, by omega, by omega, by trivial⟩
            case measure => simp [intOf]; omega
          · go_wp2
            go_ret
            exact ⟨rfl, Below.refl _ _⟩
        · go_wp2
          go_ret
          exact ⟨rfl, Below.refl _ _⟩
      · skip
        go_wp2_with fail
        go_meet
        exact rfl

set_option maxRecDepth 1000000 in
set_option maxHeartbeats 16000000 in
theorem law_b1 (z4 z5 z6 z7 z8 z12 z13 z14 z15 z16 z17 z18 z19 z20 z21 z22 z23 z24 z25 z26 z27 z28 z29 z30 z31 z32 z33 z34 z35 z36 z37 z38 z39 z40 z41 z42 z43 z44 z45 z46 z47 z48 z49 z50 z51 z52 z53 z54 z55 z56 z57 z58 z59 z60 z61 z62 z63 z64 z65 z66 z67 z68 z69 z70 z71 z72 z73 z74 z75 z76 z77 z78 z79 z80 z81 z82 z83 z84 z85 z86 z87 z88 z89 z90 z91 z92 z93 z94 z95 z96 z97 z98 z99 z100 z101 z102 z103 z104 z105 z106 z107 z108 z109 z110 z111 z112 z113 z114 z115 z116 z117 z118 z119 z120 z121 z122 z123 z124 z125 z126 z127 z128 z129 z130 z131 z132 z133 z134 z135 z136 z137 z138 z139 z140 z141 z142 z143 z144 z145 z146 z147 z148 z149 z150 z151 z152 z153 z154 z155 z156 z157 z158 z159 z160 z161 z162 z163 z164 z165 z166 z167 z168 z169 z170 z171 z172 z173 z174 z175 z176 z177 z178 z179 z180 z181 z182 z183 z184 z185 z186 z187 z188 z189 z190 z191 z192 z193 z194 z195 z196 z197 z198 z199 z200 z201 z202 z203 z204 z205 z206 z207 z208 z209 z210 z211 z212 z213 z214 z215 z216 z217 z218 z219 z220 z221 z222 z223 z224 z225 z226 z227 z228 z229 z230 z231 z232 z233 z234 z235 z236 z237 z238 z239 z240 z241 z242 z243 z244 z245 z246 z247 z248 z249 z250 z251 z252 z253 z254 z255 z256 z257 z258 z259 z260 z261 z262 z263 z264 z265 z266 z267 z268 z269 z270 z271 z272 z273 z274 z275 z276 z277 z278 z279 z280 z281 z282 z283 z284 z285 z286 z287 z288 z289 z290 z291 z292 z293 z294 z295 z296 z297 z298 z299 z300 z301 z302 z303 z304 z305 z306 z307 z308 z309 z310 z311 z312 z313 z314 z315 z316 z317 z318 z319 z320 z321 z322 z323 z324 z325 z326 z327 z328 z329 z330 z331 z332 z333 z334 z335 z336 z337 z338 z339 z340 z341 z342 z343 z344 z345 z346 z347 z348 z349 z350 z351 z352 z353 z354 z355 z356 z357 z358 z359 z360 z361 z362 z363 z364 z365 z366 z367 z368 z369 z370 z371 z372 z373 z374 z375 z376 z377 z378 z379 z380 z381 z382 z383 z384 z385 z386 z387 z388 z389 z390 z391 z392 z393 z394 z395 z396 z397 z398 z399 z400 z401 z402 z403 z404 z405 z406 z407 z408 z409 z410 z411 z412 z413 z414 z415 z416 z417 : Value) (a0 a1 a2 a3 : Option Addr) (c0 c1 c2 c3 : Nat) (xss yss zss : List (List Nat)) (cs : List Nat) (w : World)
    (hr : Rows0 w (.slice a0 xss.length c0) (.slice a1 yss.length c1) (.slice a2 zss.length c2) xss yss zss) (hf : FSrc w.heap.size w (.slice a3 cs.length c3) cs) (hcl : cs.length ≤ 4096) :
    Code.wp Try.prog (dropSeq 4 (Try.f5.body.getD .skip)) (bodyPost Try.prog Try.f5 (Post w)) ⟨#[.slice a0 xss.length c0, .slice a1 yss.length c1, .slice a2 zss.length c2, .slice a3 cs.length c3, z4, z5, z6, z7, z8, .int .i64 0, .int .i64 0, .int .i64 0, z12, z13, z14, z15, z16, z17, z18, z19, z20, z21, z22, z23, z24, z25, z26, z27, z28, z29, z30, z31, z32, z33, z34, z35, z36, z37, z38, z39, z40, z41, z42, z43, z44, z45, z46, z47, z48, z49, z50, z51, z52, z53, z54, z55, z56, z57, z58, z59, z60, z61, z62, z63, z64, z65, z66, z67, z68, z69, z70, z71, z72, z73, z74, z75, z76, z77, z78, z79, z80, z81, z82, z83, z84, z85, z86, z87, z88, z89, z90, z91, z92, z93, z94, z95, z96, z97, z98, z99, z100, z101, z102, z103, z104, z105, z106, z107, z108, z109, z110, z111, z112, z113, z114, z115, z116, z117, z118, z119, z120, z121, z122, z123, z124, z125, z126, z127, z128, z129, z130, z131, z132, z133, z134, z135, z136, z137, z138, z139, z140, z141, z142, z143, z144, z145, z146, z147, z148, z149, z150, z151, z152, z153, z154, z155, z156, z157, z158, z159, z160, z161, z162, z163, z164, z165, z166, z167, z168, z169, z170, z171, z172, z173, z174, z175, z176, z177, z178, z179, z180, z181, z182, z183, z184, z185, z186, z187, z188, z189, z190, z191, z192, z193, z194, z195, z196, z197, z198, z199, z200, z201, z202, z203, z204, z205, z206, z207, z208, z209, z210, z211, z212, z213, z214, z215, z216, z217, z218, z219, z220, z221, z222, z223, z224, z225, z226, z227, z228, z229, z230, z231, z232, z233, z234, z235, z236, z237, z238, z239, z240, z241, z242, z243, z244, z245, z246, z247, z248, z249, z250, z251, z252, z253, z254, z255, z256, z257, z258, z259, z260, z261, z262, z263, z264, z265, z266, z267, z268, z269, z270, z271, z272, z273, z274, z275, z276, z277, z278, z279, z280, z281, z282, z283, z284, z285, z286, z287, z288, z289, z290, z291, z292, z293, z294, z295, z296, z297, z298, z299, z300, z301, z302, z303, z304, z305, z306, z307, z308, z309, z310, z311, z312, z313, z314, z315, z316, z317, z318, z319, z320, z321, z322, z323, z324, z325, z326, z327, z328, z329, z330, z331, z332, z333, z334, z335, z336, z337, z338, z339, z340, z341, z342, z343, z344, z345, z346, z347, z348, z349, z350, z351, z352, z353, z354, z355, z356, z357, z358, z359, z360, z361, z362, z363, z364, z365, z366, z367, z368, z369, z370, z371, z372, z373, z374, z375, z376, z377, z378, z379, z380, z381, z382, z383, z384, z385, z386, z387, z388, z389, z390, z391, z392, z393, z394, z395, z396, z397, z398, z399, z400, z401, z402, z403, z404, z405, z406, z407, z408, z409, z410, z411, z412, z413, z414, z415, z416, z417], []⟩ w := by
  have HR := Lib.hid hr
  have HF := Lib.hid hf
  have hln := hr.l0
  clear hr hf 
  conv => arg 2; whnf
  go_upto_block 0 with fail
  go_cut [9] (fun _ W => Hid ((xss.map List.length).sum ≤ 4096) ∧ W = w)
  case rest =>
    rename_i hK
    obtain ⟨HTT, hW⟩ := hcut
    replace hW := hW.symm
    subst hW
    apply hK
    exact law_b2 _ _ _ _ _ _ _ _ _ _ _ _ _ _ _ _ _ _ _ _ _ _ _ _ _ _ _ _ _ _ _ _ _ _ _ _ _ _ _ _ _ _ _ _ _ _ _ _ _ _ _ _ _ _ _ _ _ _ _ _ _ _ _ _ _ _ _ _ _ _ _ _ _ _ _ _ _ _ _ _ _ _ _ _ _ _ _ _ _ _ _ _ _ _ _ _ _ _ _ _ _ _ _ _ _ _ _ _ _ _ _ _ _ _ _ _ _ _ _ _ _ _ _ _ _ _ _ _ _ _ _ _ _ _ _ _ _ _ _ _ _ _ _ _ _ _ _ _ _ _ _ _ _ _ _ _ _ _ _ _ _ _ _ _ _ _ _ _ _ _ _ _ _ _ _ _ _ _ _ _ _ _ _ _ _ _ _ _ _ _ _ _ _ _ _ _ _ _ _ _ _ _ _ _ _ _ _ _ _ _ _ _ _ _ _ _ _ _ _ _ _ _ _ _ _ _ _ _ _ _ _ _ _ _ _ _ _ _ _ _ _ _ _ _ _ _ _ _ _ _ _ _ _ _ _ _ _ _ _ _ _ _ _ _ _ _ _ _ _ _ _ _ _ _ _ _ _ _ _ _ _ _ _ _ _ _ _ _ _ _ _ _ _ _ _ _ _ _ _ _ _ _ _ _ _ _ _ _ _ _ _ _ _ _ _ _ _ _ _ _ _ _ _ _ _ _ _ _ _ _ _ _ _ _ _ _ _ _ _ _ _ _ _ _ _ _ _ _ _ _ _ _ _ _ _ _ _ _ _ _ _ _ _ _ _ _ _ _ _ _ _ _ _ _ _ _ _ _ _ _ _ _ _ _ _ _ _ _ _ _ _ _ _ _ _ _ _ _ _ _ _ _ _ _ _ _ _ _ _ _ _ _ a0 a1 a2 a3 c0 c1 c2 c3 xss yss zss cs w HR.out HF.out HTT.out hcl
  case first =>
    go_wp2_with fail
    go_loopw [9, 12] (fun s g W => ∃ m k : Nat, s = .int .i64 m ∧ g = .int .i64 k ∧ m ≤ 4096 ∧ k ≤ xss.length ∧ Hid (m = Ln xss k) ∧ W = w) (fun _ g _ => xss.length - (intOf g).toNat)
    case atStart => exact ⟨0, 0, rfl, rfl, by omega, by omega, Lib.hid rfl, rfl⟩
    case round =>
      obtain ⟨m, k, rfl, rfl, hm, hk, HM, hW⟩ := hrel
      replace hW := hW.symm
      subst hW
      by_cases hlt : k < xss.length
      · obtain ⟨b, o, a, c, eb, _, hc, r0⟩ := HR.out.h0.at (Below.refl _ _) hlt
        cases eb
        have hq2 := HR.out.m0 _ (List.getElem_mem hlt)
        have hst := Ln_step hlt
        obtain ⟨q, hq⟩ : ∃ l, l = (xss[k]).length := ⟨_, rfl⟩
        rw [← hq] at hc hq2 hst
        rw [← HM.out] at hst
        have HST := Lib.hid hst
        clear hq r0 hst HM
        by_cases k1 : q ≤ 4096
        · by_cases k2 : m + q ≤ 4096
          · go_wp2
            go_roundw
            case rel => exact ⟨m + q, k + 1, by go_num, by go_num, by omega, by omega, Lib.hid HST.out.symm, by trivial⟩
            case measure => simp [intOf]; omega
          · go_wp2
            go_ret
            exact ⟨rfl, Below.refl _ _⟩
        · go_wp2
          go_ret
          exact ⟨rfl, Below.refl _ _⟩
      · have HTT : Hid ((xss.map List.length).sum ≤ 4096) := Lib.hid (by have e := HM.out; rw [Ln_full (by omega)] at e; omega)
        clear HM
        go_wp2_with fail
        go_meet
        exact ⟨HTT, rfl⟩
end Go.Proofs.Qxb6605538a.fl

