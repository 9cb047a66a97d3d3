/-
  'FnParallelSlopeModel': the law's look at the lengths.
-/
import Derived.Test.Qxb6605538aWp
namespace Go.Proofs.Qxb6605538a.fl
open Go.ChangeShapes Go.WideShapes Go.RowKit

set_option maxRecDepth 1000000 in
set_option maxHeartbeats 16000000 in
theorem law_c2 (z4 z5 z6 z7 z8 z9 z10 z11 z12 z13 z14 z15 z16 z17 z18 z19 z20 z21 z22 z23 z24 z25 z26 z27 z28 z29 z30 z31 z32 z33 z34 z35 z36 z37 z38 z39 z40 z41 z42 z43 z44 z45 z46 z47 z48 z49 z50 z51 z52 z53 z54 z55 z56 z57 z58 z59 z60 z61 z62 z63 z64 z65 z66 z67 z68 z69 z70 z71 z72 z73 z74 z75 z76 z77 z78 z79 z80 z81 z82 z83 z84 z85 z86 z87 z88 z89 z90 z91 z92 z93 z94 z95 z96 z97 z98 z99 z100 z101 z102 z103 z104 z105 z106 z107 z108 z109 z110 z111 z112 z113 z114 z115 z116 z117 z118 z119 z120 z121 z122 z123 z124 z125 z126 z127 z128 z129 z130 z131 z132 z133 z134 z135 z136 z137 z138 z139 z140 z141 z142 z143 z144 z145 z146 z147 z148 z149 z150 z151 z152 z153 z154 z155 z156 z157 z158 z159 z160 z161 z162 z163 z164 z165 z166 z167 z168 z169 z170 z171 z172 z173 z174 z175 z176 z177 z178 z179 z180 z181 z182 z183 z184 z185 z186 z187 z188 z189 z190 z191 z192 z193 z194 z195 z196 z197 z198 z199 z200 z201 z202 z203 z204 z205 z206 z207 z208 z209 z210 z211 z212 z213 z214 z215 z216 z217 z218 z219 z220 z221 z222 z223 z224 z225 z226 z227 z228 z229 z230 z231 z232 z233 z234 z235 z236 z237 z238 z239 z240 z241 z242 z243 z244 z245 z246 z247 z248 z249 z250 z251 z252 z253 z254 z255 z256 z257 z258 z259 z260 z261 z262 z263 z264 z265 z266 z267 z268 z269 z270 z271 z272 z273 z274 z275 z276 z277 z278 z279 z280 z281 z282 z283 z284 z285 z286 z287 z288 z289 z290 z291 z292 z293 z294 z295 z296 z297 z298 z299 z300 z301 z302 z303 z304 z305 z306 z307 z308 z309 z310 z311 z312 z313 z314 z315 z316 z317 z318 z319 z320 z321 z322 z323 z324 z325 z326 z327 z328 z329 z330 z331 z332 z333 z334 z335 z336 z337 z338 z339 z340 z341 z342 z343 z344 z345 z346 z347 z348 z349 z350 z351 z352 z353 z354 z355 z356 z357 z358 z359 z360 z361 z362 z363 z364 z365 z366 z367 z368 z369 z370 z371 z372 z373 z374 z375 z376 z377 z378 z379 z380 z381 z382 z383 z384 z385 z386 z387 z388 z389 z390 z391 z392 z393 z394 z395 z396 z397 z398 z399 z400 z401 z402 z403 z404 z405 z406 z407 z408 z409 z410 z411 z412 z413 z414 z415 z416 z417 : Value) (a0 a1 a2 a3 : Option Addr) (c0 c1 c2 c3 : Nat) (xss yss zss : List (List Nat)) (cs : List Nat) (w0 w : World)
    (hr : Rows3 w.heap.size w (.slice a0 xss.length c0) (.slice a1 xss.length c1) (.slice a2 xss.length c2) xss yss zss) (hf : FSrc w.heap.size w (.slice a3 cs.length c3) cs)
    (tot : (xss.map List.length).sum ≤ 4096) (hcl : cs.length ≤ 4096) (hbw : Below w0.heap.size w0 w) :
    Code.wp Try.prog (dropSeq 9 (Try.f5.body.getD .skip)) (bodyPost Try.prog Try.f5 (Post w0)) ⟨#[.slice a0 xss.length c0, .slice a1 xss.length c1, .slice a2 xss.length c2, .slice a3 cs.length c3, z4, z5, z6, z7, z8, z9, z10, z11, z12, z13, z14, z15, z16, z17, z18, z19, z20, z21, z22, z23, z24, z25, z26, z27, z28, z29, z30, z31, z32, z33, z34, z35, z36, z37, z38, z39, z40, z41, z42, z43, z44, z45, z46, z47, z48, z49, z50, z51, z52, z53, z54, z55, z56, z57, z58, z59, z60, z61, z62, z63, z64, z65, z66, z67, z68, z69, z70, z71, z72, z73, z74, z75, z76, z77, z78, z79, z80, z81, z82, z83, z84, z85, z86, z87, z88, z89, z90, z91, z92, z93, z94, z95, z96, z97, z98, z99, z100, z101, z102, z103, z104, z105, z106, z107, z108, z109, z110, z111, z112, z113, z114, z115, z116, z117, z118, z119, z120, z121, z122, z123, z124, z125, z126, z127, z128, z129, z130, z131, z132, z133, z134, z135, z136, z137, z138, z139, z140, z141, z142, z143, z144, z145, z146, z147, z148, z149, z150, z151, z152, z153, z154, z155, z156, z157, z158, z159, z160, z161, z162, z163, z164, z165, z166, z167, z168, z169, z170, z171, z172, z173, z174, z175, z176, z177, z178, z179, z180, z181, z182, z183, z184, z185, z186, z187, z188, z189, z190, z191, z192, z193, z194, z195, z196, z197, z198, z199, z200, z201, z202, z203, z204, z205, z206, z207, z208, z209, z210, z211, z212, z213, z214, z215, z216, z217, z218, z219, z220, z221, z222, z223, z224, z225, z226, z227, z228, z229, z230, z231, z232, z233, z234, z235, z236, z237, z238, z239, z240, z241, z242, z243, z244, z245, z246, z247, z248, z249, z250, z251, z252, z253, z254, z255, z256, z257, z258, z259, z260, z261, z262, z263, z264, z265, z266, z267, z268, z269, z270, z271, z272, z273, z274, z275, z276, z277, z278, z279, z280, z281, z282, z283, z284, z285, z286, z287, z288, z289, z290, z291, z292, z293, z294, z295, z296, z297, z298, z299, z300, z301, z302, z303, z304, z305, z306, z307, z308, z309, z310, z311, z312, z313, z314, z315, z316, z317, z318, z319, z320, z321, z322, z323, z324, z325, z326, z327, z328, z329, z330, z331, z332, z333, z334, z335, z336, z337, z338, z339, z340, z341, z342, z343, z344, z345, z346, z347, z348, z349, z350, z351, z352, z353, z354, z355, z356, z357, z358, z359, z360, z361, z362, z363, z364, z365, z366, z367, z368, z369, z370, z371, z372, z373, z374, z375, z376, z377, z378, z379, z380, z381, z382, z383, z384, z385, z386, z387, z388, z389, z390, z391, z392, z393, z394, z395, z396, z397, z398, z399, z400, z401, z402, z403, z404, z405, z406, z407, z408, z409, z410, z411, z412, z413, z414, z415, z416, z417], []⟩ w := by
  have HR := Lib.hid hr
  have HF := Lib.hid hf
  have HTT := Lib.hid tot
  have hl0 := hr.l0
  have HBW := Lib.hid hbw
  clear hr hf tot hbw
  conv => arg 2; whnf
  cases a3 with
  | none =>
    go_upto_if 184 with fail
    go_cut [] (fun W => W = w)
    case rest =>
      rename_i hK
      replace hcut := hcut.symm
      subst hcut
      apply hK
      exact law_d _ _ _ _ _ _ _ _ _ _ _ _ _ _ _ _ _ _ _ _ _ _ _ _ _ _ _ _ _ _ _ _ _ _ _ _ _ _ _ _ _ _ _ _ _ _ _ _ _ _ _ _ _ _ _ _ _ _ _ _ _ _ _ _ _ _ _ _ _ _ _ _ _ _ _ _ _ _ _ _ _ _ _ _ _ _ _ _ _ _ _ _ _ _ _ _ _ _ _ _ _ _ _ _ _ _ _ _ _ _ _ _ _ _ _ _ _ _ _ _ _ _ _ _ _ _ _ _ _ _ _ _ _ _ _ _ _ _ _ _ _ _ _ _ _ _ _ _ _ _ _ _ _ _ _ _ _ _ _ _ _ _ _ _ _ _ _ _ _ _ _ _ _ _ _ _ _ _ _ _ _ _ _ _ _ _ _ _ _ _ _ _ _ _ _ _ _ _ _ _ _ _ _ _ _ _ _ _ _ _ _ _ _ _ _ _ _ _ _ _ _ _ _ _ _ _ _ _ _ _ _ _ _ _ _ _ _ _ _ _ _ _ _ _ _ _ _ _ _ _ _ _ _ _ _ _ _ _ _ _ _ _ _ _ _ _ _ _ _ _ _ _ _ _ _ _ _ _ _ _ _ _ _ _ _ _ _ _ _ _ _ _ _ _ _ _ _ _ _ _ _ _ _ _ _ _ _ _ _ _ _ _ _ _ _ _ _ _ _ _ _ _ _ _ _ _ _ _ _ _ _ _ _ _ _ _ _ _ _ _ _ _ _ _ _ _ _ _ _ _ _ _ _ _ _ _ _ _ _ _ _ _ _ _ _ _ _ _ _ _ _ _ _ _ _ _ _ _ _ _ _ _ _ _ _ _ _ _ _ _ _ _ _ _ _ _ _ _ _ _ _ _ _ _ _ _ _ _ _ _ _ _ _ _ a0 a1 a2 none c0 c1 c2 c3 xss yss zss cs w0 w HR.out HF.out HTT.out hcl (fun h => absurd rfl h) HBW.out
    case first =>
      go_wp2_with fail
      go_meet
      rfl
  | some pa =>
    by_cases hle : cs.length < xss.length
    · go_wp2
      go_ret
      exact ⟨rfl, HBW.out⟩
    · go_upto_if 184 with fail
      go_cut [] (fun W => W = w)
      case rest =>
        rename_i hK
        replace hcut := hcut.symm
        subst hcut
        apply hK
        exact law_d _ _ _ _ _ _ _ _ _ _ _ _ _ _ _ _ _ _ _ _ _ _ _ _ _ _ _ _ _ _ _ _ _ _ _ _ _ _ _ _ _ _ _ _ _ _ _ _ _ _ _ _ _ _ _ _ _ _ _ _ _ _ _ _ _ _ _ _ _ _ _ _ _ _ _ _ _ _ _ _ _ _ _ _ _ _ _ _ _ _ _ _ _ _ _ _ _ _ _ _ _ _ _ _ _ _ _ _ _ _ _ _ _ _ _ _ _ _ _ _ _ _ _ _ _ _ _ _ _ _ _ _ _ _ _ _ _ _ _ _ _ _ _ _ _ _ _ _ _ _ _ _ _ _ _ _ _ _ _ _ _ _ _ _ _ _ _ _ _ _ _ _ _ _ _ _ _ _ _ _ _ _ _ _ _ _ _ _ _ _ _ _ _ _ _ _ _ _ _ _ _ _ _ _ _ _ _ _ _ _ _ _ _ _ _ _ _ _ _ _ _ _ _ _ _ _ _ _ _ _ _ _ _ _ _ _ _ _ _ _ _ _ _ _ _ _ _ _ _ _ _ _ _ _ _ _ _ _ _ _ _ _ _ _ _ _ _ _ _ _ _ _ _ _ _ _ _ _ _ _ _ _ _ _ _ _ _ _ _ _ _ _ _ _ _ _ _ _ _ _ _ _ _ _ _ _ _ _ _ _ _ _ _ _ _ _ _ _ _ _ _ _ _ _ _ _ _ _ _ _ _ _ _ _ _ _ _ _ _ _ _ _ _ _ _ _ _ _ _ _ _ _ _ _ _ _ _ _ _ _ _ _ _ _ _ _ _ _ _ _ _ _ _ _ _ _ _ _ _ _ _ _ _ _ _ _ _ _ _ _ _ _ _ _ _ _ _ _ _ _ _ _ _ _ _ _ _ _ _ _ _ _ _ _ a0 a1 a2 (some pa) c0 c1 c2 c3 xss yss zss cs w0 w HR.out HF.out HTT.out hcl (fun _ => by omega) HBW.out
      case first =>
        go_wp2_with fail
        go_meet
        rfl

/-- the first k groups have rows of one length -/
def Even (xss yss zss : List (List Nat)) (k : Nat) : Prop := ∀ j, j < k → (∀ (a : j < xss.length) (b : j < yss.length), (yss[j]).length = (xss[j]).length) ∧ (∀ (a : j < xss.length) (b : j < zss.length), (zss[j]).length = (xss[j]).length)
theorem Even.step {xss yss zss : List (List Nat)} {k : Nat} (h : Even xss yss zss k) (h1 : ∀ (a : k < xss.length) (b : k < yss.length), (yss[k]).length = (xss[k]).length) (h2 : ∀ (a : k < xss.length) (b : k < zss.length), (zss[k]).length = (xss[k]).length) : Even xss yss zss (k + 1) := by
  intro j hj
  by_cases e : j < k
  · exact h j e
  · have : j = k := by omega
    subst this
    exact ⟨h1, h2⟩
/-- three rows of rows -/
structure Rows0 (w : World) (v0 v1 v2 : Value) (xss yss zss : List (List Nat)) : Prop where
  h0 : NSrc w.heap.size w v0 xss
  h1 : NSrc w.heap.size w v1 yss
  h2 : NSrc w.heap.size w v2 zss
  l0 : xss.length ≤ 4096
  l1 : yss.length ≤ 4096
  l2 : zss.length ≤ 4096
  m0 : ∀ l, l ∈ xss → l.length ≤ 9223372036854775807
  m1 : ∀ l, l ∈ yss → l.length ≤ 9223372036854775807
  m2 : ∀ l, l ∈ zss → l.length ≤ 9223372036854775807
theorem len_le_tot {xss : List (List Nat)} {k : Nat} (h : k < xss.length) : (xss[k]).length ≤ (xss.map List.length).sum := by
  induction xss generalizing k with
  | nil => simp at h
  | cons x l ih =>
    rw [List.map_cons, List.sum_cons]
    cases k with
    | zero => simp
    | succ k =>
      have := ih (k := k) (by simpa using h)
      rw [List.getElem_cons_succ]
      omega

set_option maxRecDepth 1000000 in
set_option maxHeartbeats 16000000 in
theorem law_c (z4 z5 z6 z7 z8 z9 z10 z11 z12 z13 z14 z15 z16 z17 z18 z19 z20 z21 z22 z23 z24 z25 z26 z27 z28 z29 z30 z31 z32 z33 z34 z35 z36 z37 z38 z39 z40 z41 z42 z43 z44 z45 z46 z47 z48 z49 z50 z51 z52 z53 z54 z55 z56 z57 z58 z59 z60 z61 z62 z63 z64 z65 z66 z67 z68 z69 z70 z71 z72 z73 z74 z75 z76 z77 z78 z79 z80 z81 z82 z83 z84 z85 z86 z87 z88 z89 z90 z91 z92 z93 z94 z95 z96 z97 z98 z99 z100 z101 z102 z103 z104 z105 z106 z107 z108 z109 z110 z111 z112 z113 z114 z115 z116 z117 z118 z119 z120 z121 z122 z123 z124 z125 z126 z127 z128 z129 z130 z131 z132 z133 z134 z135 z136 z137 z138 z139 z140 z141 z142 z143 z144 z145 z146 z147 z148 z149 z150 z151 z152 z153 z154 z155 z156 z157 z158 z159 z160 z161 z162 z163 z164 z165 z166 z167 z168 z169 z170 z171 z172 z173 z174 z175 z176 z177 z178 z179 z180 z181 z182 z183 z184 z185 z186 z187 z188 z189 z190 z191 z192 z193 z194 z195 z196 z197 z198 z199 z200 z201 z202 z203 z204 z205 z206 z207 z208 z209 z210 z211 z212 z213 z214 z215 z216 z217 z218 z219 z220 z221 z222 z223 z224 z225 z226 z227 z228 z229 z230 z231 z232 z233 z234 z235 z236 z237 z238 z239 z240 z241 z242 z243 z244 z245 z246 z247 z248 z249 z250 z251 z252 z253 z254 z255 z256 z257 z258 z259 z260 z261 z262 z263 z264 z265 z266 z267 z268 z269 z270 z271 z272 z273 z274 z275 z276 z277 z278 z279 z280 z281 z282 z283 z284 z285 z286 z287 z288 z289 z290 z291 z292 z293 z294 z295 z296 z297 z298 z299 z300 z301 z302 z303 z304 z305 z306 z307 z308 z309 z310 z311 z312 z313 z314 z315 z316 z317 z318 z319 z320 z321 z322 z323 z324 z325 z326 z327 z328 z329 z330 z331 z332 z333 z334 z335 z336 z337 z338 z339 z340 z341 z342 z343 z344 z345 z346 z347 z348 z349 z350 z351 z352 z353 z354 z355 z356 z357 z358 z359 z360 z361 z362 z363 z364 z365 z366 z367 z368 z369 z370 z371 z372 z373 z374 z375 z376 z377 z378 z379 z380 z381 z382 z383 z384 z385 z386 z387 z388 z389 z390 z391 z392 z393 z394 z395 z396 z397 z398 z399 z400 z401 z402 z403 z404 z405 z406 z407 z408 z409 z410 z411 z412 z413 z414 z415 z416 z417 : Value) (a0 a1 a2 a3 : Option Addr) (c0 c1 c2 c3 : Nat) (xss yss zss : List (List Nat)) (cs : List Nat) (w : World)
    (hr : Rows0 w (.slice a0 xss.length c0) (.slice a1 yss.length c1) (.slice a2 zss.length c2) xss yss zss) (hf : FSrc w.heap.size w (.slice a3 cs.length c3) cs)
    (tot : (xss.map List.length).sum ≤ 4096) (hcl : cs.length ≤ 4096) :
    Code.wp Try.prog (dropSeq 7 (Try.f5.body.getD .skip)) (bodyPost Try.prog Try.f5 (Post w)) ⟨#[.slice a0 xss.length c0, .slice a1 yss.length c1, .slice a2 zss.length c2, .slice a3 cs.length c3, z4, z5, z6, z7, z8, z9, z10, z11, z12, z13, z14, z15, z16, z17, z18, z19, z20, z21, z22, z23, z24, z25, z26, z27, z28, z29, z30, z31, z32, z33, z34, z35, z36, z37, z38, z39, z40, z41, z42, z43, z44, z45, z46, z47, z48, z49, z50, z51, z52, z53, z54, z55, z56, z57, z58, z59, z60, z61, z62, z63, z64, z65, z66, z67, z68, z69, z70, z71, z72, z73, z74, z75, z76, z77, z78, z79, z80, z81, z82, z83, z84, z85, z86, z87, z88, z89, z90, z91, z92, z93, z94, z95, z96, z97, z98, z99, z100, z101, z102, z103, z104, z105, z106, z107, z108, z109, z110, z111, z112, z113, z114, z115, z116, z117, z118, z119, z120, z121, z122, z123, z124, z125, z126, z127, z128, z129, z130, z131, z132, z133, z134, z135, z136, z137, z138, z139, z140, z141, z142, z143, z144, z145, z146, z147, z148, z149, z150, z151, z152, z153, z154, z155, z156, z157, z158, z159, z160, z161, z162, z163, z164, z165, z166, z167, z168, z169, z170, z171, z172, z173, z174, z175, z176, z177, z178, z179, z180, z181, z182, z183, z184, z185, z186, z187, z188, z189, z190, z191, z192, z193, z194, z195, z196, z197, z198, z199, z200, z201, z202, z203, z204, z205, z206, z207, z208, z209, z210, z211, z212, z213, z214, z215, z216, z217, z218, z219, z220, z221, z222, z223, z224, z225, z226, z227, z228, z229, z230, z231, z232, z233, z234, z235, z236, z237, z238, z239, z240, z241, z242, z243, z244, z245, z246, z247, z248, z249, z250, z251, z252, z253, z254, z255, z256, z257, z258, z259, z260, z261, z262, z263, z264, z265, z266, z267, z268, z269, z270, z271, z272, z273, z274, z275, z276, z277, z278, z279, z280, z281, z282, z283, z284, z285, z286, z287, z288, z289, z290, z291, z292, z293, z294, z295, z296, z297, z298, z299, z300, z301, z302, z303, z304, z305, z306, z307, z308, z309, z310, z311, z312, z313, z314, z315, z316, z317, z318, z319, z320, z321, z322, z323, z324, z325, z326, z327, z328, z329, z330, z331, z332, z333, z334, z335, z336, z337, z338, z339, z340, z341, z342, z343, z344, z345, z346, z347, z348, z349, z350, z351, z352, z353, z354, z355, z356, z357, z358, z359, z360, z361, z362, z363, z364, z365, z366, z367, z368, z369, z370, z371, z372, z373, z374, z375, z376, z377, z378, z379, z380, z381, z382, z383, z384, z385, z386, z387, z388, z389, z390, z391, z392, z393, z394, z395, z396, z397, z398, z399, z400, z401, z402, z403, z404, z405, z406, z407, z408, z409, z410, z411, z412, z413, z414, z415, z416, z417], []⟩ w := by
  have HR := Lib.hid hr
  have HF := Lib.hid hf
  have HTT := Lib.hid tot
  have hl0 := hr.l0
  have hl1 := hr.l1
  have hl2 := hr.l2
  clear hr hf tot
  by_cases e1 : yss.length = xss.length
  case neg =>
    conv => arg 2; whnf
    go_wp2
    go_ret
    exact ⟨rfl, Below.refl _ _⟩
  by_cases e2 : zss.length = xss.length
  case neg =>
    rw [e1]
    conv => arg 2; whnf
    clear e1
    go_wp2
    go_ret
    exact ⟨rfl, Below.refl _ _⟩
  rw [e1, e2]
  have E1 := Lib.hid e1
  have E2 := Lib.hid e2
  clear e1 e2 hl1 hl2
  conv => arg 2; whnf
  go_upto_block 6 with fail
  go_cut [15] (fun _ W => Hid (Even xss yss zss xss.length) ∧ Hid (Below w.heap.size w W))
  case rest =>
    rename_i hK
    obtain ⟨HE, HW⟩ := hcut
    apply hK
    have hb := HW.out
    have hz := hb.size
    have h := HR.out
    have hE := HE.out
    have e1 := E1.out
    have e2 := E2.out
    refine law_c2 _ _ _ _ _ _ _ _ _ _ _ _ _ _ _ _ _ _ _ _ _ _ _ _ _ _ _ _ _ _ _ _ _ _ _ _ _ _ _ _ _ _ _ _ _ _ _ _ _ _ _ _ _ _ _ _ _ _ _ _ _ _ _ _ _ _ _ _ _ _ _ _ _ _ _ _ _ _ _ _ _ _ _ _ _ _ _ _ _ _ _ _ _ _ _ _ _ _ _ _ _ _ _ _ _ _ _ _ _ _ _ _ _ _ _ _ _ _ _ _ _ _ _ _ _ _ _ _ _ _ _ _ _ _ _ _ _ _ _ _ _ _ _ _ _ _ _ _ _ _ _ _ _ _ _ _ _ _ _ _ _ _ _ _ _ _ _ _ _ _ _ _ _ _ _ _ _ _ _ _ _ _ _ _ _ _ _ _ _ _ _ _ _ _ _ _ _ _ _ _ _ _ _ _ _ _ _ _ _ _ _ _ _ _ _ _ _ _ _ _ _ _ _ _ _ _ _ _ _ _ _ _ _ _ _ _ _ _ _ _ _ _ _ _ _ _ _ _ _ _ _ _ _ _ _ _ _ _ _ _ _ _ _ _ _ _ _ _ _ _ _ _ _ _ _ _ _ _ _ _ _ _ _ _ _ _ _ _ _ _ _ _ _ _ _ _ _ _ _ _ _ _ _ _ _ _ _ _ _ _ _ _ _ _ _ _ _ _ _ _ _ _ _ _ _ _ _ _ _ _ _ _ _ _ _ _ _ _ _ _ _ _ _ _ _ _ _ _ _ _ _ _ _ _ _ _ _ _ _ _ _ _ _ _ _ _ _ _ _ _ _ _ _ _ _ _ _ _ _ _ _ _ _ _ _ _ _ _ _ _ _ _ _ _ _ _ _ _ _ _ _ _ _ _ _ _ _ _ _ _ _ _ _ _ a0 a1 a2 a3 c0 c1 c2 c3 xss yss zss cs w wc ⟨h.h0.below hb hz, ?_, ?_, e1, e2, fun k a b => (hE k a).1 a b, fun k a b => (hE k a).2 a b, hl0, fun k a => Nat.le_trans (len_le_tot a) HTT.out⟩ (HF.out.below hb hz) HTT.out hcl hb
    · rw [← e1]; exact h.h1.below hb hz
    · rw [← e2]; exact h.h2.below hb hz
  case first =>
    go_wp2_with fail
    go_loopw [15] (fun g W => ∃ k : Nat, k ≤ xss.length ∧ g = .int .i64 k ∧ Hid (Even xss yss zss k) ∧ Hid (Below w.heap.size w W)) (fun g _ => xss.length - (intOf g).toNat)
    case atStart => exact ⟨0, by omega, rfl, Lib.hid (fun j hj => by omega), Lib.hid (Below.refl _ _)⟩
    case round =>
      obtain ⟨k, hk, rfl, HG, HW⟩ := hrel
      by_cases hlt : k < xss.length
      · have hr := HR.out
        have ky : k < yss.length := by rw [E1.out]; exact hlt
        have kz : k < zss.length := by rw [E2.out]; exact hlt
        obtain ⟨b0, o0, x0, y0, eb, _, hc0, r0⟩ := hr.h0.at HW.out hlt
        cases eb
        obtain ⟨b1, o1, x1, y1, eb, _, hc1, r1⟩ := hr.h1.at HW.out ky
        cases eb
        obtain ⟨b2, o2, x2, y2, eb, _, hc2, r2⟩ := hr.h2.at HW.out kz
        cases eb
        have p0 := hr.m0 _ (List.getElem_mem hlt)
        have p1 := hr.m1 _ (List.getElem_mem ky)
        have p2 := hr.m2 _ (List.getElem_mem kz)
        obtain ⟨X, hX⟩ : ∃ l, l = (xss[k]).length := ⟨_, rfl⟩
        obtain ⟨Y, hY⟩ : ∃ l, l = (yss[k]).length := ⟨_, rfl⟩
        obtain ⟨Z, hZ⟩ : ∃ l, l = (zss[k]).length := ⟨_, rfl⟩
        rw [← hX] at hc0 p0
        rw [← hY] at hc1 p1
        rw [← hZ] at hc2 p2
        have HX : Hid (∀ a : k < xss.length, X = (xss[k]).length) := Lib.hid (fun _ => hX)
        have HY : Hid (∀ a : k < yss.length, Y = (yss[k]).length) := Lib.hid (fun _ => hY)
        have HZ : Hid (∀ a : k < zss.length, Z = (zss[k]).length) := Lib.hid (fun _ => hZ)
        clear hr hX hY hZ r0 r1 r2 ky kz
        by_cases f1 : Y = X
        case neg =>
          have g1 : ((Y : Int) != (X : Int)) = true := by rw [bne_iff_ne]; omega
          go_upto_region 35 with fail
          go_quiet (fail)
          go_wp2
          go_ret
          exact ⟨rfl, below_drewN HW.out _⟩
        subst f1
        by_cases f2 : Z = Y
        case neg =>
          go_upto_region 35 with fail
          go_quiet (fail)
          go_wp2
          go_ret
          exact ⟨rfl, below_drewN HW.out _⟩
        subst f2
        have HG' := Lib.hid (HG.out.step (fun a b => by rw [← HX.out a, ← HY.out b]) (fun a b => by rw [← HX.out a, ← HZ.out b]))
        clear HG HX HY HZ
        go_upto_region 35 with fail
        go_quiet (fail)
        go_wp2
        go_roundw
        case rel => exact ⟨k + 1, by omega, by go_num, HG', Lib.hid (below_drewN HW.out _)⟩
        case measure => simp [intOf]; omega
      · have hkk : k = xss.length := by omega
        subst hkk
        go_wp2_with fail
        go_meet
        exact ⟨HG, HW⟩
end Go.Proofs.Qxb6605538a.fl

