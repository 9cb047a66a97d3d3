/-
  'FnParallelSlopeModel': the law's clones.
-/
import Derived.Test.Qxb6605538aGd
namespace Go.Proofs.Qxb6605538a.fl
open Go.ChangeShapes Go.WideShapes Go.RowKit

theorem nest_n {n : Nat} (ad : Option Addr) (c : Nat) (xss : List (List Nat)) (w : World) (hn : xss.length = n) (hlen : n ≤ 4096) (hin : ∀ l, l ∈ xss → l.length ≤ 4096) (hs : NSrc w.heap.size w (.slice ad n c) xss) :
    Calls Try.prog 15 #[.slice ad n c] w fun e w' => ∃ ad' c', e = .returned (.slice ad' n c') ∧ NSrc w'.heap.size w' (.slice ad' n c') xss ∧ Below w.heap.size w w' := by
  subst hn
  exact nest_ok ad c xss w hlen hin hs
theorem Rows3.in1 {B : Nat} {w : World} {v0 v1 v2 : Value} {xss yss zss : List (List Nat)} (h : Rows3 B w v0 v1 v2 xss yss zss) : (∀ l, l ∈ xss → l.length ≤ 4096) ∧ (∀ l, l ∈ yss → l.length ≤ 4096) ∧ (∀ l, l ∈ zss → l.length ≤ 4096) := by
  refine ⟨fun l hl => ?_, fun l hl => ?_, fun l hl => ?_⟩
  · obtain ⟨k, hk, rfl⟩ := List.mem_iff_getElem.1 hl
    exact h.l1 k hk
  · obtain ⟨k, hk, rfl⟩ := List.mem_iff_getElem.1 hl
    have hk' : k < xss.length := by rw [← h.e1]; exact hk
    rw [h.f1 k hk' hk]; exact h.l1 k hk'
  · obtain ⟨k, hk, rfl⟩ := List.mem_iff_getElem.1 hl
    have hk' : k < xss.length := by rw [← h.e2]; exact hk
    rw [h.f2 k hk' hk]; exact h.l1 k hk'

set_option maxRecDepth 1000000 in
set_option maxHeartbeats 16000000 in
theorem law_e (z4 z5 z6 z7 z8 z9 z10 z11 z12 z13 z14 z15 z16 z17 z18 z19 z20 z21 z22 z23 z24 z25 z26 z27 z28 z29 z30 z31 z32 z33 z34 z35 z36 z37 z38 z39 z40 z41 z42 z43 z44 z45 z46 z47 z48 z49 z50 z51 z52 z53 z54 z55 z56 z57 z58 z59 z60 z61 z62 z63 z64 z65 z66 z67 z68 z69 z70 z71 z72 z73 z74 z75 z76 z77 z78 z79 z80 z81 z82 z83 z84 z85 z86 z87 z88 z89 z90 z91 z92 z93 z94 z95 z96 z97 z98 z99 z100 z101 z102 z103 z104 z105 z106 z107 z108 z109 z110 z111 z112 z113 z114 z115 z116 z117 z118 z119 z120 z121 z122 z123 z124 z125 z126 z127 z128 z129 z130 z131 z132 z133 z134 z135 z136 z137 z138 z139 z140 z141 z142 z143 z144 z145 z146 z147 z148 z149 z150 z151 z152 z153 z154 z155 z156 z157 z158 z159 z160 z161 z162 z163 z164 z165 z166 z167 z168 z169 z170 z171 z172 z173 z174 z175 z176 z177 z178 z179 z180 z181 z182 z183 z184 z185 z186 z187 z188 z189 z190 z191 z192 z193 z194 z195 z196 z197 z198 z199 z200 z201 z202 z203 z204 z205 z206 z207 z208 z209 z210 z211 z212 z213 z214 z215 z216 z217 z218 z219 z220 z221 z222 z223 z224 z225 z226 z227 z228 z229 z230 z231 z232 z233 z234 z235 z236 z237 z238 z239 z240 z241 z242 z243 z244 z245 z246 z247 z248 z249 z250 z251 z252 z253 z254 z255 z256 z257 z258 z259 z260 z261 z262 z263 z264 z265 z266 z267 z268 z269 z270 z271 z272 z273 z274 z275 z276 z277 z278 z279 z280 z281 z282 z283 z284 z285 z286 z287 z288 z289 z290 z291 z292 z293 z294 z295 z296 z297 z298 z299 z300 z301 z302 z303 z304 z305 z306 z307 z308 z309 z310 z311 z312 z313 z314 z315 z316 z317 z318 z319 z320 z321 z322 z323 z324 z325 z326 z327 z328 z329 z330 z331 z332 z333 z334 z335 z336 z337 z338 z339 z340 z341 z342 z343 z344 z345 z346 z347 z348 z349 z350 z351 z352 z353 z354 z355 z356 z357 z358 z359 z360 z361 z362 z363 z364 z365 z366 z367 z368 z369 z370 z371 z372 z373 z374 z375 z376 z377 z378 z379 z380 z381 z382 z383 z384 z385 z386 z387 z388 z389 z390 z391 z392 z393 z394 z395 z396 z397 z398 z399 z400 z401 z402 z403 z404 z405 z406 z407 z408 z409 z410 z411 z412 z413 z414 z415 z416 z417 : Value) (a0 a1 a2 a3 : Option Addr) (c0 c1 c2 c3 : Nat) (xss yss zss : List (List Nat)) (cs : List Nat) (w0 w : World)
    (hr : Rows3 w.heap.size w (.slice a0 xss.length c0) (.slice a1 xss.length c1) (.slice a2 xss.length c2) xss yss zss) (hf : FSrc w.heap.size w (.slice a3 cs.length c3) cs)
    (hs : Seen xss yss zss cs (a3 = none)) (hbw : Below w0.heap.size w0 w) :
    Code.wp Try.prog (dropSeq 11 (Try.f5.body.getD .skip)) (bodyPost Try.prog Try.f5 (Post w0)) ⟨#[.slice a0 xss.length c0, .slice a1 xss.length c1, .slice a2 xss.length c2, .slice a3 cs.length c3, z4, z5, z6, z7, z8, z9, z10, z11, z12, z13, z14, z15, z16, z17, z18, z19, z20, z21, z22, z23, z24, z25, z26, z27, z28, z29, z30, z31, z32, z33, z34, z35, z36, z37, z38, z39, z40, z41, z42, z43, z44, z45, z46, z47, z48, z49, z50, z51, z52, z53, z54, z55, z56, z57, z58, z59, z60, z61, z62, z63, z64, z65, z66, z67, z68, z69, z70, z71, z72, z73, z74, z75, z76, z77, z78, z79, z80, z81, z82, z83, z84, z85, z86, z87, z88, z89, z90, z91, z92, z93, z94, z95, z96, z97, z98, z99, z100, z101, z102, z103, z104, z105, z106, z107, z108, z109, z110, z111, z112, z113, z114, z115, z116, z117, z118, z119, z120, z121, z122, z123, z124, z125, z126, z127, z128, z129, z130, z131, z132, z133, z134, z135, z136, z137, z138, z139, z140, z141, z142, z143, z144, z145, z146, z147, z148, z149, z150, z151, z152, z153, z154, z155, z156, z157, z158, z159, z160, z161, z162, z163, z164, z165, z166, z167, z168, z169, z170, z171, z172, z173, z174, z175, z176, z177, z178, z179, z180, z181, z182, z183, z184, z185, z186, z187, z188, z189, z190, z191, z192, z193, z194, z195, z196, z197, z198, z199, z200, z201, z202, z203, z204, z205, z206, z207, z208, z209, z210, z211, z212, z213, z214, z215, z216, z217, z218, z219, z220, z221, z222, z223, z224, z225, z226, z227, z228, z229, z230, z231, z232, z233, z234, z235, z236, z237, z238, z239, z240, z241, z242, z243, z244, z245, z246, z247, z248, z249, z250, z251, z252, z253, z254, z255, z256, z257, z258, z259, z260, z261, z262, z263, z264, z265, z266, z267, z268, z269, z270, z271, z272, z273, z274, z275, z276, z277, z278, z279, z280, z281, z282, z283, z284, z285, z286, z287, z288, z289, z290, z291, z292, z293, z294, z295, z296, z297, z298, z299, z300, z301, z302, z303, z304, z305, z306, z307, z308, z309, z310, z311, z312, z313, z314, z315, z316, z317, z318, z319, z320, z321, z322, z323, z324, z325, z326, z327, z328, z329, z330, z331, z332, z333, z334, z335, z336, z337, z338, z339, z340, z341, z342, z343, z344, z345, z346, z347, z348, z349, z350, z351, z352, z353, z354, z355, z356, z357, z358, z359, z360, z361, z362, z363, z364, z365, z366, z367, z368, z369, z370, z371, z372, z373, z374, z375, z376, z377, z378, z379, z380, z381, z382, z383, z384, z385, z386, z387, z388, z389, z390, z391, z392, z393, z394, z395, z396, z397, z398, z399, z400, z401, z402, z403, z404, z405, z406, z407, z408, z409, z410, z411, z412, z413, z414, z415, z416, z417], []⟩ w := by
  have HR := Lib.hid hr
  have HF := Lib.hid hf
  have HS := Lib.hid hs
  have HB := Lib.hid hbw
  clear hr hf hs hbw
  conv => arg 2; whnf
  go_wp2_with fail
  refine (nest_n a0 c0 xss w rfl HR.out.l0 HR.out.in1.1 HR.out.h0).mono ?_
  rintro e w1 ⟨d0, e0, rfl, n0, hb1⟩
  have N0 := Lib.hid n0
  have B1 := Lib.hid hb1
  clear n0 hb1
  go_wp2_with fail
  refine (nest_n a1 c1 yss w1 HR.out.e1 HR.out.l0 HR.out.in1.2.1 (HR.out.h1.below B1.out B1.out.size)).mono ?_
  rintro e w2 ⟨d1, e1, rfl, n1, hb2⟩
  have N1 := Lib.hid n1
  have B2 := Lib.hid (B1.out.trans (hb2.mono B1.out.size))
  have N0' := Lib.hid (N0.out.below hb2 hb2.size)
  clear n1 hb2 N0 B1
  go_wp2_with fail
  refine (nest_n a2 c2 zss w2 HR.out.e2 HR.out.l0 HR.out.in1.2.2 (HR.out.h2.below B2.out B2.out.size)).mono ?_
  rintro e w3 ⟨d2, e2, rfl, n2, hb3⟩
  have N2 := Lib.hid n2
  have B3 := Lib.hid (B2.out.trans (hb3.mono B2.out.size))
  have N0'' := Lib.hid (N0'.out.below hb3 hb3.size)
  have N1' := Lib.hid (N1.out.below hb3 hb3.size)
  clear n2 hb3 N0' N1 B2
  go_wp2_with fail
  refine (clone_ok a3 c3 cs w3 HS.out.cl (HF.out.below B3.out B3.out.size)).mono ?_
  rintro e w4 ⟨d3, e3, rfl, n3, hnn, hb4⟩
  have hB4 : Below w.heap.size w w4 := B3.out.trans (hb4.mono B3.out.size)
  have hR : Rows3 w4.heap.size w4 (.slice d0 xss.length e0) (.slice d1 xss.length e1) (.slice d2 xss.length e2) xss yss zss :=
    ⟨N0''.out.below hb4 hb4.size, N1'.out.below hb4 hb4.size, N2.out.below hb4 hb4.size, HR.out.e1, HR.out.e2, HR.out.f1, HR.out.f2, HR.out.l0, HR.out.l1⟩
  have hS : Seen xss yss zss cs (d3 = none) := ⟨HS.out.tot, HS.out.cl, fun h => HS.out.po fun h2 => h (hnn.2 h2), HS.out.gp⟩
  obtain ⟨gs, q1, q2, q3, q4, q5, q6, q7⟩ := behind_clones hR n3 hS
  have Q := Lib.hid (And.intro hR (And.intro q1 (And.intro q2 (And.intro q3 (And.intro q4 (And.intro q5 (And.intro q6 q7)))))))
  have HB4 := Lib.hid (HB.out.trans (hB4.mono HB.out.size))
  have hcl := HS.out.cl
  have HL := Lib.hid HR.out.l0
  clear n3 hnn hb4 hB4 hR hS q1 q2 q3 q4 q5 q6 q7 N0'' N1' N2 HR HF HS HB B3
  go_upto_region 55 with fail
  go_cut [21, 22, 23, 24, 25] (fun m0 m1 m2 m3 m4 W => m0 = .int .i64 0 ∧ m1 = .int .i64 0 ∧ m2 = .int .i64 0 ∧ m3 = .int .i64 0 ∧ m4 = .int .i64 0 ∧ W = w4)
  case rest =>
    rename_i hK
    obtain ⟨rfl, rfl, rfl, rfl, rfl, hW⟩ := hcut
    replace hW := hW.symm
    subst hW
    apply hK
    obtain ⟨hR, q1, q2, q3, q4, q5, q6, q7⟩ := Q.out
    exact law_f _ _ _ _ _ _ _ _ _ _ _ _ _ _ _ _ _ _ _ _ _ _ _ _ _ _ _ _ _ _ _ _ _ _ _ _ _ _ _ _ _ _ _ _ _ _ _ _ _ _ _ _ _ _ _ _ _ _ _ _ _ _ _ _ _ _ _ _ _ _ _ _ _ _ _ _ _ _ _ _ _ _ _ _ _ _ _ _ _ _ _ _ _ _ _ _ _ _ _ _ _ _ _ _ _ _ _ _ _ _ _ _ _ _ _ _ _ _ _ _ _ _ _ _ _ _ _ _ _ _ _ _ _ _ _ _ _ _ _ _ _ _ _ _ _ _ _ _ _ _ _ _ _ _ _ _ _ _ _ _ _ _ _ _ _ _ _ _ _ _ _ _ _ _ _ _ _ _ _ _ _ _ _ _ _ _ _ _ _ _ _ _ _ _ _ _ _ _ _ _ _ _ _ _ _ _ _ _ _ _ _ _ _ _ _ _ _ _ _ _ _ _ _ _ _ _ _ _ _ _ _ _ _ _ _ _ _ _ _ _ _ _ _ _ _ _ _ _ _ _ _ _ _ _ _ _ _ _ _ _ _ _ _ _ _ _ _ _ _ _ _ _ _ _ _ _ _ _ _ _ _ _ _ _ _ _ _ _ _ _ _ _ _ _ _ _ _ _ _ _ _ _ _ _ _ _ _ _ _ _ _ _ _ _ _ _ _ _ _ _ _ _ _ _ _ _ _ _ _ _ _ _ _ _ _ _ _ _ _ _ _ _ _ _ _ _ _ _ _ _ _ _ _ _ _ _ _ _ _ _ _ _ _ _ _ _ _ _ _ _ _ _ _ _ _ _ _ _ _ _ _ _ _ _ _ _ _ _ _ _ _ _ _ _ _ _ _ _ _ _ _ _ _ _ _ _ d0 d1 d2 d3 e0 e1 e2 e3 xss.length xss yss zss cs gs w0 w4 hR q1 q1 q2 q3 hcl q4 (by rw [← q1]; exact HL.out) q5 q6 HB4.out q7
  case first =>
    go_wp2_with fail
    go_meet
    exact ⟨rfl, rfl, rfl, rfl, rfl, rfl⟩
end Go.Proofs.Qxb6605538a.fl

