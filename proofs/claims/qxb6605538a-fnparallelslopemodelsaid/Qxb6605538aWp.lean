/-
  'FnParallelSlopeModel': the law's look at its points.
-/
import Derived.Test.Qxb6605538aWo
namespace Go.Proofs.Qxb6605538a.fl
open Go.ChangeShapes Go.WideShapes Go.RowKit

theorem fin_m1024 : Fin 13875590451928498176 := by unfold Fin; exact ⟨_, _, _, rfl⟩
theorem fin_1024 : Fin 4652218415073722368 := by unfold Fin; exact ⟨_, _, _, rfl⟩
theorem fin_256 : Fin 4643211215818981376 := by unfold Fin; exact ⟨_, _, _, rfl⟩
theorem fv_m1024 : fv 13875590451928498176 = -1024 := by decide +kernel
theorem fv_1024 : fv 4652218415073722368 = 1024 := by decide +kernel
theorem fv_256 : fv 4643211215818981376 = 256 := by decide +kernel
theorem fb_m1024 : ab (fv 13875590451928498176) ≤ 2000 := by decide +kernel
theorem fb_1024 : ab (fv 4652218415073722368) ≤ 2000 := by decide +kernel
theorem fb_256 : ab (fv 4643211215818981376) ≤ 2000 := by decide +kernel
theorem fb_0 : ab (fv 0) ≤ 2000 := by decide +kernel
theorem gpt_of {x y z : Nat} (h0 : Fin x ∧ IsInt (fv x) ∧ fv 13875590451928498176 ≤ fv x ∧ fv x ≤ fv 4652218415073722368) (h1 : Fin y ∧ IsInt (fv y) ∧ fv 13875590451928498176 ≤ fv y ∧ fv y ≤ fv 4652218415073722368) (h2 : Fin z ∧ IsInt (fv z) ∧ fv 0 ≤ fv z ∧ fv z ≤ fv 4643211215818981376) : GPt (x, y, z) := by
  obtain ⟨a1, a2, a3, a4⟩ := h0
  obtain ⟨b1, b2, b3, b4⟩ := h1
  obtain ⟨g1, g2, g3, g4⟩ := h2
  rw [fv_m1024] at a3 b3
  rw [fv_1024] at a4 b4
  rw [fv_256] at g4
  rw [fv_zero] at g3
  exact ⟨a1, b1, g1, a2, b2, g2, ab_le_of a4 (by show -fv x ≤ 1024; grind), ab_le_of b4 (by show -fv y ≤ 1024; grind), g3, g4⟩
theorem take_gpt {ps : List Pt} {i : Nat} (h : i < ps.length) (ht : ∀ p, p ∈ ps.take i → GPt p) (hp : GPt ps[i]) : ∀ p, p ∈ ps.take (i + 1) → GPt p := by
  intro p hm
  rw [List.take_succ_eq_append_getElem h, List.mem_append] at hm
  rcases hm with hm | hm
  · exact ht p hm
  · rw [List.mem_singleton] at hm
    rw [hm]; exact hp
def PoolOk (cs : List Nat) (nil : Prop) (k : Nat) : Prop := ¬ nil → ∀ h : k < cs.length, Fin cs[k] ∧ (fv cs[k] = 0 ∨ fv cs[k] = 1)
/-- the first k groups are as the law wants them -/
def Good (xss yss zss : List (List Nat)) (cs : List Nat) (nil : Prop) (k : Nat) : Prop :=
  ∀ j, j < k → (∀ (a : j < xss.length) (b : j < yss.length) (c : j < zss.length), ∀ p, p ∈ z3 xss[j] yss[j] zss[j] → GPt p) ∧ PoolOk cs nil j
theorem Good.step {xss yss zss : List (List Nat)} {cs : List Nat} {nil : Prop} {k : Nat} (h : Good xss yss zss cs nil k) (h1 : ∀ (a : k < xss.length) (b : k < yss.length) (c : k < zss.length), ∀ p, p ∈ z3 xss[k] yss[k] zss[k] → GPt p) (h2 : PoolOk cs nil k) : Good xss yss zss cs nil (k + 1) := by
  intro j hj
  by_cases e : j < k
  · exact h j e
  · have : j = k := by omega
    subst this
    exact ⟨h1, h2⟩
theorem fin_of_eq {x y : Nat} (hy : Fin y) (h : FloatKind.f64.format.order x y = some .eq) : Fin x ∧ fv x = fv y := by
  have hx : Fin x := by
    by_cases hx : Fin x
    · exact hx
    · exact absurd ⟨.inr h, .inr h⟩ (order_notFin hx hy hy)
  refine ⟨hx, ?_⟩
  rcases tri (fv x) (fv y) with e | e | e
  · rw [ord_lt hx hy e] at h; cases h
  · exact e
  · rw [ord_gt hx hy e] at h; cases h

set_option maxRecDepth 1000000 in
set_option maxHeartbeats 16000000 in
theorem law_d (z4 z5 z6 z7 z8 z9 z10 z11 z12 z13 z14 z15 z16 z17 z18 z19 z20 z21 z22 z23 z24 z25 z26 z27 z28 z29 z30 z31 z32 z33 z34 z35 z36 z37 z38 z39 z40 z41 z42 z43 z44 z45 z46 z47 z48 z49 z50 z51 z52 z53 z54 z55 z56 z57 z58 z59 z60 z61 z62 z63 z64 z65 z66 z67 z68 z69 z70 z71 z72 z73 z74 z75 z76 z77 z78 z79 z80 z81 z82 z83 z84 z85 z86 z87 z88 z89 z90 z91 z92 z93 z94 z95 z96 z97 z98 z99 z100 z101 z102 z103 z104 z105 z106 z107 z108 z109 z110 z111 z112 z113 z114 z115 z116 z117 z118 z119 z120 z121 z122 z123 z124 z125 z126 z127 z128 z129 z130 z131 z132 z133 z134 z135 z136 z137 z138 z139 z140 z141 z142 z143 z144 z145 z146 z147 z148 z149 z150 z151 z152 z153 z154 z155 z156 z157 z158 z159 z160 z161 z162 z163 z164 z165 z166 z167 z168 z169 z170 z171 z172 z173 z174 z175 z176 z177 z178 z179 z180 z181 z182 z183 z184 z185 z186 z187 z188 z189 z190 z191 z192 z193 z194 z195 z196 z197 z198 z199 z200 z201 z202 z203 z204 z205 z206 z207 z208 z209 z210 z211 z212 z213 z214 z215 z216 z217 z218 z219 z220 z221 z222 z223 z224 z225 z226 z227 z228 z229 z230 z231 z232 z233 z234 z235 z236 z237 z238 z239 z240 z241 z242 z243 z244 z245 z246 z247 z248 z249 z250 z251 z252 z253 z254 z255 z256 z257 z258 z259 z260 z261 z262 z263 z264 z265 z266 z267 z268 z269 z270 z271 z272 z273 z274 z275 z276 z277 z278 z279 z280 z281 z282 z283 z284 z285 z286 z287 z288 z289 z290 z291 z292 z293 z294 z295 z296 z297 z298 z299 z300 z301 z302 z303 z304 z305 z306 z307 z308 z309 z310 z311 z312 z313 z314 z315 z316 z317 z318 z319 z320 z321 z322 z323 z324 z325 z326 z327 z328 z329 z330 z331 z332 z333 z334 z335 z336 z337 z338 z339 z340 z341 z342 z343 z344 z345 z346 z347 z348 z349 z350 z351 z352 z353 z354 z355 z356 z357 z358 z359 z360 z361 z362 z363 z364 z365 z366 z367 z368 z369 z370 z371 z372 z373 z374 z375 z376 z377 z378 z379 z380 z381 z382 z383 z384 z385 z386 z387 z388 z389 z390 z391 z392 z393 z394 z395 z396 z397 z398 z399 z400 z401 z402 z403 z404 z405 z406 z407 z408 z409 z410 z411 z412 z413 z414 z415 z416 z417 : Value) (a0 a1 a2 a3 : Option Addr) (c0 c1 c2 c3 : Nat) (xss yss zss : List (List Nat)) (cs : List Nat) (w0 w : World)
    (hr : Rows3 w.heap.size w (.slice a0 xss.length c0) (.slice a1 xss.length c1) (.slice a2 xss.length c2) xss yss zss) (hf : FSrc w.heap.size w (.slice a3 cs.length c3) cs)
    (tot : (xss.map List.length).sum ≤ 4096) (hcl : cs.length ≤ 4096) (hpl : a3 ≠ none → xss.length ≤ cs.length) (hbw : Below w0.heap.size w0 w) :
    Code.wp Try.prog (dropSeq 10 (Try.f5.body.getD .skip)) (bodyPost Try.prog Try.f5 (Post w0)) ⟨#[.slice a0 xss.length c0, .slice a1 xss.length c1, .slice a2 xss.length c2, .slice a3 cs.length c3, z4, z5, z6, z7, z8, z9, z10, z11, z12, z13, z14, z15, z16, z17, z18, z19, z20, z21, z22, z23, z24, z25, z26, z27, z28, z29, z30, z31, z32, z33, z34, z35, z36, z37, z38, z39, z40, z41, z42, z43, z44, z45, z46, z47, z48, z49, z50, z51, z52, z53, z54, z55, z56, z57, z58, z59, z60, z61, z62, z63, z64, z65, z66, z67, z68, z69, z70, z71, z72, z73, z74, z75, z76, z77, z78, z79, z80, z81, z82, z83, z84, z85, z86, z87, z88, z89, z90, z91, z92, z93, z94, z95, z96, z97, z98, z99, z100, z101, z102, z103, z104, z105, z106, z107, z108, z109, z110, z111, z112, z113, z114, z115, z116, z117, z118, z119, z120, z121, z122, z123, z124, z125, z126, z127, z128, z129, z130, z131, z132, z133, z134, z135, z136, z137, z138, z139, z140, z141, z142, z143, z144, z145, z146, z147, z148, z149, z150, z151, z152, z153, z154, z155, z156, z157, z158, z159, z160, z161, z162, z163, z164, z165, z166, z167, z168, z169, z170, z171, z172, z173, z174, z175, z176, z177, z178, z179, z180, z181, z182, z183, z184, z185, z186, z187, z188, z189, z190, z191, z192, z193, z194, z195, z196, z197, z198, z199, z200, z201, z202, z203, z204, z205, z206, z207, z208, z209, z210, z211, z212, z213, z214, z215, z216, z217, z218, z219, z220, z221, z222, z223, z224, z225, z226, z227, z228, z229, z230, z231, z232, z233, z234, z235, z236, z237, z238, z239, z240, z241, z242, z243, z244, z245, z246, z247, z248, z249, z250, z251, z252, z253, z254, z255, z256, z257, z258, z259, z260, z261, z262, z263, z264, z265, z266, z267, z268, z269, z270, z271, z272, z273, z274, z275, z276, z277, z278, z279, z280, z281, z282, z283, z284, z285, z286, z287, z288, z289, z290, z291, z292, z293, z294, z295, z296, z297, z298, z299, z300, z301, z302, z303, z304, z305, z306, z307, z308, z309, z310, z311, z312, z313, z314, z315, z316, z317, z318, z319, z320, z321, z322, z323, z324, z325, z326, z327, z328, z329, z330, z331, z332, z333, z334, z335, z336, z337, z338, z339, z340, z341, z342, z343, z344, z345, z346, z347, z348, z349, z350, z351, z352, z353, z354, z355, z356, z357, z358, z359, z360, z361, z362, z363, z364, z365, z366, z367, z368, z369, z370, z371, z372, z373, z374, z375, z376, z377, z378, z379, z380, z381, z382, z383, z384, z385, z386, z387, z388, z389, z390, z391, z392, z393, z394, z395, z396, z397, z398, z399, z400, z401, z402, z403, z404, z405, z406, z407, z408, z409, z410, z411, z412, z413, z414, z415, z416, z417], []⟩ w := by
  have HR := Lib.hid hr
  have HF := Lib.hid hf
  have HTT := Lib.hid tot
  have HPL := Lib.hid hpl
  have HBW := Lib.hid hbw
  have hl0 := hr.l0
  clear hr hf tot hpl hbw
  conv => arg 2; whnf
  go_upto_block 8 with fail
  go_cut [16] (fun _ W => Hid (Good xss yss zss cs (a3 = none) xss.length) ∧ W = w)
  case rest =>
    rename_i hK
    obtain ⟨HG, hW⟩ := hcut
    replace hW := hW.symm
    subst hW
    apply hK
    exact law_e _ _ _ _ _ _ _ _ _ _ _ _ _ _ _ _ _ _ _ _ _ _ _ _ _ _ _ _ _ _ _ _ _ _ _ _ _ _ _ _ _ _ _ _ _ _ _ _ _ _ _ _ _ _ _ _ _ _ _ _ _ _ _ _ _ _ _ _ _ _ _ _ _ _ _ _ _ _ _ _ _ _ _ _ _ _ _ _ _ _ _ _ _ _ _ _ _ _ _ _ _ _ _ _ _ _ _ _ _ _ _ _ _ _ _ _ _ _ _ _ _ _ _ _ _ _ _ _ _ _ _ _ _ _ _ _ _ _ _ _ _ _ _ _ _ _ _ _ _ _ _ _ _ _ _ _ _ _ _ _ _ _ _ _ _ _ _ _ _ _ _ _ _ _ _ _ _ _ _ _ _ _ _ _ _ _ _ _ _ _ _ _ _ _ _ _ _ _ _ _ _ _ _ _ _ _ _ _ _ _ _ _ _ _ _ _ _ _ _ _ _ _ _ _ _ _ _ _ _ _ _ _ _ _ _ _ _ _ _ _ _ _ _ _ _ _ _ _ _ _ _ _ _ _ _ _ _ _ _ _ _ _ _ _ _ _ _ _ _ _ _ _ _ _ _ _ _ _ _ _ _ _ _ _ _ _ _ _ _ _ _ _ _ _ _ _ _ _ _ _ _ _ _ _ _ _ _ _ _ _ _ _ _ _ _ _ _ _ _ _ _ _ _ _ _ _ _ _ _ _ _ _ _ _ _ _ _ _ _ _ _ _ _ _ _ _ _ _ _ _ _ _ _ _ _ _ _ _ _ _ _ _ _ _ _ _ _ _ _ _ _ _ _ _ _ _ _ _ _ _ _ _ _ _ _ _ _ _ _ _ _ _ _ _ _ _ _ _ _ _ _ _ _ _ _ _ _ _ _ _ _ _ _ _ a0 a1 a2 a3 c0 c1 c2 c3 xss yss zss cs w0 w HR.out HF.out ⟨HTT.out, hcl, fun h => ⟨HPL.out h, fun k a b => (HG.out k a).2 h b⟩, fun k a b c => (HG.out k a).1 a b c⟩ HBW.out
  case first =>
    go_wp2_with fail
    go_loopw [16] (fun g W => ∃ k : Nat, k ≤ xss.length ∧ g = .int .i64 k ∧ Hid (Good xss yss zss cs (a3 = none) k) ∧ W = w) (fun g _ => xss.length - (intOf g).toNat)
    case atStart => exact ⟨0, by omega, rfl, Lib.hid (fun j hj => by omega), rfl⟩
    case round =>
      obtain ⟨k, hk, rfl, HG, hW⟩ := hrel
      replace hW := hW.symm
      subst hW
      by_cases hlt : k < xss.length
      · have hr := HR.out
        have ky : k < yss.length := by rw [hr.e1]; exact hlt
        have kz : k < zss.length := by rw [hr.e2]; exact hlt
        obtain ⟨b0, o0, x0, y0, eb, _, hc0, hf0⟩ := hr.h0.at (Below.refl _ _) hlt
        cases eb
        obtain ⟨b1, o1, x1, y1, eb, _, hc1, hf1⟩ := hr.h1.at (Below.refl _ _) ky
        cases eb
        obtain ⟨b2, o2, x2, y2, eb, _, hc2, hf2⟩ := hr.h2.at (Below.refl _ _) kz
        cases eb
        rw [hr.f1 k hlt ky] at hc1 hf1
        rw [hr.f2 k hlt kz] at hc2 hf2
        have hll := hr.l1 k hlt
        have eY := hr.f1 k hlt ky
        have eZ := hr.f2 k hlt kz
        obtain ⟨X, hX⟩ : ∃ l, l = xss[k] := ⟨_, rfl⟩
        obtain ⟨Y, hY⟩ : ∃ l, l = yss[k] := ⟨_, rfl⟩
        obtain ⟨Z, hZ⟩ : ∃ l, l = zss[k] := ⟨_, rfl⟩
        rw [← hX] at hc0 hf0 hc1 hf1 hc2 hf2 hll eY eZ
        rw [← hY] at hf1 eY
        rw [← hZ] at hf2 eZ
        have F0 := Lib.hid hf0
        have F1 := Lib.hid hf1
        have F2 := Lib.hid hf2
        have EY := Lib.hid eY
        have EZ := Lib.hid eZ
        have HX : Hid (∀ a : k < xss.length, X = xss[k]) := Lib.hid (fun _ => hX)
        have HY : Hid (∀ a : k < yss.length, Y = yss[k]) := Lib.hid (fun _ => hY)
        have HZ : Hid (∀ a : k < zss.length, Z = zss[k]) := Lib.hid (fun _ => hZ)
        clear hr hX hY hZ eY eZ hf0 hf1 hf2 ky kz
        go_upto_region 42 with fail
        go_cut [207] (fun c W => (∃ b, c = .bool b ∧ Hid (b = false → PoolOk cs (a3 = none) k)) ∧ W = w)
        case first =>
          cases a3 with
          | none =>
            go_wp2_with fail
            go_meet
            exact ⟨⟨false, rfl, Lib.hid (fun _ h => (h (by trivial)).elim)⟩, rfl⟩
          | some pa =>
            have hkc : k < cs.length := by have := HPL.out (fun e => by cases e); omega
            obtain ⟨b3, o3, eb, _, d3⟩ := HF.out.at (Below.refl _ _) hkc
            cases eb
            obtain ⟨pc, hpc⟩ : ∃ l, l = cs[k] := ⟨_, rfl⟩
            have HPC : Hid (∀ a : k < cs.length, pc = cs[k]) := Lib.hid (fun _ => hpc)
            rw [← hpc] at d3
            clear hpc
            obtain ⟨r1, hr1⟩ : ∃ r, FloatKind.f64.format.order pc 0 = r := ⟨_, rfl⟩
            obtain ⟨r2, hr2⟩ : ∃ r, FloatKind.f64.format.order pc 4607182418800017408 = r := ⟨_, rfl⟩
            by_cases g1 : r1 = some .eq
            · subst g1
              have HE := Lib.hid (fin_of_eq fin_zero hr1)
              clear hr2
              go_wp2_with fail
              go_meet
              exact ⟨⟨false, rfl, Lib.hid (fun _ _ h => by rw [← HPC.out h]; exact ⟨HE.out.1, .inl (by rw [HE.out.2, fv_zero])⟩)⟩, rfl⟩
            · by_cases g2 : r2 = some .eq
              · subst g2
                have HE := Lib.hid (fin_of_eq fin_one hr2)
                rcases r1 with _ | _ | _ | _
                case some.eq => exact absurd rfl g1
                all_goals
                  clear g1
                  go_wp2_with fail
                  go_meet
                  exact ⟨⟨false, rfl, Lib.hid (fun _ _ h => by rw [← HPC.out h]; exact ⟨HE.out.1, .inr (by rw [HE.out.2, fv_one])⟩)⟩, rfl⟩
              · rcases r1 with _ | _ | _ | _
                case some.eq => exact absurd rfl g1
                all_goals
                  clear g1
                  rcases r2 with _ | _ | _ | _
                  case some.eq => exact absurd rfl g2
                  all_goals
                    clear g2
                    go_wp2_with fail
                    go_meet
                    exact ⟨⟨true, rfl, Lib.hid (fun h => by cases h)⟩, rfl⟩
        case rest =>
          obtain ⟨⟨b, rfl, HBp⟩, hW⟩ := hcut
          replace hW := hW.symm
          subst hW
          cases b with
          | true =>
            go_wp2
            go_ret
            exact ⟨rfl, HBW.out⟩
          | false =>
              replace HBp := Lib.hid (HBp.out rfl)
              go_wp2_with fail
              go_loopw [17] (fun j W => ∃ i : Nat, i ≤ X.length ∧ j = .int .i64 i ∧ Hid (∀ p, p ∈ (z3 X Y Z).take i → GPt p) ∧ W = w) (fun j _ => X.length - (intOf j).toNat)
              case atStart => exact ⟨0, by omega, rfl, Lib.hid (fun p hp => by simp at hp), rfl⟩
              case round =>
                obtain ⟨i, hi, rfl, HT, hW⟩ := hrel
                replace hW := hW.symm
                subst hW
                by_cases hli : i < X.length
                · have hy : i < Y.length := by rw [EY.out]; exact hli
                  have hz : i < Z.length := by rw [EZ.out]; exact hli
                  have hps : i < (z3 X Y Z).length := by rw [z3_len EY.out EZ.out]; exact hli
                  obtain ⟨p0, q0, eb, _, d0⟩ := F0.out.at (Below.refl _ _) hli
                  cases eb
                  obtain ⟨p1, q1, eb, _, d1⟩ := F1.out.at (Below.refl _ _) hy
                  cases eb
                  obtain ⟨p2, q2, eb, _, d2⟩ := F2.out.at (Below.refl _ _) hz
                  cases eb
                  have hpi := z3_get hps hli hy hz
                  obtain ⟨xb, hxb⟩ : ∃ l, l = X[i] := ⟨_, rfl⟩
                  obtain ⟨yb, hyb⟩ : ∃ l, l = Y[i] := ⟨_, rfl⟩
                  obtain ⟨zb, hzb⟩ : ∃ l, l = Z[i] := ⟨_, rfl⟩
                  rw [← hxb] at d0 hpi
                  rw [← hyb] at d1 hpi
                  rw [← hzb] at d2 hpi
                  have HPI := Lib.hid hpi
                  clear hxb hyb hzb hpi hy hz
                  go_wp2_with fail
                  refine (onGrid_ok xb 13875590451928498176 4652218415073722368 w fin_m1024 fin_1024 fb_m1024 fb_1024).mono ?_
                  rintro e w' ⟨r0, rfl, hW, h0⟩
                  replace hW := hW.symm
                  subst hW
                  cases r0 with
                  | false =>
                    clear h0
                    go_wp2
                    go_ret
                    exact ⟨rfl, HBW.out⟩
                  | true =>
                  have R0 := Lib.hid (h0 rfl)
                  clear h0
                  go_wp2_with fail
                  refine (onGrid_ok yb 13875590451928498176 4652218415073722368 w fin_m1024 fin_1024 fb_m1024 fb_1024).mono ?_
                  rintro e w' ⟨r1, rfl, hW, h1⟩
                  replace hW := hW.symm
                  subst hW
                  cases r1 with
                  | false =>
                    clear h1
                    go_wp2
                    go_ret
                    exact ⟨rfl, HBW.out⟩
                  | true =>
                  have R1 := Lib.hid (h1 rfl)
                  clear h1
                  go_wp2_with fail
                  refine (onGrid_ok zb 0 4643211215818981376 w fin_zero fin_256 fb_0 fb_256).mono ?_
                  rintro e w' ⟨r2, rfl, hW, h2⟩
                  replace hW := hW.symm
                  subst hW
                  cases r2 with
                  | false =>
                    clear h2
                    go_wp2
                    go_ret
                    exact ⟨rfl, HBW.out⟩
                  | true =>
                  have R2 := Lib.hid (h2 rfl)
                  clear h2
                  have HT' := Lib.hid (take_gpt hps HT.out (by rw [HPI.out]; exact gpt_of R0.out R1.out R2.out))
                  clear HT HPI R0 R1 R2 hps
                  go_wp2
                  go_roundw
                  case rel => exact ⟨i + 1, by omega, by go_num, HT', by trivial⟩
                  case measure => simp [intOf]; omega
                · have tk : (z3 X Y Z).take i = z3 X Y Z := List.take_of_length_le (by rw [z3_len EY.out EZ.out]; omega)
                  have hT := HT.out
                  rw [tk] at hT
                  have HG' := Lib.hid (HG.out.step (fun a b c => by rw [← HX.out a, ← HY.out b, ← HZ.out c]; exact hT) HBp.out)
                  clear tk hT HT HG HBp
                  go_wp2
                  go_roundw
                  case rel => exact ⟨k + 1, by omega, by go_num, HG', by trivial⟩
                  case measure => simp [intOf]; omega
      · have hkk : k = xss.length := by omega
        subst hkk
        go_wp2_with fail
        go_meet
        exact ⟨HG, rfl⟩
end Go.Proofs.Qxb6605538a.fl

