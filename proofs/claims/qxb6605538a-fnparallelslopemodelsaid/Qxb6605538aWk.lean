/-
  'FnParallelSlopeModel', its last part: the pool's line, the call, the comparison.
-/
import Derived.Test.Qxb6605538aWj
import Derived.Deep.CutBlock
import Derived.Deep.DeepCutAuto
namespace Go.Proofs.Qxb6605538a.fl
open Go.ChangeShapes Go.WideShapes Go.RowKit

def dropSeq : Nat → Code → Code
  | 0, c => c
  | n + 1, .seq _ b => dropSeq n b
  | _, c => c

theorem run_neg (Q : Program) (w : World) (k : FloatKind) (x : Nat) : (Op.unary UnOp.neg (Value.float k x)).run Q w = .ok (.float k (Op.negFloat k x)) w := by
  simp [Op.unary]
attribute [local go_sem] run_neg

/-- how the law ends -/
def Post (w0 : World) (e : Ending) (w' : World) : Prop := e = .returned (.bool true) ∧ Below w0.heap.size w0 w'

/-- what the law's own sums come to, and how they meet the program's slope -/
theorem law_sums {gs : List Gr} {P S p s : Nat} {b ok : Bool} (h : ∀ g, g ∈ gs → GrOk g) (hl : gs.length ≤ 4096) (hV : Sm (fun q => q.1 * s0 pw q.2) (gs.map key) ≤ 1048576) (ha : AccRel fP fS gs gs.length P S)
    (hb : b = true ↔ 0 < Sm fS gs) (hk : LineOk qw qx qy (pool gs) p s ok) :
    ∃ pr sq, Ieee.double.add P p = some pr ∧ Ieee.double.add S s = some sq ∧
      ((b || ok) = false → ∀ got, SlopeRes (gs.map key) got → Fin got ∧ fv got = 0) ∧
      ((b || ok) = true → ∃ m, Ieee.double.div pr sq = some m ∧ Fin m ∧ ∀ got, SlopeRes (gs.map key) got → ∃ d, Ieee.double.sub got m = some d ∧ Fin d ∧ ∀ am, Fin am → fv am = ab (fv m) →
        ∃ u tol, Ieee.double.mul am 4535124824762089472 = some u ∧ Ieee.double.add 4580160821035794432 u = some tol ∧ Fin tol ∧ fv d ≤ fv tol ∧ -fv tol ≤ fv d) := by
  obtain ⟨pr, sq, o1, o2, f1, f2, e1, e2⟩ := law_end h hl (pool_le rfl hV) ha hk.fp hk.fs hk.np hk.ns
  refine ⟨pr, sq, o1, o2, fun hn got hg => ?_, fun hs => ?_⟩
  · obtain ⟨fg, hz, _⟩ := hg
    refine ⟨fg, hz ?_⟩
    rw [← TS_key, TS_free h]
    have hb0 : b = false := by cases b <;> simp_all
    have hk0 : ok = false := by cases ok <;> simp_all
    have n1 : ¬ 0 < Sm fS gs := fun hc => by rw [hb.2 hc] at hb0; cases hb0
    have n2 : ¬ 0 < poolS gs := fun hc => by rw [hk.hb.2 hc] at hk0; cases hk0
    have p1 := (free_sum h hl).1
    have p2 : 0 ≤ poolS gs := Pl_nonneg (pool_w h)
    grind
  · have hpos : 1 / 2 ≤ TS gs := by
      rcases TS_half h hl with h0 | h0
      · exfalso
        rw [TS_free h] at h0
        have p1 := (free_sum h hl).1
        have p2 : 0 ≤ poolS gs := Pl_nonneg (pool_w h)
        cases hbb : b with
        | true => have := hb.1 hbb; grind
        | false =>
          have : ok = true := by rw [hbb] at hs; simpa using hs
          have h3 : 0 < poolS gs := hk.hb.1 this
          grind
      · exact h0
    obtain ⟨_, ht, m, o3, f3, e3⟩ := slope_ok (C := 11 / 10000) f1 f2 hpos (TP_le h hl) e1 e2 (by decide +kernel) (by decide +kernel) (by decide +kernel) (by decide +kernel)
    refine ⟨m, o3, f3, fun got hg => ?_⟩
    obtain ⟨fg, _, hn⟩ := hg
    have hne := hn (by rw [← TS_key]; grind)
    rw [← TS_key, ← TP_key] at hne
    exact tail_ok fg f3 ht hne (by grind)

set_option maxRecDepth 1000000 in
set_option maxHeartbeats 8000000 in
theorem law_g (z4 z5 z6 z7 z8 z9 z10 z11 z12 z13 z14 z15 z16 z17 z26 z27 z28 z29 z30 z31 z32 z33 z34 z35 z36 z37 z38 z39 z40 z41 z42 z43 z44 z45 z46 z47 z48 z49 z50 z51 z52 z53 z54 z55 z56 z57 z58 z59 z60 z61 z62 z63 z64 z65 z66 z67 z68 z69 z70 z71 z72 z73 z74 z75 z76 z77 z78 z79 z80 z81 z82 z83 z84 z85 z86 z87 z88 z89 z90 z91 z92 z93 z94 z95 z96 z97 z98 z99 z100 z101 z102 z103 z104 z105 z106 z107 z108 z109 z110 z111 z112 z113 z114 z115 z116 z117 z118 z119 z120 z121 z122 z123 z124 z125 z126 z127 z128 z129 z130 z131 z132 z133 z134 z135 z136 z137 z138 z139 z140 z141 z142 z143 z144 z145 z146 z147 z148 z149 z150 z151 z152 z153 z154 z155 z156 z157 z158 z159 z160 z161 z162 z163 z164 z165 z166 z167 z168 z169 z170 z171 z172 z173 z174 z175 z176 z177 z178 z179 z180 z181 z182 z183 z184 z185 z186 z187 z188 z189 z190 z191 z192 z193 z194 z195 z196 z197 z198 z199 z200 z201 z202 z203 z204 z205 z206 z207 z208 z209 z210 z211 z212 z213 z214 z215 z216 z217 z218 z219 z220 z221 z222 z223 z224 z225 z226 z227 z228 z229 z230 z231 z232 z233 z234 z235 z236 z237 z238 z239 z240 z241 z242 z243 z244 z245 z246 z247 z248 z249 z250 z251 z252 z253 z254 z255 z256 z257 z258 z259 z260 z261 z262 z263 z264 z265 z266 z267 z268 z269 z270 z271 z272 z273 z274 z275 z276 z277 z278 z279 z280 z281 z282 z283 z284 z285 z286 z287 z288 z289 z290 z291 z292 z293 z294 z295 z296 z297 z298 z299 z300 z301 z302 z303 z304 z305 z306 z307 z308 z309 z310 z311 z312 z313 z314 z315 z316 z317 z318 z319 z320 z321 z322 z323 z324 z325 z326 z327 z328 z329 z330 z331 z332 z333 z334 z335 z336 z337 z338 z339 z340 z341 z342 z343 z344 z345 z346 z347 z348 z349 z350 z351 z352 z353 z354 z355 z356 z357 z358 z359 z360 z361 z362 z363 z364 z365 z366 z367 z368 z369 z370 z371 z372 z373 z374 z375 z376 z377 z378 z379 z380 z381 z382 z383 z384 z385 z386 z387 z388 z389 z390 z391 z392 z393 z394 z395 z396 z397 z398 z399 z400 z401 z402 z403 z404 z405 z406 z407 z408 z409 z410 z411 z412 z413 z414 z415 z416 z417 : Value) (s0v s1v s2v s3v : Value) (P S : Nat) (b : Bool) (mw mx my mxx mxy : Int) (gs : List Gr) (w0 w : World)
    (h : ∀ g, g ∈ gs → GrOk g) (hl : gs.length ≤ 4096) (hV : Sm (fun q => q.1 * s0 pw q.2) (gs.map key) ≤ 1048576) (ha : AccRel fP fS gs gs.length P S)
    (hb : b = true ↔ 0 < Sm fS gs) (hin : LineIn qw qx qy (pool gs) mw mx my mxx mxy) (hbw : Below w0.heap.size w0 w)
    (hcall : Calls Try.prog 17 #[s0v, s1v, s2v, s3v] w fun e w' => ∃ r, e = .returned (.float .f64 r) ∧ SlopeRes (gs.map key) r ∧ Below w.heap.size w w') :
    Code.wp Try.prog (dropSeq 19 (Try.f5.body.getD .skip)) (bodyPost Try.prog Try.f5 (Post w0)) ⟨#[s0v, s1v, s2v, s3v, z4, z5, z6, z7, z8, z9, z10, z11, z12, z13, z14, z15, z16, z17, .float .f64 P, .float .f64 S, .bool b, .int .i64 mw, .int .i64 mx, .int .i64 my, .int .i64 mxx, .int .i64 mxy, z26, z27, z28, z29, z30, z31, z32, z33, z34, z35, z36, z37, z38, z39, z40, z41, z42, z43, z44, z45, z46, z47, z48, z49, z50, z51, z52, z53, z54, z55, z56, z57, z58, z59, z60, z61, z62, z63, z64, z65, z66, z67, z68, z69, z70, z71, z72, z73, z74, z75, z76, z77, z78, z79, z80, z81, z82, z83, z84, z85, z86, z87, z88, z89, z90, z91, z92, z93, z94, z95, z96, z97, z98, z99, z100, z101, z102, z103, z104, z105, z106, z107, z108, z109, z110, z111, z112, z113, z114, z115, z116, z117, z118, z119, z120, z121, z122, z123, z124, z125, z126, z127, z128, z129, z130, z131, z132, z133, z134, z135, z136, z137, z138, z139, z140, z141, z142, z143, z144, z145, z146, z147, z148, z149, z150, z151, z152, z153, z154, z155, z156, z157, z158, z159, z160, z161, z162, z163, z164, z165, z166, z167, z168, z169, z170, z171, z172, z173, z174, z175, z176, z177, z178, z179, z180, z181, z182, z183, z184, z185, z186, z187, z188, z189, z190, z191, z192, z193, z194, z195, z196, z197, z198, z199, z200, z201, z202, z203, z204, z205, z206, z207, z208, z209, z210, z211, z212, z213, z214, z215, z216, z217, z218, z219, z220, z221, z222, z223, z224, z225, z226, z227, z228, z229, z230, z231, z232, z233, z234, z235, z236, z237, z238, z239, z240, z241, z242, z243, z244, z245, z246, z247, z248, z249, z250, z251, z252, z253, z254, z255, z256, z257, z258, z259, z260, z261, z262, z263, z264, z265, z266, z267, z268, z269, z270, z271, z272, z273, z274, z275, z276, z277, z278, z279, z280, z281, z282, z283, z284, z285, z286, z287, z288, z289, z290, z291, z292, z293, z294, z295, z296, z297, z298, z299, z300, z301, z302, z303, z304, z305, z306, z307, z308, z309, z310, z311, z312, z313, z314, z315, z316, z317, z318, z319, z320, z321, z322, z323, z324, z325, z326, z327, z328, z329, z330, z331, z332, z333, z334, z335, z336, z337, z338, z339, z340, z341, z342, z343, z344, z345, z346, z347, z348, z349, z350, z351, z352, z353, z354, z355, z356, z357, z358, z359, z360, z361, z362, z363, z364, z365, z366, z367, z368, z369, z370, z371, z372, z373, z374, z375, z376, z377, z378, z379, z380, z381, z382, z383, z384, z385, z386, z387, z388, z389, z390, z391, z392, z393, z394, z395, z396, z397, z398, z399, z400, z401, z402, z403, z404, z405, z406, z407, z408, z409, z410, z411, z412, z413, z414, z415, z416, z417], []⟩ w := by
  have HH := Lib.hid h
  have HV := Lib.hid hV
  have HA := Lib.hid ha
  have HB := Lib.hid hb
  have HI := Lib.hid hin
  have HC := Lib.hid hcall
  clear h hV ha hb hin hcall
  conv => arg 2; whnf
  go_wp2_with fail
  refine (psLine_ok HI.out w).mono ?_
  rintro e w1 ⟨p, s, ok, rfl, hw1, hok⟩
  replace hw1 := hw1.symm
  subst hw1
  obtain ⟨pr, sq, q1, q2, hF, hT⟩ := law_sums HH.out hl HV.out HA.out HB.out hok
  have o1 := run_op .add _ _ pr q1
  have o2 := run_op .add _ _ sq q2
  have HF := Lib.hid hF
  have HT := Lib.hid hT
  clear hF hT hok q1 q2 HA HB HI
  cases b with
  | true =>
    obtain ⟨m, q3, fm, hg⟩ := HT.out rfl
    have o3 := run_op .quo _ _ m q3
    have HG := Lib.hid hg
    have FM := Lib.hid fm
    clear HF HT q3 fm hg
    go_wp2_with fail
    refine HC.out.mono ?_
    rintro e w2 ⟨got, rfl, hres, hb2⟩
    obtain ⟨d, q4, fd, ham⟩ := HG.out got hres
    have hbz := Lib.hid (hbw.trans (hb2.mono hbw.size))
    have o4 := run_op .sub _ _ d q4
    clear hres hb2 HG q4 HC
    rcases tri (fv m) (fv 0) with ho | ho | ho
    · have hord := ord_lt FM.out fin_zero ho
      obtain ⟨fn, en⟩ := neg_ok FM.out
      obtain ⟨u, tol, q5, q6, ft, t1, t2⟩ := ham _ fn (by rw [en]; rw [fv_zero] at ho; rw [← ab_neg, ab_of_nonneg]; grind)
      have o5 := run_op .mul _ _ u q5
      have o6 := run_op .add _ _ tol q6
      obtain ⟨fnt, ent⟩ := neg_ok ft
      have ho1 : FloatKind.f64.format.order d tol = some .lt ∨ FloatKind.f64.format.order d tol = some .eq := by
        rcases tri (fv d) (fv tol) with h | h | h
        · exact .inl (ord_lt fd ft h)
        · exact .inr (ord_eq fd ft h)
        · grind
      have ho2 : FloatKind.f64.format.order d (Op.negFloat .f64 tol) = some .gt ∨ FloatKind.f64.format.order d (Op.negFloat .f64 tol) = some .eq := by
        rcases tri (fv d) (fv (Op.negFloat .f64 tol)) with h | h | h
        · rw [ent] at h; grind
        · exact .inr (ord_eq fd fnt h)
        · exact .inl (ord_gt fd fnt h)
      clear ham ho q5 q6 ft t1 t2 fnt ent fd
      rcases ho1 with h1 | h1 <;> rcases ho2 with h2 | h2
      all_goals
        go_wp2
        go_ret
        exact ⟨rfl, hbz.out⟩
    · have hord := ord_eq FM.out fin_zero ho
      obtain ⟨u, tol, q5, q6, ft, t1, t2⟩ := ham m FM.out (by rw [fv_zero] at ho; rw [ab_of_nonneg]; grind)
      have o5 := run_op .mul _ _ u q5
      have o6 := run_op .add _ _ tol q6
      obtain ⟨fnt, ent⟩ := neg_ok ft
      have ho1 : FloatKind.f64.format.order d tol = some .lt ∨ FloatKind.f64.format.order d tol = some .eq := by
        rcases tri (fv d) (fv tol) with h | h | h
        · exact .inl (ord_lt fd ft h)
        · exact .inr (ord_eq fd ft h)
        · grind
      have ho2 : FloatKind.f64.format.order d (Op.negFloat .f64 tol) = some .gt ∨ FloatKind.f64.format.order d (Op.negFloat .f64 tol) = some .eq := by
        rcases tri (fv d) (fv (Op.negFloat .f64 tol)) with h | h | h
        · rw [ent] at h; grind
        · exact .inr (ord_eq fd fnt h)
        · exact .inl (ord_gt fd fnt h)
      clear ham ho q5 q6 ft t1 t2 fnt ent fd
      rcases ho1 with h1 | h1 <;> rcases ho2 with h2 | h2
      all_goals
        go_wp2
        go_ret
        exact ⟨rfl, hbz.out⟩
    · have hord := ord_gt FM.out fin_zero ho
      obtain ⟨u, tol, q5, q6, ft, t1, t2⟩ := ham m FM.out (by rw [fv_zero] at ho; rw [ab_of_nonneg]; grind)
      have o5 := run_op .mul _ _ u q5
      have o6 := run_op .add _ _ tol q6
      obtain ⟨fnt, ent⟩ := neg_ok ft
      have ho1 : FloatKind.f64.format.order d tol = some .lt ∨ FloatKind.f64.format.order d tol = some .eq := by
        rcases tri (fv d) (fv tol) with h | h | h
        · exact .inl (ord_lt fd ft h)
        · exact .inr (ord_eq fd ft h)
        · grind
      have ho2 : FloatKind.f64.format.order d (Op.negFloat .f64 tol) = some .gt ∨ FloatKind.f64.format.order d (Op.negFloat .f64 tol) = some .eq := by
        rcases tri (fv d) (fv (Op.negFloat .f64 tol)) with h | h | h
        · rw [ent] at h; grind
        · exact .inr (ord_eq fd fnt h)
        · exact .inl (ord_gt fd fnt h)
      clear ham ho q5 q6 ft t1 t2 fnt ent fd
      rcases ho1 with h1 | h1 <;> rcases ho2 with h2 | h2
      all_goals
        go_wp2
        go_ret
        exact ⟨rfl, hbz.out⟩
  | false =>
    cases ok with
    | true =>
      obtain ⟨m, q3, fm, hg⟩ := HT.out rfl
      have o3 := run_op .quo _ _ m q3
      have HG := Lib.hid hg
      have FM := Lib.hid fm
      clear HF HT q3 fm hg
      go_wp2_with fail
      refine HC.out.mono ?_
      rintro e w2 ⟨got, rfl, hres, hb2⟩
      obtain ⟨d, q4, fd, ham⟩ := HG.out got hres
      have hbz := Lib.hid (hbw.trans (hb2.mono hbw.size))
      have o4 := run_op .sub _ _ d q4
      clear hres hb2 HG q4 HC
      rcases tri (fv m) (fv 0) with ho | ho | ho
      · have hord := ord_lt FM.out fin_zero ho
        obtain ⟨fn, en⟩ := neg_ok FM.out
        obtain ⟨u, tol, q5, q6, ft, t1, t2⟩ := ham _ fn (by rw [en]; rw [fv_zero] at ho; rw [← ab_neg, ab_of_nonneg]; grind)
        have o5 := run_op .mul _ _ u q5
        have o6 := run_op .add _ _ tol q6
        obtain ⟨fnt, ent⟩ := neg_ok ft
        have ho1 : FloatKind.f64.format.order d tol = some .lt ∨ FloatKind.f64.format.order d tol = some .eq := by
          rcases tri (fv d) (fv tol) with h | h | h
          · exact .inl (ord_lt fd ft h)
          · exact .inr (ord_eq fd ft h)
          · grind
        have ho2 : FloatKind.f64.format.order d (Op.negFloat .f64 tol) = some .gt ∨ FloatKind.f64.format.order d (Op.negFloat .f64 tol) = some .eq := by
          rcases tri (fv d) (fv (Op.negFloat .f64 tol)) with h | h | h
          · rw [ent] at h; grind
          · exact .inr (ord_eq fd fnt h)
          · exact .inl (ord_gt fd fnt h)
        clear ham ho q5 q6 ft t1 t2 fnt ent fd
        rcases ho1 with h1 | h1 <;> rcases ho2 with h2 | h2
        all_goals
          go_wp2
          go_ret
          exact ⟨rfl, hbz.out⟩
      · have hord := ord_eq FM.out fin_zero ho
        obtain ⟨u, tol, q5, q6, ft, t1, t2⟩ := ham m FM.out (by rw [fv_zero] at ho; rw [ab_of_nonneg]; grind)
        have o5 := run_op .mul _ _ u q5
        have o6 := run_op .add _ _ tol q6
        obtain ⟨fnt, ent⟩ := neg_ok ft
        have ho1 : FloatKind.f64.format.order d tol = some .lt ∨ FloatKind.f64.format.order d tol = some .eq := by
          rcases tri (fv d) (fv tol) with h | h | h
          · exact .inl (ord_lt fd ft h)
          · exact .inr (ord_eq fd ft h)
          · grind
        have ho2 : FloatKind.f64.format.order d (Op.negFloat .f64 tol) = some .gt ∨ FloatKind.f64.format.order d (Op.negFloat .f64 tol) = some .eq := by
          rcases tri (fv d) (fv (Op.negFloat .f64 tol)) with h | h | h
          · rw [ent] at h; grind
          · exact .inr (ord_eq fd fnt h)
          · exact .inl (ord_gt fd fnt h)
        clear ham ho q5 q6 ft t1 t2 fnt ent fd
        rcases ho1 with h1 | h1 <;> rcases ho2 with h2 | h2
        all_goals
          go_wp2
          go_ret
          exact ⟨rfl, hbz.out⟩
      · have hord := ord_gt FM.out fin_zero ho
        obtain ⟨u, tol, q5, q6, ft, t1, t2⟩ := ham m FM.out (by rw [fv_zero] at ho; rw [ab_of_nonneg]; grind)
        have o5 := run_op .mul _ _ u q5
        have o6 := run_op .add _ _ tol q6
        obtain ⟨fnt, ent⟩ := neg_ok ft
        have ho1 : FloatKind.f64.format.order d tol = some .lt ∨ FloatKind.f64.format.order d tol = some .eq := by
          rcases tri (fv d) (fv tol) with h | h | h
          · exact .inl (ord_lt fd ft h)
          · exact .inr (ord_eq fd ft h)
          · grind
        have ho2 : FloatKind.f64.format.order d (Op.negFloat .f64 tol) = some .gt ∨ FloatKind.f64.format.order d (Op.negFloat .f64 tol) = some .eq := by
          rcases tri (fv d) (fv (Op.negFloat .f64 tol)) with h | h | h
          · rw [ent] at h; grind
          · exact .inr (ord_eq fd fnt h)
          · exact .inl (ord_gt fd fnt h)
        clear ham ho q5 q6 ft t1 t2 fnt ent fd
        rcases ho1 with h1 | h1 <;> rcases ho2 with h2 | h2
        all_goals
          go_wp2
          go_ret
          exact ⟨rfl, hbz.out⟩
    | false =>
      go_wp2_with fail
      refine HC.out.mono ?_
      rintro e w2 ⟨got, rfl, hres, hb2⟩
      obtain ⟨fg, eg⟩ := HF.out rfl got hres
      have hord := ord_eq fg fin_zero (by rw [eg, fv_zero])
      have hbz := Lib.hid (hbw.trans (hb2.mono hbw.size))
      clear hres hb2 HF HT HC fg eg
      go_wp2
      go_ret
      exact ⟨rfl, hbz.out⟩
end Go.Proofs.Qxb6605538a.fl

