/-
  'FnParallelSlopeModel': the law's own sums (its loop over the groups).
-/
import Derived.Test.Qxb6605538aWk
import Derived.Test.Qxb6605538aGb
namespace Go.Proofs.Qxb6605538a.fl
open Go.ChangeShapes Go.WideShapes Go.RowKit

theorem fP_zero {g : Gr} (h : g.c = 0) : fP g = Pl pw px py g.ps := by unfold fP gP; rw [h]; grind
theorem fS_zero {g : Gr} (h : g.c = 0) : fS g = Pl pw px px g.ps := by unfold fS gS; rw [h]; grind
theorem f_one {g : Gr} (h : g.c = 1) : fP g = 0 ∧ fS g = 0 := by unfold fP fS; rw [h]; constructor <;> grind
theorem ic_zero {g : Gr} (h : g.c = 0) : ic g = 0 := by unfold ic; rw [h]; rfl
theorem ic_one {g : Gr} (h : g.c = 1) : ic g = 1 := by unfold ic; rw [h]; rfl
theorem spread_step {gs : List Gr} {k : Nat} {b ok : Bool} (ho : AccOk fP fS gs) (hk : k < gs.length) (hb : b = true ↔ 0 < Sm fS (gs.take k)) (hok : ok = true ↔ 0 < fS gs[k]) : (b || ok) = true ↔ 0 < Sm fS (gs.take (k + 1)) := by
  rw [Sm_take _ _ _ hk, Bool.or_eq_true, hb, hok]
  have h1 : 0 ≤ Sm fS (gs.take k) := Sm_nonneg fun g hg => ho.S0 g (List.mem_of_mem_take hg)
  have h2 := ho.S0 _ (List.getElem_mem hk)
  constructor
  · rintro (h | h) <;> grind
  · intro h
    by_cases h3 : 0 < Sm fS (gs.take k)
    · exact .inl h3
    · right; grind
theorem spread_skip {gs : List Gr} {k : Nat} {b : Bool} (hk : k < gs.length) (hb : b = true ↔ 0 < Sm fS (gs.take k)) (hz : fS gs[k] = 0) : b = true ↔ 0 < Sm fS (gs.take (k + 1)) := by
  rw [Sm_take _ _ _ hk, hz, show Sm fS (gs.take k) + 0 = Sm fS (gs.take k) by grind]; exact hb
theorem pz_skip {gs : List Gr} {k : Nat} (hk : k < gs.length) (hc : (gs[k]).c = 0) : PZ iw (gs.take (k + 1)) = PZ iw (gs.take k) ∧ PZ i1 (gs.take (k + 1)) = PZ i1 (gs.take k) ∧ PZ i2 (gs.take (k + 1)) = PZ i2 (gs.take k) ∧
    PZ i3 (gs.take (k + 1)) = PZ i3 (gs.take k) ∧ PZ i4 (gs.take (k + 1)) = PZ i4 (gs.take k) := by
  refine ⟨?_, ?_, ?_, ?_, ?_⟩ <;> rw [PZ_take _ _ _ hk, ic_zero hc, Int.zero_mul, Int.add_zero]
theorem pz_add {gs : List Gr} {k : Nat} (hk : k < gs.length) (hc : (gs[k]).c = 1) (f : Pt → Int) : PZ f (gs.take (k + 1)) = PZ f (gs.take k) + Zs f (gs[k]).ps := by
  rw [PZ_take _ _ _ hk, ic_one hc, Int.one_mul]

/-- the sums of the first k points, and their bounds -/
theorem zs_bounds {ps : List Pt} (h : ∀ p, p ∈ ps → GPt p) (hl : ps.length ≤ 4096) (k : Nat) : (Zs iw (ps.take k)).natAbs ≤ 1048576 ∧ (Zs i1 (ps.take k)).natAbs ≤ 1073741824 ∧ (Zs i2 (ps.take k)).natAbs ≤ 1073741824 ∧
    (Zs i3 (ps.take k)).natAbs ≤ 1099511627776 ∧ (Zs i4 (ps.take k)).natAbs ≤ 1099511627776 := by
  have hlen : (ps.take k).length ≤ 4096 := by rw [List.length_take]; omega
  have hb : ∀ p, p ∈ ps.take k → _ := fun p hp => (h p (List.mem_of_mem_take hp)).bounds
  have b0 := Zs_le (f := iw) fun p hp => (hb p hp).1
  have b1 := Zs_le (f := i1) fun p hp => (hb p hp).2.1
  have b2 := Zs_le (f := i2) fun p hp => (hb p hp).2.2.1
  have b3 := Zs_le (f := i3) fun p hp => (hb p hp).2.2.2.1
  have b4 := Zs_le (f := i4) fun p hp => (hb p hp).2.2.2.2
  omega
theorem pz_bounds {gs : List Gr} (h : ∀ g, g ∈ gs → GrOk g) (ht : tot_len gs ≤ 4096) (k : Nat) : (PZ iw (gs.take k)).natAbs ≤ 1048576 ∧ (PZ i1 (gs.take k)).natAbs ≤ 1073741824 ∧ (PZ i2 (gs.take k)).natAbs ≤ 1073741824 ∧
    (PZ i3 (gs.take k)).natAbs ≤ 1099511627776 ∧ (PZ i4 (gs.take k)).natAbs ≤ 1099511627776 := by
  have hb : ∀ g, g ∈ gs → ∀ p, p ∈ g.ps → _ := fun g hg p hp => ((h g hg).hp p hp).bounds
  exact ⟨PZ_bound h (fun g hg p hp => (hb g hg p hp).1) ht k, PZ_bound h (fun g hg p hp => (hb g hg p hp).2.1) ht k, PZ_bound h (fun g hg p hp => (hb g hg p hp).2.2.1) ht k, PZ_bound h (fun g hg p hp => (hb g hg p hp).2.2.2.1) ht k, PZ_bound h (fun g hg p hp => (hb g hg p hp).2.2.2.2) ht k⟩

theorem fin_one : Fin 4607182418800017408 := by unfold Fin; exact ⟨_, _, _, rfl⟩
theorem fv_one : fv 4607182418800017408 = 1 := by decide +kernel

theorem pt_ints {a b c : Nat} (h : GPt (a, b, c)) : (∀ w, (convert 24 2 (.float .f64 c)).run Try.prog w = .ok (.int .i64 (iv c)) w) ∧ (∀ w, (convert 24 2 (.float .f64 a)).run Try.prog w = .ok (.int .i64 (iv a)) w) ∧ (∀ w, (convert 24 2 (.float .f64 b)).run Try.prog w = .ok (.int .i64 (iv b)) w) := by
  obtain ⟨f1, f2, f3, j1, j2, j3, g1, g2, g3, g4⟩ := h
  replace g3 : 0 ≤ fv c := g3
  replace g4 : fv c ≤ 256 := g4
  replace g1 : ab (fv a) ≤ 1024 := g1
  replace g2 : ab (fv b) ≤ 1024 := g2
  exact ⟨run_toInt _ _ (toInt_of f3 j3 (by rw [ab_of_nonneg g3]; grind)), run_toInt _ _ (toInt_of f1 j1 (by grind)), run_toInt _ _ (toInt_of f2 j2 (by grind))⟩
/-- what the law knows of 'pooled' -/
def Pooled (w : World) (d3 : Option Addr) (e3 : Nat) (cs : List Nat) (gs : List Gr) : Prop :=
  (d3 = none ∧ ∀ g, g ∈ gs → g.c = 0) ∨
  (∃ a, d3 = some a ∧ FSrc w.heap.size w (.slice (some a) cs.length e3) cs ∧ gs.length ≤ cs.length ∧ ∀ k (h : k < gs.length) (h' : k < cs.length), Fin cs[k] ∧ (gs[k]).c = fv cs[k])

set_option maxRecDepth 1000000 in
set_option maxHeartbeats 16000000 in
theorem law_f (z4 z5 z6 z7 z8 z9 z10 z11 z12 z13 z14 z15 z16 z17 z26 z27 z28 z29 z30 z31 z32 z33 z34 z35 z36 z37 z38 z39 z40 z41 z42 z43 z44 z45 z46 z47 z48 z49 z50 z51 z52 z53 z54 z55 z56 z57 z58 z59 z60 z61 z62 z63 z64 z65 z66 z67 z68 z69 z70 z71 z72 z73 z74 z75 z76 z77 z78 z79 z80 z81 z82 z83 z84 z85 z86 z87 z88 z89 z90 z91 z92 z93 z94 z95 z96 z97 z98 z99 z100 z101 z102 z103 z104 z105 z106 z107 z108 z109 z110 z111 z112 z113 z114 z115 z116 z117 z118 z119 z120 z121 z122 z123 z124 z125 z126 z127 z128 z129 z130 z131 z132 z133 z134 z135 z136 z137 z138 z139 z140 z141 z142 z143 z144 z145 z146 z147 z148 z149 z150 z151 z152 z153 z154 z155 z156 z157 z158 z159 z160 z161 z162 z163 z164 z165 z166 z167 z168 z169 z170 z171 z172 z173 z174 z175 z176 z177 z178 z179 z180 z181 z182 z183 z184 z185 z186 z187 z188 z189 z190 z191 z192 z193 z194 z195 z196 z197 z198 z199 z200 z201 z202 z203 z204 z205 z206 z207 z208 z209 z210 z211 z212 z213 z214 z215 z216 z217 z218 z219 z220 z221 z222 z223 z224 z225 z226 z227 z228 z229 z230 z231 z232 z233 z234 z235 z236 z237 z238 z239 z240 z241 z242 z243 z244 z245 z246 z247 z248 z249 z250 z251 z252 z253 z254 z255 z256 z257 z258 z259 z260 z261 z262 z263 z264 z265 z266 z267 z268 z269 z270 z271 z272 z273 z274 z275 z276 z277 z278 z279 z280 z281 z282 z283 z284 z285 z286 z287 z288 z289 z290 z291 z292 z293 z294 z295 z296 z297 z298 z299 z300 z301 z302 z303 z304 z305 z306 z307 z308 z309 z310 z311 z312 z313 z314 z315 z316 z317 z318 z319 z320 z321 z322 z323 z324 z325 z326 z327 z328 z329 z330 z331 z332 z333 z334 z335 z336 z337 z338 z339 z340 z341 z342 z343 z344 z345 z346 z347 z348 z349 z350 z351 z352 z353 z354 z355 z356 z357 z358 z359 z360 z361 z362 z363 z364 z365 z366 z367 z368 z369 z370 z371 z372 z373 z374 z375 z376 z377 z378 z379 z380 z381 z382 z383 z384 z385 z386 z387 z388 z389 z390 z391 z392 z393 z394 z395 z396 z397 z398 z399 z400 z401 z402 z403 z404 z405 z406 z407 z408 z409 z410 z411 z412 z413 z414 z415 z416 z417 : Value) (d0 d1 d2 d3 : Option Addr) (e0 e1 e2 e3 n : Nat) (xss yss zss : List (List Nat)) (cs : List Nat) (gs : List Gr) (w0 w : World)
    (hr : Rows3 w.heap.size w (.slice d0 n e0) (.slice d1 n e1) (.slice d2 n e2) xss yss zss) (hn : n = gs.length) (hx : xss.length = gs.length)
    (hg : ∀ k (a : k < xss.length) (b : k < yss.length) (c : k < zss.length) (d : k < gs.length), (gs[k]).ps = z3 xss[k] yss[k] zss[k])
    (hpo : Pooled w d3 e3 cs gs) (_hcl : cs.length ≤ 4096)
    (h : ∀ g, g ∈ gs → GrOk g) (hl : gs.length ≤ 4096) (ht : tot_len gs ≤ 4096) (hV : Sm (fun q => q.1 * s0 pw q.2) (gs.map key) ≤ 1048576) (hbw : Below w0.heap.size w0 w)
    (hcall : Calls Try.prog 17 #[.slice d0 n e0, .slice d1 n e1, .slice d2 n e2, .slice d3 cs.length e3] w fun e w' => ∃ r, e = .returned (.float .f64 r) ∧ SlopeRes (gs.map key) r ∧ Below w.heap.size w w') :
    Code.wp Try.prog (dropSeq 18 (Try.f5.body.getD .skip)) (bodyPost Try.prog Try.f5 (Post w0)) ⟨#[.slice d0 n e0, .slice d1 n e1, .slice d2 n e2, .slice d3 cs.length e3, z4, z5, z6, z7, z8, z9, z10, z11, z12, z13, z14, z15, z16, z17, .float .f64 0, .float .f64 0, .bool false, .int .i64 0, .int .i64 0, .int .i64 0, .int .i64 0, .int .i64 0, z26, z27, z28, z29, z30, z31, z32, z33, z34, z35, z36, z37, z38, z39, z40, z41, z42, z43, z44, z45, z46, z47, z48, z49, z50, z51, z52, z53, z54, z55, z56, z57, z58, z59, z60, z61, z62, z63, z64, z65, z66, z67, z68, z69, z70, z71, z72, z73, z74, z75, z76, z77, z78, z79, z80, z81, z82, z83, z84, z85, z86, z87, z88, z89, z90, z91, z92, z93, z94, z95, z96, z97, z98, z99, z100, z101, z102, z103, z104, z105, z106, z107, z108, z109, z110, z111, z112, z113, z114, z115, z116, z117, z118, z119, z120, z121, z122, z123, z124, z125, z126, z127, z128, z129, z130, z131, z132, z133, z134, z135, z136, z137, z138, z139, z140, z141, z142, z143, z144, z145, z146, z147, z148, z149, z150, z151, z152, z153, z154, z155, z156, z157, z158, z159, z160, z161, z162, z163, z164, z165, z166, z167, z168, z169, z170, z171, z172, z173, z174, z175, z176, z177, z178, z179, z180, z181, z182, z183, z184, z185, z186, z187, z188, z189, z190, z191, z192, z193, z194, z195, z196, z197, z198, z199, z200, z201, z202, z203, z204, z205, z206, z207, z208, z209, z210, z211, z212, z213, z214, z215, z216, z217, z218, z219, z220, z221, z222, z223, z224, z225, z226, z227, z228, z229, z230, z231, z232, z233, z234, z235, z236, z237, z238, z239, z240, z241, z242, z243, z244, z245, z246, z247, z248, z249, z250, z251, z252, z253, z254, z255, z256, z257, z258, z259, z260, z261, z262, z263, z264, z265, z266, z267, z268, z269, z270, z271, z272, z273, z274, z275, z276, z277, z278, z279, z280, z281, z282, z283, z284, z285, z286, z287, z288, z289, z290, z291, z292, z293, z294, z295, z296, z297, z298, z299, z300, z301, z302, z303, z304, z305, z306, z307, z308, z309, z310, z311, z312, z313, z314, z315, z316, z317, z318, z319, z320, z321, z322, z323, z324, z325, z326, z327, z328, z329, z330, z331, z332, z333, z334, z335, z336, z337, z338, z339, z340, z341, z342, z343, z344, z345, z346, z347, z348, z349, z350, z351, z352, z353, z354, z355, z356, z357, z358, z359, z360, z361, z362, z363, z364, z365, z366, z367, z368, z369, z370, z371, z372, z373, z374, z375, z376, z377, z378, z379, z380, z381, z382, z383, z384, z385, z386, z387, z388, z389, z390, z391, z392, z393, z394, z395, z396, z397, z398, z399, z400, z401, z402, z403, z404, z405, z406, z407, z408, z409, z410, z411, z412, z413, z414, z415, z416, z417], []⟩ w := by
  have HR := Lib.hid hr
  have HX := Lib.hid hx
  have HG := Lib.hid hg
  have HPO := Lib.hid hpo
  have HH := Lib.hid h
  have HV := Lib.hid hV
  have HT := Lib.hid ht
  have HC := Lib.hid hcall
  have HO := Lib.hid (free_acc h hl)
  subst hn
  clear hr hx hg hpo h hV ht hcall
  conv => arg 2; whnf
  go_upto_block 12 with fail
  go_cut [18, 19, 20, 21, 22, 23, 24, 25] (fun sp ss sb m0 m1 m2 m3 m4 W => ∃ P S : Nat, ∃ b : Bool, sp = .float .f64 P ∧ ss = .float .f64 S ∧ sb = .bool b ∧ m0 = .int .i64 (PZ iw gs) ∧ m1 = .int .i64 (PZ i1 gs) ∧ m2 = .int .i64 (PZ i2 gs) ∧ m3 = .int .i64 (PZ i3 gs) ∧ m4 = .int .i64 (PZ i4 gs) ∧ Hid (AccRel fP fS gs gs.length P S) ∧ Hid (b = true ↔ 0 < Sm fS gs) ∧ W = w)
  case rest =>
    rename_i hK
    obtain ⟨P, S, b, rfl, rfl, rfl, rfl, rfl, rfl, rfl, rfl, HA, HB, hW⟩ := hcut
    replace hW := hW.symm
    subst hW
    apply hK
    exact law_g _ _ _ _ _ _ _ _ _ _ _ _ _ _ _ _ _ _ _ _ _ _ _ _ _ _ _ _ _ _ _ _ _ _ _ _ _ _ _ _ _ _ _ _ _ _ _ _ _ _ _ _ _ _ _ _ _ _ _ _ _ _ _ _ _ _ _ _ _ _ _ _ _ _ _ _ _ _ _ _ _ _ _ _ _ _ _ _ _ _ _ _ _ _ _ _ _ _ _ _ _ _ _ _ _ _ _ _ _ _ _ _ _ _ _ _ _ _ _ _ _ _ _ _ _ _ _ _ _ _ _ _ _ _ _ _ _ _ _ _ _ _ _ _ _ _ _ _ _ _ _ _ _ _ _ _ _ _ _ _ _ _ _ _ _ _ _ _ _ _ _ _ _ _ _ _ _ _ _ _ _ _ _ _ _ _ _ _ _ _ _ _ _ _ _ _ _ _ _ _ _ _ _ _ _ _ _ _ _ _ _ _ _ _ _ _ _ _ _ _ _ _ _ _ _ _ _ _ _ _ _ _ _ _ _ _ _ _ _ _ _ _ _ _ _ _ _ _ _ _ _ _ _ _ _ _ _ _ _ _ _ _ _ _ _ _ _ _ _ _ _ _ _ _ _ _ _ _ _ _ _ _ _ _ _ _ _ _ _ _ _ _ _ _ _ _ _ _ _ _ _ _ _ _ _ _ _ _ _ _ _ _ _ _ _ _ _ _ _ _ _ _ _ _ _ _ _ _ _ _ _ _ _ _ _ _ _ _ _ _ _ _ _ _ _ _ _ _ _ _ _ _ _ _ _ _ _ _ _ _ _ _ _ _ _ _ _ _ _ _ _ _ _ _ _ _ _ _ _ _ _ _ _ _ _ _ _ _ _ _ _ _ _ _ _ _ _ _ _ _ _ _ _ _ _ _ _ _ _ _ P S b _ _ _ _ _ gs w0 w HH.out hl HV.out HA.out HB.out (pool_line HH.out (pool_le rfl HV.out)) hbw HC.out
  case first =>
    go_wp2_with fail

    go_loopw [18, 19, 20, 21, 22, 23, 24, 25, 26] (fun sp ss sb m0 m1 m2 m3 m4 i W => ∃ k P S : Nat, ∃ b : Bool, k ≤ gs.length ∧ sp = .float .f64 P ∧ ss = .float .f64 S ∧ sb = .bool b ∧ m0 = .int .i64 (PZ iw (gs.take k)) ∧ m1 = .int .i64 (PZ i1 (gs.take k)) ∧ m2 = .int .i64 (PZ i2 (gs.take k)) ∧ m3 = .int .i64 (PZ i3 (gs.take k)) ∧ m4 = .int .i64 (PZ i4 (gs.take k)) ∧ i = .int .i64 k ∧ Hid (AccRel fP fS gs k P S) ∧ Hid (b = true ↔ 0 < Sm fS (gs.take k)) ∧ W = w) (fun _ _ _ _ _ _ _ _ i _ => gs.length - (intOf i).toNat)
    case atStart => exact ⟨0, 0, 0, false, by omega, rfl, rfl, rfl, rfl, rfl, rfl, rfl, rfl, rfl, Lib.hid (acc_zero _ _ _), Lib.hid (by rw [List.take_zero, Sm_nil]; simp), rfl⟩
    case round =>
      obtain ⟨k, P, S, b, hk, rfl, rfl, rfl, rfl, rfl, rfl, rfl, rfl, rfl, HA, HB, hW⟩ := hrel
      replace hW := hW.symm
      subst hW
      by_cases hlt : k < gs.length
      · have hr := HR.out
        have hxg := HX.out
        have kx : k < xss.length := by omega
        have ky : k < yss.length := by rw [hr.e1]; exact kx
        have kz : k < zss.length := by rw [hr.e2]; exact kx
        obtain ⟨b0, o0, x0, y0, eb, _, hc0, hf0⟩ := hr.h0.at (Below.refl _ _) kx
        cases eb
        obtain ⟨b1, o1, x1, y1, eb, _, hc1, hf1⟩ := hr.h1.at (Below.refl _ _) ky
        cases eb
        obtain ⟨b2, o2, x2, y2, eb, _, hc2, hf2⟩ := hr.h2.at (Below.refl _ _) kz
        cases eb
        rw [hr.f1 k kx ky] at hc1 hf1
        rw [hr.f2 k kx kz] at hc2 hf2
        have hll := hr.l1 k kx
        have hgk := HG.out k kx ky kz hlt
        have eY := hr.f1 k kx ky
        have eZ := hr.f2 k kx kz
        obtain ⟨X, hX⟩ : ∃ l, l = xss[k] := ⟨_, rfl⟩
        obtain ⟨Y, hY⟩ : ∃ l, l = yss[k] := ⟨_, rfl⟩
        obtain ⟨Z, hZ⟩ : ∃ l, l = zss[k] := ⟨_, rfl⟩
        rw [← hX] at hc0 hf0 hc1 hf1 hc2 hf2 hll eY eZ hgk
        rw [← hY] at hf1 eY hgk
        rw [← hZ] at hf2 eZ hgk
        have hok := HH.out _ (List.getElem_mem hlt)
        obtain ⟨ps, hps⟩ : ∃ l, l = (gs[k]).ps := ⟨_, rfl⟩
        have HPS := Lib.hid hps
        have HZ3 : Hid (ps = z3 X Y Z) := Lib.hid (by rw [hps]; exact hgk)
        have HPL : Hid (ps.length = X.length) := Lib.hid (by rw [HZ3.out]; exact z3_len eY eZ)
        have HGP : Hid (∀ p, p ∈ ps → GPt p) := Lib.hid (by rw [hps]; exact hok.hp)
        have F0 := Lib.hid hf0
        have F1 := Lib.hid hf1
        have F2 := Lib.hid hf2
        have EY := Lib.hid eY
        have EZ := Lib.hid eZ
        have HCC := Lib.hid hok.hc
        obtain ⟨B0, B1, B2, B3, B4⟩ := pz_bounds HH.out HT.out k
        obtain ⟨M0, e0⟩ : ∃ z, z = PZ iw (gs.take k) := ⟨_, rfl⟩
        obtain ⟨M1, e1⟩ : ∃ z, z = PZ i1 (gs.take k) := ⟨_, rfl⟩
        obtain ⟨M2, e2⟩ : ∃ z, z = PZ i2 (gs.take k) := ⟨_, rfl⟩
        obtain ⟨M3, e3⟩ : ∃ z, z = PZ i3 (gs.take k) := ⟨_, rfl⟩
        obtain ⟨M4, e4⟩ : ∃ z, z = PZ i4 (gs.take k) := ⟨_, rfl⟩
        rw [← e0] at B0 ⊢
        rw [← e1] at B1 ⊢
        rw [← e2] at B2 ⊢
        rw [← e3] at B3 ⊢
        rw [← e4] at B4 ⊢
        have E0 := Lib.hid e0
        have E1 := Lib.hid e1
        have E2 := Lib.hid e2
        have E3 := Lib.hid e3
        have E4 := Lib.hid e4
        clear hr hxg hX hY hZ eY eZ hgk hf0 hf1 hf2 hok hps kx ky kz e0 e1 e2 e3 e4
        go_wp2_with fail
        go_loopw [27, 28, 29, 30, 31, 32] (fun a0 a1 a2 a3 a4 j W => ∃ i : Nat, i ≤ X.length ∧ a0 = .int .i64 (Zs iw (ps.take i)) ∧ a1 = .int .i64 (Zs i1 (ps.take i)) ∧ a2 = .int .i64 (Zs i2 (ps.take i)) ∧ a3 = .int .i64 (Zs i3 (ps.take i)) ∧ a4 = .int .i64 (Zs i4 (ps.take i)) ∧ j = .int .i64 i ∧ W = w) (fun _ _ _ _ _ j _ => X.length - (intOf j).toNat)
        case atStart => exact ⟨0, by omega, rfl, rfl, rfl, rfl, rfl, rfl, rfl⟩
        case round =>
          obtain ⟨i, hi, rfl, rfl, rfl, rfl, rfl, rfl, hW⟩ := hrel
          replace hW := hW.symm
          subst hW
          obtain ⟨C0, C1, C2, C3, C4⟩ := zs_bounds HGP.out (by rw [HPL.out]; exact hll) i
          by_cases hli : i < X.length
          · have ki : i < ps.length := by rw [HPL.out]; exact hli
            have hy : i < Y.length := by rw [EY.out]; exact hli
            have hz : i < Z.length := by rw [EZ.out]; exact hli
            obtain ⟨p0, q0, eb, _, d0⟩ := F0.out.at (Below.refl _ _) hli
            cases eb
            obtain ⟨p1, q1, eb, _, d1⟩ := F1.out.at (Below.refl _ _) hy
            cases eb
            obtain ⟨p2, q2, eb, _, d2⟩ := F2.out.at (Below.refl _ _) hz
            cases eb
            have hpi : ps[i] = (X[i], Y[i], Z[i]) := by
              have e := HZ3.out
              subst e
              exact z3_get _ _ _ _
            have gp := HGP.out _ (List.getElem_mem ki)
            rw [hpi] at gp
            obtain ⟨s0, s1, s2⟩ : (iv Z[i]).natAbs ≤ 256 ∧ (iv X[i]).natAbs ≤ 1024 ∧ (iv Y[i]).natAbs ≤ 1024 := gp.small
            have n0 : Zs iw (ps.take (i + 1)) = Zs iw (ps.take i) + iv Z[i] := by rw [Zs_take _ _ _ ki, hpi]; rfl
            have n1 : Zs i1 (ps.take (i + 1)) = Zs i1 (ps.take i) + iv Z[i] * iv X[i] := by rw [Zs_take _ _ _ ki, hpi]; rfl
            have n2 : Zs i2 (ps.take (i + 1)) = Zs i2 (ps.take i) + iv Z[i] * iv Y[i] := by rw [Zs_take _ _ _ ki, hpi]; rfl
            have n3 : Zs i3 (ps.take (i + 1)) = Zs i3 (ps.take i) + iv Z[i] * iv X[i] * iv X[i] := by rw [Zs_take _ _ _ ki, hpi]; rfl
            have n4 : Zs i4 (ps.take (i + 1)) = Zs i4 (ps.take i) + iv Z[i] * iv X[i] * iv Y[i] := by rw [Zs_take _ _ _ ki, hpi]; rfl
            obtain ⟨t0, t1, t2⟩ := pt_ints gp
            obtain ⟨xb, hxb⟩ : ∃ l, l = X[i] := ⟨_, rfl⟩
            obtain ⟨yb, hyb⟩ : ∃ l, l = Y[i] := ⟨_, rfl⟩
            obtain ⟨zb, hzb⟩ : ∃ l, l = Z[i] := ⟨_, rfl⟩
            rw [← hxb] at d0 s1 n1 n3 n4 t1
            rw [← hyb] at d1 s2 n2 n4 t2
            rw [← hzb] at d2 s0 n0 n1 n2 n3 n4 t0
            obtain ⟨iz, hiz⟩ : ∃ l, l = iv zb := ⟨_, rfl⟩
            obtain ⟨jx, hjx⟩ : ∃ l, l = iv xb := ⟨_, rfl⟩
            obtain ⟨jy, hjy⟩ : ∃ l, l = iv yb := ⟨_, rfl⟩
            rw [← hiz] at s0 n0 n1 n2 n3 n4 t0
            rw [← hjx] at s1 n1 n3 n4 t1
            rw [← hjy] at s2 n2 n4 t2
            obtain ⟨A0, a0⟩ : ∃ z, z = Zs iw (ps.take i) := ⟨_, rfl⟩
            obtain ⟨A1, a1⟩ : ∃ z, z = Zs i1 (ps.take i) := ⟨_, rfl⟩
            obtain ⟨A2, a2⟩ : ∃ z, z = Zs i2 (ps.take i) := ⟨_, rfl⟩
            obtain ⟨A3, a3⟩ : ∃ z, z = Zs i3 (ps.take i) := ⟨_, rfl⟩
            obtain ⟨A4, a4⟩ : ∃ z, z = Zs i4 (ps.take i) := ⟨_, rfl⟩
            rw [← a0] at n0 C0 ⊢
            rw [← a1] at n1 C1 ⊢
            rw [← a2] at n2 C2 ⊢
            rw [← a3] at n3 C3 ⊢
            rw [← a4] at n4 C4 ⊢
            have N0 := Lib.hid n0
            have N1 := Lib.hid n1
            have N2 := Lib.hid n2
            have N3 := Lib.hid n3
            have N4 := Lib.hid n4
            have u1 : (iz * jx).natAbs ≤ 262144 := by rw [Int.natAbs_mul]; exact Nat.mul_le_mul s0 s1
            have u2 : (iz * jy).natAbs ≤ 262144 := by rw [Int.natAbs_mul]; exact Nat.mul_le_mul s0 s2
            have u3 : (iz * jx * jx).natAbs ≤ 268435456 := by rw [Int.natAbs_mul]; exact Nat.mul_le_mul u1 s1
            have u4 : (iz * jx * jy).natAbs ≤ 268435456 := by rw [Int.natAbs_mul]; exact Nat.mul_le_mul u1 s2
            clear n0 n1 n2 n3 n4 gp hpi hxb hyb hzb hiz hjx hjy a0 a1 a2 a3 a4 ki hy hz s1 s2 B0 B1 B2 B3 B4
            go_wp2
            go_roundw
            case rel => exact ⟨i + 1, by omega, by rw [N0.out], by rw [N1.out], by rw [N2.out], by rw [N3.out], by rw [N4.out], by go_num, by trivial⟩
            case measure => simp [intOf]; omega
          · have tk : ps.take i = ps := List.take_of_length_le (by rw [HPL.out]; omega)
            rw [tk] at C0 C1 C2 C3 C4 ⊢
            have hL := line_of HGP.out (by rw [HPL.out]; exact hll)
            obtain ⟨A0, a0⟩ : ∃ z, z = Zs iw ps := ⟨_, rfl⟩
            obtain ⟨A1, a1⟩ : ∃ z, z = Zs i1 ps := ⟨_, rfl⟩
            obtain ⟨A2, a2⟩ : ∃ z, z = Zs i2 ps := ⟨_, rfl⟩
            obtain ⟨A3, a3⟩ : ∃ z, z = Zs i3 ps := ⟨_, rfl⟩
            obtain ⟨A4, a4⟩ : ∃ z, z = Zs i4 ps := ⟨_, rfl⟩
            rw [← a0] at hL C0 ⊢
            rw [← a1] at hL C1 ⊢
            rw [← a2] at hL C2 ⊢
            rw [← a3] at hL C3 ⊢
            rw [← a4] at hL C4 ⊢
            have HL : Hid (LineIn pw px py (gs[k]).ps A0 A1 A2 A3 A4) := Lib.hid (by rw [← HPS.out]; exact hL)
            have D0 : Hid (A0 = Zs iw (gs[k]).ps) := Lib.hid (by rw [← HPS.out]; exact a0)
            have D1 : Hid (A1 = Zs i1 (gs[k]).ps) := Lib.hid (by rw [← HPS.out]; exact a1)
            have D2 : Hid (A2 = Zs i2 (gs[k]).ps) := Lib.hid (by rw [← HPS.out]; exact a2)
            have D3 : Hid (A3 = Zs i3 (gs[k]).ps) := Lib.hid (by rw [← HPS.out]; exact a3)
            have D4 : Hid (A4 = Zs i4 (gs[k]).ps) := Lib.hid (by rw [← HPS.out]; exact a4)
            clear tk hL a0 a1 a2 a3 a4
            rcases HPO.out with ⟨hd, hc⟩ | ⟨a, hd, hfs, hcln, hcs⟩
            · subst hd
              have hc0 := hc _ (List.getElem_mem hlt)
              clear hc
              -- the group's own line
              go_wp2_with fail
              refine (psLine_ok HL.out w).mono ?_
              rintro e w1 ⟨p, s, ok, rfl, hw1, hok⟩
              replace hw1 := hw1.symm
              subst hw1
              obtain ⟨P', S', q1, q2, hA'⟩ := acc_step HO.out hlt HA.out hok.fp hok.fs (by rw [fP_zero hc0, fS_zero hc0]; exact hok.np) (by rw [fS_zero hc0]; exact hok.ns)
              have hB' := spread_step HO.out hlt HB.out (show ok = true ↔ 0 < fS gs[k] by rw [fS_zero hc0]; exact hok.hb)
              have o1 := run_op .add _ _ P' q1
              have o2 := run_op .add _ _ S' q2
              have HA' := Lib.hid hA'
              have HB' := Lib.hid hB'
              have EM := Lib.hid (pz_skip hlt hc0)
              clear hok q1 q2 hA' hB' HA HB HL HX
              cases b with
              | true =>
                go_wp2
                go_roundw
                case rel => exact ⟨k + 1, P', S', true, by omega, rfl, rfl, rfl, by rw [EM.out.1, ← E0.out], by rw [EM.out.2.1, ← E1.out], by rw [EM.out.2.2.1, ← E2.out], by rw [EM.out.2.2.2.1, ← E3.out], by rw [EM.out.2.2.2.2, ← E4.out], by go_num, HA', by simpa using HB', by trivial⟩
                case measure => simp [intOf]; omega
              | false =>
                go_wp2
                go_roundw
                case rel => exact ⟨k + 1, P', S', ok, by omega, rfl, rfl, rfl, by rw [EM.out.1, ← E0.out], by rw [EM.out.2.1, ← E1.out], by rw [EM.out.2.2.1, ← E2.out], by rw [EM.out.2.2.2.1, ← E3.out], by rw [EM.out.2.2.2.2, ← E4.out], by go_num, HA', by simpa using HB', by trivial⟩
                case measure => simp [intOf]; omega
            · subst hd
              have hkc : k < cs.length := by omega
              obtain ⟨b3, o3, eb, _, dd3⟩ := hfs.at (Below.refl _ _) hkc
              cases eb
              obtain ⟨fc, ec⟩ := hcs k hlt hkc
              have hcc := HCC.out
              obtain ⟨pc, hpc⟩ : ∃ l, l = cs[k] := ⟨_, rfl⟩
              rw [← hpc] at dd3 fc ec
              clear hpc hcs hfs hkc
              rcases hcc with hc0 | hc1
              · have hord := ord_lt fc fin_one (by rw [← ec, hc0, fv_one]; decide +kernel)
                clear ec fc
                -- the group's own line
                go_wp2_with fail
                refine (psLine_ok HL.out w).mono ?_
                rintro e w1 ⟨p, s, ok, rfl, hw1, hok⟩
                replace hw1 := hw1.symm
                subst hw1
                obtain ⟨P', S', q1, q2, hA'⟩ := acc_step HO.out hlt HA.out hok.fp hok.fs (by rw [fP_zero hc0, fS_zero hc0]; exact hok.np) (by rw [fS_zero hc0]; exact hok.ns)
                have hB' := spread_step HO.out hlt HB.out (show ok = true ↔ 0 < fS gs[k] by rw [fS_zero hc0]; exact hok.hb)
                have o1 := run_op .add _ _ P' q1
                have o2 := run_op .add _ _ S' q2
                have HA' := Lib.hid hA'
                have HB' := Lib.hid hB'
                have EM := Lib.hid (pz_skip hlt hc0)
                clear hok q1 q2 hA' hB' HA HB HL HX
                cases b with
                | true =>
                  go_wp2
                  go_roundw
                  case rel => exact ⟨k + 1, P', S', true, by omega, rfl, rfl, rfl, by rw [EM.out.1, ← E0.out], by rw [EM.out.2.1, ← E1.out], by rw [EM.out.2.2.1, ← E2.out], by rw [EM.out.2.2.2.1, ← E3.out], by rw [EM.out.2.2.2.2, ← E4.out], by go_num, HA', by simpa using HB', by trivial⟩
                  case measure => simp [intOf]; omega
                | false =>
                  go_wp2
                  go_roundw
                  case rel => exact ⟨k + 1, P', S', ok, by omega, rfl, rfl, rfl, by rw [EM.out.1, ← E0.out], by rw [EM.out.2.1, ← E1.out], by rw [EM.out.2.2.1, ← E2.out], by rw [EM.out.2.2.2.1, ← E3.out], by rw [EM.out.2.2.2.2, ← E4.out], by go_num, HA', by simpa using HB', by trivial⟩
                  case measure => simp [intOf]; omega
              · have hord := ord_eq fc fin_one (by rw [← ec, hc1, fv_one])
                have HA' := Lib.hid (acc_skip HO.out hlt HA.out (f_one hc1).1 (f_one hc1).2)
                have HB' := Lib.hid (spread_skip hlt HB.out (f_one hc1).2)
                have V0 := Lib.hid (pz_add hlt hc1 iw)
                have V1 := Lib.hid (pz_add hlt hc1 i1)
                have V2 := Lib.hid (pz_add hlt hc1 i2)
                have V3 := Lib.hid (pz_add hlt hc1 i3)
                have V4 := Lib.hid (pz_add hlt hc1 i4)
                clear ec fc hc1
                go_wp2
                go_roundw
                case rel => exact ⟨k + 1, P, S, b, by omega, rfl, rfl, rfl, by rw [V0.out, ← E0.out, ← D0.out], by rw [V1.out, ← E1.out, ← D1.out], by rw [V2.out, ← E2.out, ← D2.out], by rw [V3.out, ← E3.out, ← D3.out], by rw [V4.out, ← E4.out, ← D4.out], by go_num, HA', HB', by trivial⟩
                case measure => simp [intOf]; omega
      · have hkk : k = gs.length := by omega
        subst hkk
        rw [List.take_length] at HB
        rw [List.take_length]
        go_wp2_with fail
        go_meet
        exact ⟨P, S, b, rfl, rfl, rfl, rfl, rfl, rfl, rfl, rfl, HA, HB, rfl⟩
end Go.Proofs.Qxb6605538a.fl

