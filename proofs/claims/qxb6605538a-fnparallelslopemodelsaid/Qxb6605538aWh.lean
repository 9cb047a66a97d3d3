/-
  'parallelSlope' where pooled is no nil: the walk.
-/
import Derived.Test.Qxb6605538aWg
namespace Go.Proofs.Qxb6605538a.fl
open Go.ChangeShapes Go.WideShapes Go.RowKit
attribute [local go_sem] run_store_float

theorem own_shape {w : World} {B n e sz : Nat} {v : Value} {xs : List Value} (h : w.ownsRow B e sz v n xs) : ∃ ad cap, v = .slice ad n cap := by
  rcases h.2 with ⟨rfl, rfl⟩ | ⟨g, cap, cur, rfl, _⟩
  · exact ⟨_, _, rfl⟩
  · exact ⟨_, _, rfl⟩
theorem psrc_of_own {w : World} {B : Nat} {v : Value} {ps : List Pt} (h : w.ownsRow B 48 3 v ps.length (pcells ps)) : PSrc w.heap.size w v ps := by
  have h' := h
  rcases h'.2 with ⟨rfl, h0⟩ | ⟨g, cap, cur, rfl, _⟩
  · have : ps = [] := List.length_eq_zero_iff.1 h0
    subst this
    exact ⟨_, _, rfl, fun h => absurd rfl h⟩
  · refine ⟨_, _, rfl, fun _ => ⟨g, 0, rfl, (h.lt g rfl).2, fun i hi => ?_⟩⟩
    obtain ⟨a1, a2, a3⟩ := pcells_get ps i hi
    rw [Nat.zero_add]
    exact ⟨by rw [h.cellAt _ (by omega)]; exact a1, by rw [h.cellAt _ (by omega)]; exact a2, by rw [h.cellAt _ (by omega)]; exact a3⟩
theorem three_new (w : World) (x y z : Value) (T : TypeId) : ∀ j u, [x, y, z][j]? = some u → (w.alloc (.cells #[x, y, z] T)).cell? ((⟨w.heap.size, 0, none⟩ : Addr).add j) = some u := by
  intro j u hj
  match j, hj with
  | 0, hj => simp at hj; subst hj; simp [Addr.add]
  | 1, hj => simp at hj; subst hj; simp [Addr.add]
  | 2, hj => simp at hj; subst hj; simp [Addr.add]
theorem ms_snoc (gs : List Gr) (g : Gr) : pcells (msOf (gs ++ [g])) = pcells (msOf gs) ++ [Value.float .f64 g.X, Value.float .f64 g.Y, Value.float .f64 g.v] := by
  unfold pcells msOf
  rw [List.map_append, List.flatMap_append]
  rfl
theorem ms_len (gs : List Gr) : (msOf gs).length = gs.length := by unfold msOf; rw [List.length_map]

set_option maxHeartbeats 4000000 in
theorem slope_some (ad : Option Addr) (cap : Nat) (pa : Addr) (pcap : Nat) (cs : List Nat) (pss : List (List Pt)) (qs : List Gk) (w : World) (hs : GSrc w.heap.size w (.slice ad pss.length cap) pss) (hl : pss.length ≤ 4096)
    (hcs : FSrc w.heap.size w (.slice (some pa) cs.length pcap) cs) (hcl : pss.length ≤ cs.length)
    (hqs : qs.length = pss.length) (hqe : ∀ k (h : k < pss.length) (h' : k < cs.length) (h2 : k < qs.length), qs[k] = (fv cs[k], pss[k]) ∧ Fin cs[k]) (hq : ∀ q, q ∈ qs → QOk q) (hV : Sm (fun q => q.1 * s0 pw q.2) qs ≤ 1048576) :
    Calls Try.prog 23 #[.slice ad pss.length cap, .slice (some pa) cs.length pcap] w fun e w' => ∃ r, e = .returned (.float .f64 r) ∧ SlopeRes qs r ∧ Below w.heap.size w w' := by
  obtain ⟨i0, hi, hz0, hz1, hz2⟩ := info_parts info48
  have HQS := Lib.hid hqs
  have HQE := Lib.hid hqe
  have HS := Lib.hid hs
  have HQ := Lib.hid hq
  have HCS := Lib.hid hcs
  have HV := Lib.hid hV
  clear hs hq hqs hqe hcs hV
  go_enter Try.func23, Try.ntmps23
  go_wp2
  go_loopw [5, 6, 7, 22] (fun p s m i W => ∃ gs : List Gr, ∃ P S : Nat, gs.length ≤ pss.length ∧ p = .float .f64 P ∧ s = .float .f64 S ∧ i = .int .i64 gs.length ∧ Hid (Sofar qs gs P S) ∧ Hid (W.ownsRow w.heap.size 48 3 m gs.length (pcells (msOf gs))) ∧ Below w.heap.size w W) (fun _ _ _ i _ => pss.length - (intOf i).toNat)
  case atStart => exact ⟨[], 0, 0, by simp, rfl, rfl, rfl, Lib.hid (sofar_zero _), Lib.hid (World.ownsRow_nil _ _ _ _), Below.refl _ _⟩
  case round =>
    obtain ⟨gs, P, S, hk, rfl, rfl, rfl, HF, HO, hb⟩ := hrel
    obtain ⟨k, hkk⟩ : ∃ k, k = gs.length := ⟨_, rfl⟩
    have HKK := Lib.hid hkk
    rw [← hkk] at hk HO ⊢
    obtain ⟨am, cm, rfl⟩ := own_shape HO.out
    by_cases hlt : k < pss.length
    · obtain ⟨b, o, a, c', eb, _, hc, hf⟩ := HS.out.at hb hlt
      cases eb
      have hkc : k < cs.length := by omega
      have hkq : k < qs.length := by rw [HQS.out]; exact hlt
      obtain ⟨eq_, fpc⟩ := HQE.out k hlt hkc hkq
      have hQ : QOk (fv cs[k], pss[k]) := by rw [← eq_]; exact HQ.out _ (List.getElem_mem hkq)
      obtain ⟨ps, hps⟩ : ∃ l, l = pss[k] := ⟨_, rfl⟩
      obtain ⟨pc, hpc⟩ : ∃ l, l = cs[k] := ⟨_, rfl⟩
      rw [← hps] at hc hf eq_ hQ
      rw [← hpc] at eq_ fpc hQ
      have HPC := Lib.hid hpc
      have HEQ := Lib.hid eq_
      have HP := Lib.hid (hf.below (Below.refl w.heap.size wr) hb.size)
      have HQK := Lib.hid hQ
      have FPC := Lib.hid fpc
      clear hps hf hkk hQ eq_ fpc hpc
      -- x, y, weights := weightedMean(group)
      go_wp2_with fail
      refine (wmean_ok a c' ps (GrpMean ps) wr HP.out HQK.out.2.1 (grp_spec HQK.out.1 HQK.out.2.1)).mono ?_
      rintro e w1 ⟨X, Y, W, rfl, hG, hb1⟩
      have HG := Lib.hid hG
      have HP1 := Lib.hid (HP.out.below hb1 hb1.size)
      have HO1 := Lib.hid (ownsRow_below HO.out hb1 (fun g hg => (HO.out.lt g hg).2))
      have hb1' : Below w.heap.size w w1 := hb.trans (hb1.mono hb.size)
      clear hG hb1 HP hb HO
      -- p, s := moments(group, x, y)
      go_wp2_with fail
      refine (moments_ok a c' ps X Y w1 HP1.out (fun p hp => (HQK.out.1 p hp).ptOk) HQK.out.2.1 HG.out.fX HG.out.fY (by have := HG.out.bX; grind) (by have := HG.out.bY; grind)).mono ?_
      rintro e w2 ⟨P1, S1, rfl, hM, hb2⟩
      have hb2' : Below w.heap.size w w2 := hb1'.trans (hb2.mono hb1'.size)
      have HO2 := Lib.hid (ownsRow_below HO1.out hb2 (fun g hg => (HO1.out.lt g hg).2))
      -- pooled[g] * weights
      have hv : ∃ v, Ieee.double.mul pc W = some v ∧ Fin v ∧ fv v = fv pc * s0 pw ps := by
        have hW0 : 0 ≤ s0 pw ps := s0_nonneg fun p hp => (HQK.out.1 p hp).2.2.2.2.2.2.2.2.1
        have hWl : s0 pw ps ≤ 1048576 := s0_le HQK.out.2.1 fun p hp => (HQK.out.1 p hp).2.2.2.2.2.2.2.2.2
        have hWi : IsInt (s0 pw ps) := IsInt.sum fun p hp => (HQK.out.1 p hp).2.2.2.2.2.1
        have hpi : IsInt (fv pc) ∧ ab (fv pc) ≤ 1 := by
          rcases HQK.out.2.2 with h0 | h0
          · have h0' : fv pc = 0 := h0
            rw [h0']; exact ⟨IsInt.zero, by rw [ab_zero]; decide⟩
          · have h0' : fv pc = 1 := h0
            rw [h0']; exact ⟨IsInt.one, by decide +kernel⟩
        have hbd := ab_mul_le (b := fv W) (B := 1048576) hpi.2 (by rw [HG.out.eW, ab_of_nonneg hW0]; exact hWl)
        obtain ⟨v, o1, o2, o3⟩ := mul_int FPC.out HG.out.fW (by rw [HG.out.eW]; exact hpi.1.mul hWi) (by grind)
        exact ⟨v, o1, o2, by rw [o3, HG.out.eW]⟩
      obtain ⟨v, q3, fv_, ev⟩ := hv
      have hgk : gs.length < qs.length := by rw [HQS.out, ← HKK.out]; exact hlt
      obtain ⟨P', S', q1, q2, hF'⟩ := HF.out.step (by rw [HQS.out]; exact hl) hgk (ps := ps) (c := fv pc) (v := v) (by
        have e1 : qs[gs.length]? = some (fv pc, ps) := by
          rw [← HKK.out, List.getElem?_eq_getElem (by rw [HKK.out]; exact hgk), HEQ.out]
        rw [List.getElem?_eq_getElem hgk] at e1
        exact Option.some.inj e1) HQK.out HG.out fv_ ev hM
      have o1 := run_op .add _ _ P' q1
      have o2 := run_op .add _ _ S' q2
      have o3 := run_op .mul _ _ v q3
      obtain ⟨b', o', eb', hbc, hcc⟩ := HCS.out.at hb2' hkc
      cases eb'
      rw [← HPC.out] at hcc
      have HF' := Lib.hid hF'
      obtain ⟨gs', hgs'⟩ : ∃ gs' : List Gr, gs' = gs ++ [⟨ps, fv pc, X, Y, W, v⟩] := ⟨_, rfl⟩
      rw [← hgs'] at HF'
      have hgl : (gs'.length : Int) = (k : Int) + 1 := by rw [hgs', HKK.out]; simp
      have HMS : Hid (pcells (msOf gs') = pcells (msOf gs) ++ [Value.float .f64 X, Value.float .f64 Y, Value.float .f64 v]) := by rw [hgs']; exact Lib.hid (ms_snoc _ _)
      have HGL := Lib.hid hgl
      have HB2 := Lib.hid hb2'
      have hsz : w.heap.size ≤ w2.heap.size := hb2'.size
      clear hgs' hgl hF' q1 q2 q3 hM hb2 hb1' HP1 HG HF hgk hb2' HO1 ev fv_
      have hkl : k ≤ 4096 := by omega
      go_wp2_with (at_builtin; refine wpList_append_own _ rfl _ _ 43 rfl w.heap.size 48 i0 (.agg #[.float .f64 0, .float .f64 0, .float .f64 0]) 3 24 Try.underlying43 hi hz0 hz1 hz2 rfl (by decide) _ _ _ rfl (HO2.out.alloc _) ⟨w2.heap.size, 0, none⟩ 1 1 [.float .f64 X, .float .f64 Y, .float .f64 v] rfl rfl (three_new _ _ _ _ _) (by intro u hu; simp at hu; rcases hu with rfl | rfl | rfl <;> rfl) (by unfold maxLen; omega) (by omega) (by simp; omega) ?_; intro v3 w3 hown3 hg3 _; obtain ⟨ad3, cap3, hv3⟩ := own_shape hown3; subst hv3)
      have HO3 : Hid (w3.ownsRow w.heap.size 48 3 (.slice ad3 (k + 1) cap3) gs'.length (pcells (msOf gs'))) := by
        rw [HMS.out, show gs'.length = k + 1 by have := HGL.out; omega]
        exact Lib.hid hown3
      have HB3 : Hid (Below w.heap.size w w3) := Lib.hid ((HB2.out.alloc (by omega) _).grown hg3 (by simp; omega) (fun j hj => (HO2.out.lt j hj).1))
      clear hown3 hg3
      go_roundw
      case rel => exact ⟨gs', P', S', by have := HGL.out; omega, rfl, rfl, by rw [HGL.out]; try go_num, HF', HO3, HB3.out⟩
      case measure => simp [intOf]; omega
    · have hek : k = pss.length := by omega
      have hgl : gs.length = qs.length := by rw [← HKK.out, hek, HQS.out]
      have hke : gs.map key = qs := by
        have := HF.out.ke
        rw [hgl, List.take_length] at this; exact this
      have hlg : gs.length ≤ 4096 := by rw [← HKK.out, hek]; exact hl
      have hpv : s0 qw (pool gs) ≤ 1048576 := pool_le hke HV.out
      have hlm : (msOf gs).length = k := by rw [ms_len, ← HKK.out]
      have hps : PSrc wr.heap.size wr (.slice am (msOf gs).length cm) (msOf gs) := by
        have h1 := HO.out
        rw [hlm]
        rw [show k = (msOf gs).length from hlm.symm] at h1
        have h2 := psrc_of_own h1
        rw [hlm] at h2
        exact h2
      obtain ⟨ms, hms⟩ : ∃ ms, ms = msOf gs := ⟨_, rfl⟩
      have HKE := Lib.hid hke
      have HLG := Lib.hid hlg
      have HPV := Lib.hid hpv
      have hspec : WmSpec ms (MeanMean ms) := by rw [hms]; exact mean_spec (ms_pt HF.out.ok) (by rw [ms_len]; exact hlg) (by rw [ms_s0 HF.out.ok]; exact hpv)
      have hpt : ∀ p, p ∈ ms → PtOk p := by rw [hms]; exact ms_ptOk HF.out.ok hpv
      rw [← hms] at hlm hps
      have HSP := Lib.hid hspec
      have HPT := Lib.hid hpt
      have HPS := Lib.hid hps
      have HMS := Lib.hid hms
      have hml : ms.length ≤ 4096 := by omega
      clear hgl hke hlg hkk hpv hspec hpt hps hms HO hek
      subst hlm
      -- x, y, _ := weightedMean(means)
      go_wp2_with fail
      refine (wmean_ok am cm ms (MeanMean ms) wr HPS.out hml HSP.out).mono ?_
      rintro e w1 ⟨X, Y, W, rfl, hG, hb1⟩
      have HG := Lib.hid hG
      have hb1' : Below w.heap.size w w1 := hb.trans (hb1.mono hb.size)
      have HP1 := Lib.hid (HPS.out.below hb1 hb1.size)
      clear hG hb1 hb HPS
      -- p, s := moments(means, x, y)
      go_wp2_with fail
      refine (moments_ok am cm ms X Y w1 HP1.out HPT.out hml HG.out.fX HG.out.fY (by have := HG.out.bX; grind) (by have := HG.out.bY; grind)).mono ?_
      rintro e w2 ⟨P1, S1, rfl, hM, hb2⟩
      have hb2' : Below w.heap.size w w2 := hb1'.trans (hb2.mono hb1'.size)
      have hG2 := HG.out
      rw [HMS.out] at hM hG2
      obtain ⟨fP1, fS1, n1, n2⟩ := bet_mom HF.out.ok HLG.out HPV.out hG2 hM
      obtain ⟨pr, sq, q1, q2, fsq, r0, r1⟩ := ps_tail HF.out.ok HLG.out HPV.out HF.out.ac fP1 fS1 n1 n2
      rw [HKE.out] at r0 r1
      have o1 := run_op .add _ _ pr q1
      have o2 := run_op .add _ _ sq q2
      rcases tri (fv sq) (fv 0) with ho | ho | ho
      · have hord := ord_lt fsq fin_zero ho
        have HR := Lib.hid (r0 (by rw [fv_zero] at ho; exact Rat.le_of_lt ho))
        clear r0 r1 n1 n2 q1 q2 HP1 HG HF hb2 hb1' fP1 fS1 ho fsq hM hG2
        go_wp2
        go_ret
        exact ⟨_, rfl, HR.out, hb2'⟩
      · have hord := ord_eq fsq fin_zero ho
        have HR := Lib.hid (r0 (by rw [fv_zero] at ho; rw [ho]; exact Rat.le_refl))
        clear r0 r1 n1 n2 q1 q2 HP1 HG HF hb2 hb1' fP1 fS1 ho fsq hM hG2
        go_wp2
        go_ret
        exact ⟨_, rfl, HR.out, hb2'⟩
      · have hord := ord_gt fsq fin_zero ho
        obtain ⟨r, q3, hR⟩ := r1 (by rw [fv_zero] at ho; exact ho)
        have HR := Lib.hid hR
        have o3 := run_op .quo _ _ r q3
        clear r0 r1 n1 n2 q1 q2 q3 hR HP1 HG HF hb2 hb1' fP1 fS1 ho fsq hM hG2
        go_wp2
        go_ret
        exact ⟨_, rfl, HR.out, hb2'⟩
end Go.Proofs.Qxb6605538a.fl
