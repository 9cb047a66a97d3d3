/-
  'parallelSlope': the walk.
-/
import Derived.Test.Qxb6605538aWf
import Derived.Test.Qxb6605538aGa
namespace Go.Proofs.Qxb6605538a.fl
open Go.ChangeShapes Go.WideShapes Go.RowKit
attribute [local go_sem] run_store_float

theorem PSrc.below {B B' : Nat} {w w' : World} {v : Value} {xs : List Pt} (h : PSrc B w v xs) (hb : Below B w w') (hB : B ≤ B') : PSrc B' w' v xs := by
  obtain ⟨ad, cap, e, hc⟩ := h
  refine ⟨ad, cap, e, fun hne => ?_⟩
  obtain ⟨b, o, e1, hbw, hcell⟩ := hc hne
  refine ⟨b, o, e1, by omega, fun i hi => ?_⟩
  obtain ⟨c1, c2, c3⟩ := hcell i hi
  exact ⟨by rw [hb.cell (p := ⟨b, o + i * 3, none⟩) hbw]; exact c1, by rw [hb.cell (p := ⟨b, o + i * 3 + 1, none⟩) hbw]; exact c2, by rw [hb.cell (p := ⟨b, o + i * 3 + 2, none⟩) hbw]; exact c3⟩
theorem PSrc.setCell {B L : Nat} {w : World} {v : Value} {xs : List Pt} (h : PSrc B w v xs) (hL : Hi L v) {a : Addr} (ha : a.block < L) (u : Value) : PSrc B (w.setCell a u) v xs := by
  obtain ⟨ad, cap, rfl, hc⟩ := h
  refine ⟨ad, cap, rfl, fun hne => ?_⟩
  obtain ⟨b, o, rfl, hbw, hcell⟩ := hc hne
  have hl : L ≤ b := hL _ _ _ rfl
  refine ⟨b, o, rfl, hbw, fun i hi => ?_⟩
  obtain ⟨c1, c2, c3⟩ := hcell i hi
  exact ⟨by rw [cell_setCell_ne u (by show b ≠ _; omega)]; exact c1, by rw [cell_setCell_ne u (by show b ≠ _; omega)]; exact c2, by rw [cell_setCell_ne u (by show b ≠ _; omega)]; exact c3⟩

/-- a slice of slices of points, in blocks below B -/
def GSrc (B : Nat) (w : World) (v : Value) (pss : List (List Pt)) : Prop :=
  ∃ ad cap, v = .slice ad pss.length cap ∧ (pss ≠ [] → ∃ b o, ad = some ⟨b, o, none⟩ ∧ b < B ∧
    ∀ i (h : i < pss.length), ∃ a c, w.cell? ⟨b, o + i, none⟩ = some (.slice a (pss[i]).length c) ∧ PSrc B w (.slice a (pss[i]).length c) pss[i])
theorem GSrc.at {B : Nat} {w wr : World} {ad : Option Addr} {len cap : Nat} {xss : List (List Pt)} (h : GSrc B w (.slice ad len cap) xss) (hb : Below B w wr) {k : Nat} (hk : k < xss.length) :
    ∃ b o a c, ad = some ⟨b, o, none⟩ ∧ b < B ∧ wr.cell? ⟨b, o + k, none⟩ = some (.slice a (xss[k]).length c) ∧ PSrc B wr (.slice a (xss[k]).length c) xss[k] := by
  obtain ⟨ad', cap', e1, hc⟩ := h
  obtain ⟨b, o, rfl, hbw, hcell⟩ := hc (by intro e; rw [e] at hk; simp at hk)
  cases e1
  obtain ⟨a, c, h1, h2⟩ := hcell k hk
  exact ⟨b, o, a, c, rfl, hbw, by rw [hb.cell (p := ⟨b, o + k, none⟩) hbw]; exact h1, h2.below hb (Nat.le_refl _)⟩

/-- the groups so far: what the walk carries -/
structure Sofar (qs : List Gk) (gs : List Gr) (P S : Nat) : Prop where
  ok : ∀ g, g ∈ gs → GrOk g
  ke : gs.map key = qs.take gs.length
  ac : AccRel gP gS gs gs.length P S
theorem sofar_zero (qs : List Gk) : Sofar qs [] 0 0 := ⟨(fun g h => by cases h), rfl, acc_zero _ _ _⟩
theorem Sofar.step {qs : List Gk} {gs : List Gr} {P S : Nat} (h : Sofar qs gs P S) (hl : qs.length ≤ 4096) (hk : gs.length < qs.length) {X Y W v P1 S1 : Nat} {ps : List Pt} {c : Rat} (hq : qs[gs.length] = (c, ps))
    (hQ : QOk (c, ps)) (hm : GrpMean ps X Y W) (fv_ : Fin v) (ev : fv v = c * s0 pw ps) (hr : MomRel ps (fv X) (fv Y) ps.length P1 S1) :
    ∃ P' S', Ieee.double.add P P1 = some P' ∧ Ieee.double.add S S1 = some S' ∧ Sofar qs (gs ++ [⟨ps, c, X, Y, W, v⟩]) P' S' := by
  have hok : GrOk ⟨ps, c, X, Y, W, v⟩ := ⟨hQ.1, hQ.2.1, hQ.2.2, hm, fv_, ev⟩
  have hall : ∀ g, g ∈ gs ++ [⟨ps, c, X, Y, W, v⟩] → GrOk g := fun g hg => by
    rcases List.mem_append.1 hg with h1 | h1
    · exact h.ok g h1
    · simp at h1; rw [h1]; exact hok
  obtain ⟨f1, f2, n1, n2⟩ := grp_mom hQ.1 hQ.2.1 hm hr
  obtain ⟨P', S', o1, o2, ha⟩ := acc_snoc (g := ⟨ps, c, X, Y, W, v⟩) (all_acc hall (by simp; omega)) h.ac f1 f2 n1 n2
  refine ⟨P', S', o1, o2, hall, ?_, ha⟩
  rw [List.map_append, h.ke, List.length_append]
  show _ ++ [(c, ps)] = qs.take (gs.length + 1)
  rw [List.take_succ_eq_append_getElem hk, hq]

set_option maxHeartbeats 2000000 in
theorem slope_nil (ad : Option Addr) (cap : Nat) (pss : List (List Pt)) (w : World) (hs : GSrc w.heap.size w (.slice ad pss.length cap) pss) (hl : pss.length ≤ 4096) (hq : ∀ ps, ps ∈ pss → QOk (0, ps)) :
    Calls Try.prog 23 #[.slice ad pss.length cap, .slice none 0 0] w fun e w' => ∃ r, e = .returned (.float .f64 r) ∧ SlopeRes (pss.map fun ps => ((0 : Rat), ps)) r ∧ Below w.heap.size w w' := by
  obtain ⟨qs, hqs⟩ : ∃ qs : List Gk, qs = pss.map fun ps => ((0 : Rat), ps) := ⟨_, rfl⟩
  have HQS := Lib.hid hqs
  have HS := Lib.hid hs
  have HQ := Lib.hid hq
  rw [← hqs]
  clear hs hq hqs
  go_enter Try.func23, Try.ntmps23
  go_wp2
  go_loopw [5, 6, 7, 22] (fun p s m i W => ∃ gs : List Gr, ∃ P S : Nat, gs.length ≤ pss.length ∧ p = .float .f64 P ∧ s = .float .f64 S ∧ m = .slice none 0 0 ∧ i = .int .i64 gs.length ∧ Hid (Sofar qs gs P S) ∧ Below w.heap.size w W) (fun _ _ _ i _ => pss.length - (intOf i).toNat)
  case atStart => exact ⟨[], 0, 0, by simp, rfl, rfl, rfl, rfl, Lib.hid (sofar_zero _), Below.refl _ _⟩
  case round =>
    obtain ⟨gs, P, S, hk, rfl, rfl, rfl, rfl, HF, hb⟩ := hrel
    obtain ⟨k, hkk⟩ : ∃ k, k = gs.length := ⟨_, rfl⟩
    have HKK := Lib.hid hkk
    rw [← hkk] at hk ⊢
    by_cases hlt : k < pss.length
    · obtain ⟨b, o, a, c', eb, _, hc, hf⟩ := HS.out.at hb hlt
      cases eb
      obtain ⟨ps, hps⟩ : ∃ l, l = pss[k] := ⟨_, rfl⟩
      rw [← hps] at hc hf
      have hQ : QOk (0, ps) := by rw [hps]; exact HQ.out _ (List.getElem_mem hlt)
      have HPS := Lib.hid hps
      have HP := Lib.hid (hf.below (Below.refl w.heap.size wr) hb.size)
      have HQK := Lib.hid hQ
      clear hps hf hkk hQ
      -- x, y, weights := weightedMean(group)
      go_wp2_with fail
      refine (wmean_ok a c' ps (GrpMean ps) wr HP.out HQK.out.2.1 (grp_spec HQK.out.1 HQK.out.2.1)).mono ?_
      rintro e w1 ⟨X, Y, W, rfl, hG, hb1⟩
      have HG := Lib.hid hG
      have HP1 := Lib.hid (HP.out.below hb1 hb1.size)
      have hb1' : Below w.heap.size w w1 := hb.trans (hb1.mono hb.size)
      clear hG hb1 HP hb
      -- p, s := moments(group, x, y)
      go_wp2_with fail
      refine (moments_ok a c' ps X Y w1 HP1.out (fun p hp => (HQK.out.1 p hp).ptOk) HQK.out.2.1 HG.out.fX HG.out.fY (by have := HG.out.bX; grind) (by have := HG.out.bY; grind)).mono ?_
      rintro e w2 ⟨P1, S1, rfl, hM, hb2⟩
      have hb2' : Below w.heap.size w w2 := hb1'.trans (hb2.mono hb1'.size)
      have hgk : gs.length < qs.length := by rw [HQS.out, List.length_map, ← HKK.out]; exact hlt
      obtain ⟨P', S', q1, q2, hF'⟩ := HF.out.step (by rw [HQS.out, List.length_map]; exact hl) hgk (ps := ps) (c := 0) (v := 0) (by
        have e1 : qs[gs.length]? = some ((0 : Rat), ps) := by
          rw [HQS.out, List.getElem?_map, ← HKK.out, List.getElem?_eq_getElem hlt, ← HPS.out]; rfl
        rw [List.getElem?_eq_getElem hgk] at e1
        exact Option.some.inj e1) HQK.out HG.out fin_zero (by rw [fv_zero]; grind) hM
      have o1 := run_op .add _ _ P' q1
      have o2 := run_op .add _ _ S' q2
      have HF' := Lib.hid hF'
      obtain ⟨gs', hgs'⟩ : ∃ gs' : List Gr, gs' = gs ++ [⟨ps, 0, X, Y, W, 0⟩] := ⟨_, rfl⟩
      rw [← hgs'] at HF'
      have hgl : (gs'.length : Int) = (k : Int) + 1 := by rw [hgs', HKK.out]; simp
      have HGL := Lib.hid hgl
      clear hgs' hgl hF' q1 q2 hM hb2 hb1' HP1 HG HF hgk
      go_wp2
      go_roundw
      case rel => exact ⟨gs', P', S', by have := HGL.out; omega, rfl, rfl, rfl, by rw [HGL.out]; try go_num, HF', hb2'⟩
      case measure => simp [intOf]; omega
    · have hek : k = pss.length := by omega
      have hgl : gs.length = qs.length := by rw [← HKK.out, hek, HQS.out, List.length_map]
      have hke : gs.map key = qs := by
        have := HF.out.ke
        rw [hgl, List.take_length] at this; exact this
      have hc0 : ∀ g, g ∈ gs → g.c = 0 := fun g hg => by
        have h1 : key g ∈ qs := by rw [← hke]; exact List.mem_map_of_mem hg
        rw [HQS.out] at h1
        obtain ⟨ps, _, e⟩ := List.mem_map.1 h1
        have : (key g).1 = 0 := by rw [← e]
        exact this
      have hlg : gs.length ≤ 4096 := by rw [← HKK.out, hek]; exact hl
      have HC := Lib.hid hc0
      have HKE := Lib.hid hke
      have HLG := Lib.hid hlg
      clear hgl hke hc0 hlg hkk
      subst hek
      -- x, y, _ := weightedMean(means)
      go_wp2_with fail
      have hnil : PSrc wr.heap.size wr (.slice none ([] : List Pt).length 0) [] := ⟨none, 0, rfl, fun h => absurd rfl h⟩
      refine (wmean_ok none 0 [] (MeanMean []) wr hnil (by simp) (mean_spec (fun p h => by cases h) (by simp) (by show (0 : Rat) ≤ 1048576; decide))).mono ?_
      rintro e w1 ⟨X, Y, W, rfl, hG, hb1⟩
      have HG := Lib.hid hG
      have hb1' : Below w.heap.size w w1 := hb.trans (hb1.mono hb.size)
      have hnil1 : PSrc w1.heap.size w1 (.slice none ([] : List Pt).length 0) [] := ⟨none, 0, rfl, fun h => absurd rfl h⟩
      have HN1 := Lib.hid hnil1
      clear hG hb1 hb hnil hnil1
      -- p, s := moments(means, x, y)
      go_wp2_with fail
      refine (moments_ok none 0 [] X Y w1 HN1.out (fun p h => by cases h) (by simp) HG.out.fX HG.out.fY (by have := HG.out.bX; grind) (by have := HG.out.bY; grind)).mono ?_
      rintro e w2 ⟨P1, S1, rfl, hM, hb2⟩
      have hb2' : Below w.heap.size w w2 := hb1'.trans (hb2.mono hb1'.size)
      obtain ⟨fP1, fS1, _, _, hz⟩ := hM
      obtain ⟨z1, z2⟩ := hz (fun p h => by cases h)
      obtain ⟨n1, n2, n3, n4⟩ := none_pooled HF.out.ok HC.out
      obtain ⟨pr, sq, q1, q2, fsq, r0, r1⟩ := ps_tail HF.out.ok HLG.out (by rw [n4]; decide) HF.out.ac fP1 fS1 (by rw [z1, n1, n3, show (0 : Rat) - 0 = 0 by grind, ab_zero]; grind) (by rw [z2, n2, n3, show (0 : Rat) - 0 = 0 by grind, ab_zero]; grind)
      rw [HKE.out] at r0 r1
      have o1 := run_op .add _ _ pr q1
      have o2 := run_op .add _ _ sq q2
      rcases tri (fv sq) (fv 0) with ho | ho | ho
      · have hord := ord_lt fsq fin_zero ho
        have HR := Lib.hid (r0 (by rw [fv_zero] at ho; exact Rat.le_of_lt ho))
        clear r0 r1 hz z1 z2 n1 n2 n3 n4 q1 q2 HN1 HG HF hb2 hb1' fP1 fS1 ho fsq
        go_wp2
        go_ret
        exact ⟨_, rfl, HR.out, hb2'⟩
      · have hord := ord_eq fsq fin_zero ho
        have HR := Lib.hid (r0 (by rw [fv_zero] at ho; rw [ho]; exact Rat.le_refl))
        clear r0 r1 hz z1 z2 n1 n2 n3 n4 q1 q2 HN1 HG HF hb2 hb1' fP1 fS1 ho fsq
        go_wp2
        go_ret
        exact ⟨_, rfl, HR.out, hb2'⟩
      · have hord := ord_gt fsq fin_zero ho
        obtain ⟨r, q3, hR⟩ := r1 (by rw [fv_zero] at ho; exact ho)
        have HR := Lib.hid hR
        have o3 := run_op .quo _ _ r q3
        clear r0 r1 hz z1 z2 n1 n2 n3 n4 q1 q2 q3 hR HN1 HG HF hb2 hb1' fP1 fS1 ho fsq
        go_wp2
        go_ret
        exact ⟨_, rfl, HR.out, hb2'⟩
end Go.Proofs.Qxb6605538a.fl
