/-
  'weightedMean', rounding for rounding. No Go in sight.
-/
import Derived.Test.Qxb6605538aSt
namespace Go.Proofs.Qxb6605538a.fl
open Ieee

theorem IsInt.small {q : Rat} (h : IsInt q) (hb : ab q ≤ 4503599627370496) : ∃ k : Int, q = (k : Rat) ∧ k.natAbs ≤ 4503599627370496 := by
  obtain ⟨k, rfl⟩ := h
  refine ⟨k, rfl, ?_⟩
  have h1 := abs_int k
  rw [← h1] at hb
  have h2 : ((4503599627370496 : Nat) : Rat) = 4503599627370496 := by decide
  rw [← h2] at hb
  exact Rat.natCast_le_natCast.1 hb
theorem add_int {x y : Nat} (hx : Fin x) (hy : Fin y) (hi : IsInt (fv x + fv y)) (hb : ab (fv x + fv y) ≤ 4503599627370496) :
    ∃ r, double.add x y = some r ∧ Fin r ∧ fv r = fv x + fv y := by
  obtain ⟨k, e, hk⟩ := hi.small hb
  obtain ⟨r, h1, h2, h3⟩ := add_exact hx hy k hk e
  exact ⟨r, h1, h2, by rw [h3, e]⟩
theorem sub_int {x y : Nat} (hx : Fin x) (hy : Fin y) (hi : IsInt (fv x - fv y)) (hb : ab (fv x - fv y) ≤ 4503599627370496) :
    ∃ r, double.sub x y = some r ∧ Fin r ∧ fv r = fv x - fv y := by
  obtain ⟨k, e, hk⟩ := hi.small hb
  obtain ⟨r, h1, h2, h3⟩ := sub_exact hx hy k hk e
  exact ⟨r, h1, h2, by rw [h3, e]⟩
theorem mul_int {x y : Nat} (hx : Fin x) (hy : Fin y) (hi : IsInt (fv x * fv y)) (hb : ab (fv x * fv y) ≤ 4503599627370496) :
    ∃ r, double.mul x y = some r ∧ Fin r ∧ fv r = fv x * fv y := by
  obtain ⟨k, e, hk⟩ := hi.small hb
  obtain ⟨r, h1, h2, h3⟩ := mul_exact hx hy k hk e
  exact ⟨r, h1, h2, by rw [h3, e]⟩

/-! ### What the walk asks -/
def Heavy (ps : List Pt) (h : Pt) : Prop := h ∈ ps ∧ ∀ p, p ∈ ps → pw p ≤ pw h
def WmStep (ps : List Pt) (h : Pt) (I : Nat → Nat → Nat → Nat → Prop) : Prop :=
  ∀ k (hk : k < ps.length) W P V, I k W P V → ∃ W' d t P' u V', double.add W (ps[k]).2.2 = some W' ∧ double.sub (ps[k]).1 h.1 = some d ∧ double.mul (ps[k]).2.2 d = some t ∧
    double.add P t = some P' ∧ double.mul (ps[k]).2.2 (ps[k]).2.1 = some u ∧ double.add V u = some V' ∧ I (k + 1) W' P' V'
def WmEnd (h : Pt) (R : Nat → Nat → Nat → Prop) (W P V : Nat) : Prop :=
  Fin W ∧ (fv W = 0 → R h.1 h.2.1 0) ∧ (fv W ≠ 0 → ∃ q X Y, double.div P W = some q ∧ double.add h.1 q = some X ∧ double.div V W = some Y ∧ R X Y W)
def WmSpec (ps : List Pt) (R : Nat → Nat → Nat → Prop) : Prop :=
  (∀ p, p ∈ ps → Fin p.2.2) ∧ (ps = [] → R 0 0 0) ∧
  ∀ h, Heavy ps h → ∃ I : Nat → Nat → Nat → Nat → Prop, I 0 0 0 0 ∧ WmStep ps h I ∧ ∀ W P V, I ps.length W P V → WmEnd h R W P V

/-! ### A group: whole places, values and weights -/
def GPt (p : Pt) : Prop := Fin p.1 ∧ Fin p.2.1 ∧ Fin p.2.2 ∧ IsInt (px p) ∧ IsInt (py p) ∧ IsInt (pw p) ∧ ab (px p) ≤ 1024 ∧ ab (py p) ≤ 1024 ∧ 0 ≤ pw p ∧ pw p ≤ 256
def ep : Rat := 1 / 1099511627776
structure GrpMean (ps : List Pt) (X Y W : Nat) : Prop where
  fX : Fin X
  fY : Fin Y
  fW : Fin W
  eW : fv W = s0 pw ps
  bX : ab (fv X) ≤ 1025
  bY : ab (fv Y) ≤ 1025
  nX : s0 pw ps * ab (fv X - mean pw px ps) ≤ s0 pw ps * ep
  nY : s0 pw ps * ab (fv Y - mean pw py ps) ≤ s0 pw ps * ep
  hz : Pl pw px px ps = 0 → ∀ p, p ∈ ps → pw p * (px p - fv X) = 0
  hi : Pl pw px px ps = 0 → s0 pw ps ≠ 0 → IsInt (fv X) ∧ fv X = mean pw px ps

theorem fin_zero : Fin 0 := by unfold Fin; exact ⟨_, _, _, rfl⟩
theorem fv_zero : fv 0 = 0 := by decide +kernel
theorem ab_zero : ab 0 = 0 := by decide +kernel

theorem s0_le {ps : List Pt} (hl : ps.length ≤ 4096) (h : ∀ p, p ∈ ps → pw p ≤ 256) : s0 pw ps ≤ 1048576 := by
  have := sum_bound hl (f := pw) (C := 256) (by decide) h
  unfold s0; grind

theorem take_le {ps : List Pt} (h : ∀ p, p ∈ ps → 0 ≤ pw p) (k : Nat) : s0 pw (ps.take k) ≤ s0 pw ps := Sm_take_le h k

theorem grp_spec {ps : List Pt} (hp : ∀ p, p ∈ ps → GPt p) (hl : ps.length ≤ 4096) : WmSpec ps (GrpMean ps) := by
  have hw : ∀ p, p ∈ ps → 0 ≤ pw p := fun p h => (hp p h).2.2.2.2.2.2.2.2.1
  have hW : s0 pw ps ≤ 1048576 := s0_le hl fun p h => (hp p h).2.2.2.2.2.2.2.2.2
  have hW0 := s0_nonneg hw
  have hxi : ∀ p, p ∈ ps → IsInt (px p) := fun p h => (hp p h).2.2.2.1
  have hyi : ∀ p, p ∈ ps → IsInt (py p) := fun p h => (hp p h).2.2.2.2.1
  have hwi : ∀ p, p ∈ ps → IsInt (pw p) := fun p h => (hp p h).2.2.2.2.2.1
  have hxb : ∀ p, p ∈ ps → ab (px p) ≤ 1024 := fun p h => (hp p h).2.2.2.2.2.2.1
  have hyb : ∀ p, p ∈ ps → ab (py p) ≤ 1024 := fun p h => (hp p h).2.2.2.2.2.2.2.1
  refine ⟨fun p h => (hp p h).2.2.1, ?_, ?_⟩
  · intro e
    subst e
    refine ⟨fin_zero, fin_zero, fin_zero, ?_, ?_, ?_, ?_, ?_, fun _ p hp => (by cases hp), ?_⟩
    · rw [fv_zero]; rfl
    · rw [fv_zero, ab_zero]; decide
    · rw [fv_zero, ab_zero]; decide
    · show (0 : Rat) * _ ≤ 0 * _; grind
    · show (0 : Rat) * _ ≤ 0 * _; grind
    · intro _ h; exact absurd rfl h
  intro h hh
  obtain ⟨hm, hmax⟩ := hh
  obtain ⟨f1, f2, f3, i1, i2, i3, b1, b2, w0, w1⟩ := hp h hm
  refine ⟨fun k W P V => Fin W ∧ Fin P ∧ Fin V ∧ fv W = s0 pw (ps.take k) ∧ fv P = Sm (fun p => pw p * (px p - px h)) (ps.take k) ∧ fv V = s1 pw py (ps.take k), ?_, ?_, ?_⟩
  · exact ⟨fin_zero, fin_zero, fin_zero, by rw [fv_zero]; rfl, by rw [fv_zero]; rfl, by rw [fv_zero]; rfl⟩
  · intro k hk W P V ⟨fW, fP, fV, eW, eP, eV⟩
    have hmem : ps[k] ∈ ps := List.getElem_mem hk
    obtain ⟨g1, g2, g3, j1, j2, j3, c1, c2, v0, v1⟩ := hp _ hmem
    have sW : s0 pw (ps.take (k + 1)) = fv W + pw ps[k] := by unfold s0; rw [Sm_take _ _ _ hk, eW]; rfl
    have sP : Sm (fun p => pw p * (px p - px h)) (ps.take (k + 1)) = fv P + pw ps[k] * (px ps[k] - px h) := by rw [Sm_take _ _ _ hk, eP]
    have sV : s1 pw py (ps.take (k + 1)) = fv V + pw ps[k] * py ps[k] := by unfold s1; rw [Sm_take _ _ _ hk, eV]; rfl
    have hmt : ∀ p, p ∈ ps.take (k + 1) → p ∈ ps := fun p h => List.mem_of_mem_take h
    have hkW := take_le hw (k + 1)
    have hkW0 : 0 ≤ s0 pw (ps.take (k + 1)) := s0_nonneg fun p h => hw p (hmt p h)
    have iW : IsInt (fv W + pw ps[k]) := by rw [← sW]; exact IsInt.sum fun p h => hwi p (hmt p h)
    have iP : IsInt (fv P + pw ps[k] * (px ps[k] - px h)) := by rw [← sP]; exact IsInt.sum fun p h => (hwi p (hmt p h)).mul ((hxi p (hmt p h)).sub i1)
    have iV : IsInt (fv V + pw ps[k] * py ps[k]) := by rw [← sV]; exact IsInt.sum fun p h => (hwi p (hmt p h)).mul (hyi p (hmt p h))
    have bW : ab (fv W + pw ps[k]) ≤ 1048576 := by rw [← sW, ab_of_nonneg hkW0]; grind
    have bP : ab (fv P + pw ps[k] * (px ps[k] - px h)) ≤ 1048576 * 2048 := by
      rw [← sP]
      have := ab_s1 (w := pw) (x := fun p => px p - px h) (l := ps.take (k + 1)) (B := 2048) (fun p h => hw p (hmt p h)) (fun p hh => by
        have := ab_sub (px p) (px h)
        have := hxb p (hmt p hh)
        grind)
      unfold s1 at this
      grind
    have bV : ab (fv V + pw ps[k] * py ps[k]) ≤ 1048576 * 1024 := by
      rw [← sV]
      have := ab_s1 (w := pw) (x := py) (l := ps.take (k + 1)) (B := 1024) (fun p h => hw p (hmt p h)) (fun p hh => hyb p (hmt p hh))
      grind
    have v2 : ab (pw ps[k]) ≤ 256 := by rw [ab_of_nonneg v0]; exact v1
    obtain ⟨W', o1, q1, e1⟩ := add_int (x := W) (y := (ps[k]).2.2) fW g3 iW (Rat.le_trans bW (by decide))
    obtain ⟨d, o2, q2, e2⟩ := sub_int (x := (ps[k]).1) (y := h.1) g1 f1 (j1.sub i1) (by
      have := ab_sub (fv (ps[k]).1) (fv h.1)
      have : ab (fv (ps[k]).1) ≤ 1024 := c1
      have : ab (fv h.1) ≤ 1024 := b1
      grind)
    have bd : ab (fv d) ≤ 2048 := by
      have := ab_sub (fv (ps[k]).1) (fv h.1)
      have : ab (fv (ps[k]).1) ≤ 1024 := c1
      have : ab (fv h.1) ≤ 1024 := b1
      grind
    obtain ⟨t, o3, q3, e3⟩ := mul_int (x := (ps[k]).2.2) (y := d) g3 q2 (by rw [e2]; exact j3.mul (j1.sub i1)) (by
      have := ab_mul_le (a := fv (ps[k]).2.2) (b := fv d) v2 bd
      grind)
    have e3' : fv t = pw ps[k] * (px ps[k] - px h) := by rw [e3, e2]; rfl
    obtain ⟨P', o4, q4, e4⟩ := add_int (x := P) (y := t) fP q3 (by rw [e3']; exact iP) (by rw [e3']; exact Rat.le_trans bP (by decide +kernel))
    obtain ⟨u, o5, q5, e5⟩ := mul_int (x := (ps[k]).2.2) (y := (ps[k]).2.1) g3 g2 (j3.mul j2) (by
      have := ab_mul_le (a := fv (ps[k]).2.2) (b := fv (ps[k]).2.1) v2 c2
      grind)
    have e5' : fv u = pw ps[k] * py ps[k] := by rw [e5]; rfl
    obtain ⟨V', o6, q6, e6⟩ := add_int (x := V) (y := u) fV q5 (by rw [e5']; exact iV) (by rw [e5']; exact Rat.le_trans bV (by decide +kernel))
    exact ⟨W', d, t, P', u, V', o1, o2, o3, o4, o5, o6, q1, q4, q6, by rw [sW, e1]; rfl, by rw [sP, e4, e3'], by rw [sV, e6, e5']⟩
  intro W P V ⟨fW, fP, fV, eW, eP, eV⟩
  rw [List.take_length] at eW eP eV
  have hu := uu_val
  have hth := th_le
  have ht0 := th_pos
  have hep : ep = 1 / 1099511627776 := rfl
  refine ⟨fW, fun hz => ?_, fun hnz => ?_⟩
  · rw [eW] at hz
    have hall := s0_zero hw hz
    refine ⟨f1, f2, fin_zero, by rw [fv_zero, hz], ?_, ?_, by rw [hz]; grind, by rw [hz]; grind, fun _ p hp' => by rw [hall p hp']; grind, fun _ h => absurd hz h⟩
    · have : ab (fv h.1) ≤ 1024 := b1
      grind
    · have : ab (fv h.2.1) ≤ 1024 := b2
      grind
  have hpos : 0 < s0 pw ps := by grind
  have mx := mean_mul (x := px) hw
  have my := mean_mul (x := py) hw
  have bmx := mean_bound hw hxb (by decide)
  have bmy := mean_bound hw hyb (by decide)
  have qP : fv P / fv W = mean pw px ps - px h := by
    rw [eP, eW, sum_dev, ← mx, show s0 pw ps * mean pw px ps - px h * s0 pw ps = (mean pw px ps - px h) * s0 pw ps by grind]
    exact Rat.mul_div_cancel (by grind)
  have qV : fv V / fv W = mean pw py ps := by rw [eV, eW]; rfl
  have hW2 := p900
  have hb1 : ab (px h) ≤ 1024 := b1
  have bq := ab_sub (mean pw px ps) (px h)
  obtain ⟨q, o1, ⟨fq, nq⟩, zq⟩ := div_ok fP fW hnz (by rw [qP]; grind)
  rw [qP] at nq
  obtain ⟨Y, o3, ⟨fY, nY⟩, _⟩ := div_ok fV fW hnz (by rw [qV]; grind)
  rw [qV] at nY
  rw [hu] at nq nY
  have aq := ab_add (fv q - (mean pw px ps - px h)) (mean pw px ps - px h)
  rw [show fv q - (mean pw px ps - px h) + (mean pw px ps - px h) = fv q by grind] at aq
  have asum := ab_add (mean pw px ps) (fv q - (mean pw px ps - px h))
  rw [show mean pw px ps + (fv q - (mean pw px ps - px h)) = fv h.1 + fv q by show _ = px h + fv q; grind] at asum
  have h89 := p800_900
  obtain ⟨X, o2, fX, nX, zX⟩ := add_ok (x := h.1) (y := q) f1 fq (by grind)
  rw [hu] at nX
  have dX := ab_add (fv X - (fv h.1 + fv q)) (fv q - (mean pw px ps - px h))
  rw [show fv X - (fv h.1 + fv q) + (fv q - (mean pw px ps - px h)) = fv X - mean pw px ps by show fv X - (px h + fv q) + _ = _; grind] at dX
  have bX' : ab (fv X - mean pw px ps) ≤ ep := by rw [hep]; grind
  have bY' : ab (fv Y - mean pw py ps) ≤ ep := by rw [hep]; grind
  have aX := ab_add (fv X - mean pw px ps) (mean pw px ps)
  rw [show fv X - mean pw px ps + mean pw px ps = fv X by grind] at aX
  have aY := ab_add (fv Y - mean pw py ps) (mean pw py ps)
  rw [show fv Y - mean pw py ps + mean pw py ps = fv Y by grind] at aY
  have exact0 : Pl pw px px ps = 0 → (∀ p, p ∈ ps → pw p * (px p - px h) = 0) ∧ fv X = px h ∧ mean pw px ps = px h := by
    intro h0
    have hd := dev_le hw hxi
    rw [h0] at hd
    have hall := all_zero (f := fun a => pw a * ab (px a - mean pw px ps)) (fun p hp' => Rat.mul_nonneg (hw p hp') (ab_nonneg _)) (by grind)
    have hh0 : pw h ≠ 0 := by
      intro hc
      have : s0 pw ps ≤ 0 := by
        have := Sm_le (f := pw) (g := fun _ => 0) (l := ps) (fun p hp' => by
          have := hmax p hp'
          grind)
        rw [Sm_zero] at this
        exact this
      grind
    have eh : px h = mean pw px ps := by
      rcases Rat.mul_eq_zero.1 (hall h hm) with e | e
      · exact absurd e hh0
      · have l1 := ab_le (px h - mean pw px ps)
        have l2 := ab_neg_le (px h - mean pw px ps)
        grind
    refine ⟨fun p hp' => ?_, ?_, eh.symm⟩
    · rcases Rat.mul_eq_zero.1 (hall p hp') with e | e
      · rw [e]; grind
      · have l1 := ab_le (px p - mean pw px ps)
        have l2 := ab_neg_le (px p - mean pw px ps)
        rw [eh, show px p - mean pw px ps = 0 by grind]; grind
    · have hP0 : fv P = 0 := by
        rw [eP, sum_dev, ← mx, eh]; grind
      have hq0 := zq hP0
      obtain ⟨X', o2', _, e2'⟩ := add_int (x := h.1) (y := q) f1 fq (by rw [hq0]; exact i1.add IsInt.zero) (by
        rw [hq0, show fv h.1 + 0 = px h by show px h + 0 = _; grind]; grind)
      have : X = X' := by rw [o2'] at o2; exact (Option.some.inj o2).symm
      rw [this, e2', hq0]
      show px h + 0 = px h
      grind
  refine ⟨q, X, Y, o1, o2, o3, fX, fY, fW, eW, by rw [hep] at bX'; grind, by rw [hep] at bY'; grind, Rat.mul_le_mul_of_nonneg_left bX' hW0, Rat.mul_le_mul_of_nonneg_left bY' hW0, ?_, ?_⟩
  · intro h0 p hp'
    obtain ⟨a1, a2, a3⟩ := exact0 h0
    rw [a2]; exact a1 p hp'
  · intro h0 _
    obtain ⟨a1, a2, a3⟩ := exact0 h0
    rw [a2, a3]; exact ⟨i1, rfl⟩
end Go.Proofs.Qxb6605538a.fl
