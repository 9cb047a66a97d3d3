/-
  'weightedMean' of the groups' means, rounding for rounding. No Go in sight.
-/
import Derived.Test.Qxb6605538aWm
namespace Go.Proofs.Qxb6605538a.fl
open Ieee

def MPt (p : Pt) : Prop := Fin p.1 ∧ Fin p.2.1 ∧ Fin p.2.2 ∧ IsInt (pw p) ∧ ab (px p) ≤ 1025 ∧ ab (py p) ≤ 1025 ∧ 0 ≤ pw p
def de : Rat := 1 / 33554432
structure MeanMean (ps : List Pt) (X Y W : Nat) : Prop where
  fX : Fin X
  fY : Fin Y
  bX : ab (fv X) ≤ 1026
  bY : ab (fv Y) ≤ 1026
  nX : s0 pw ps * ab (fv X - mean pw px ps) ≤ s0 pw ps * de
  nY : s0 pw ps * ab (fv Y - mean pw py ps) ≤ s0 pw ps * de
  hz : (∀ p q, p ∈ ps → q ∈ ps → pw p ≠ 0 → pw q ≠ 0 → px p = px q) → (∀ p, p ∈ ps → pw p ≠ 0 → IsInt (px p)) → ∀ p, p ∈ ps → pw p * (px p - fv X) = 0

theorem weigh_le {ps : List Pt} (hw : ∀ p, p ∈ ps → 0 ≤ pw p) : ∀ p, p ∈ ps → pw p ≤ s0 pw ps := by
  unfold s0
  induction ps with
  | nil => intro p h; cases h
  | cons a l ih =>
    intro p h
    rw [Sm_cons]
    have h1 := Sm_nonneg (f := pw) (l := l) (fun p h => hw p (by simp [h]))
    have h2 := hw a (by simp)
    rcases List.mem_cons.1 h with e | e
    · rw [e]; grind
    · have := ih (fun p h => hw p (by simp [h])) p e
      grind

/-- a quotient by a weight of 1 or more -/
theorem quot_dev {P V m c : Rat} (hV : 1 ≤ V) (h : ab (P - V * m) ≤ V * c) : ab (P / V - m) ≤ c := by
  have hp : 0 < V := by grind
  refine le_of_mul hp ?_
  have e1 : ab (P / V - m) * V = ab ((P / V - m) * V) := by rw [ab_mul, ab_of_nonneg (z := V) (by grind)]
  rw [e1]
  have e2 : (P / V - m) * V = P - V * m := by
    have := Rat.div_mul_cancel (a := P) (b := V) (by grind)
    grind
  rw [e2]
  grind

theorem mean_spec {ps : List Pt} (hp : ∀ p, p ∈ ps → MPt p) (hl : ps.length ≤ 4096) (hW : s0 pw ps ≤ 1048576) : WmSpec ps (MeanMean ps) := by
  have hw : ∀ p, p ∈ ps → 0 ≤ pw p := fun p h => (hp p h).2.2.2.2.2.2
  have hW0 := s0_nonneg hw
  have hwi : ∀ p, p ∈ ps → IsInt (pw p) := fun p h => (hp p h).2.2.2.1
  have hxb : ∀ p, p ∈ ps → ab (px p) ≤ 1025 := fun p h => (hp p h).2.2.2.2.1
  have hyb : ∀ p, p ∈ ps → ab (py p) ≤ 1025 := fun p h => (hp p h).2.2.2.2.2.1
  have hwl := weigh_le hw
  refine ⟨fun p h => (hp p h).2.2.1, ?_, ?_⟩
  · intro e
    subst e
    refine ⟨fin_zero, fin_zero, ?_, ?_, ?_, ?_, fun _ _ p hp => (by cases hp)⟩
    · rw [fv_zero, ab_zero]; decide
    · rw [fv_zero, ab_zero]; decide
    · show (0 : Rat) * _ ≤ 0 * _; grind
    · show (0 : Rat) * _ ≤ 0 * _; grind
  intro h hh
  obtain ⟨hm, hmax⟩ := hh
  obtain ⟨f1, f2, f3, i3, b1, b2, w0⟩ := hp h hm
  have hu := uu_val
  have hth := th_le
  have ht0 := th_pos
  -- the sums of what the terms weigh
  have bA1 : Sm (fun p => ab (pw p * (px p - px h))) ps ≤ 2050 * s0 pw ps := by
    unfold s0
    rw [← Sm_mul]
    refine Sm_le fun p hp' => ?_
    rw [ab_mul, ab_of_nonneg (hw p hp')]
    have := ab_sub (px p) (px h)
    have := hxb p hp'
    have := Rat.mul_le_mul_of_nonneg_left (show ab (px p - px h) ≤ 2050 by grind) (hw p hp')
    grind
  have bA2 : Sm (fun p => ab (pw p * py p)) ps ≤ 1025 * s0 pw ps := by
    unfold s0
    rw [← Sm_mul]
    refine Sm_le fun p hp' => ?_
    rw [ab_mul, ab_of_nonneg (hw p hp')]
    have := Rat.mul_le_mul_of_nonneg_left (hyb p hp') (hw p hp')
    grind
  have nA1 : 0 ≤ Sm (fun p => ab (pw p * (px p - px h))) ps := Sm_nonneg fun _ _ => ab_nonneg _
  have nA2 : 0 ≤ Sm (fun p => ab (pw p * py p)) ps := Sm_nonneg fun _ _ => ab_nonneg _
  refine ⟨fun k W P V => Fin W ∧ Fin P ∧ Fin V ∧ fv W = s0 pw (ps.take k) ∧
    ab (fv P - Sm (fun p => pw p * (px p - px h)) (ps.take k)) ≤ (k : Rat) * Be (Sm (fun p => ab (pw p * (px p - px h))) ps) ∧
    ab (fv V - Sm (fun p => pw p * py p) (ps.take k)) ≤ (k : Rat) * Be (Sm (fun p => ab (pw p * py p)) ps) ∧
    ((∀ p, p ∈ ps → pw p * (px p - px h) = 0) → fv P = 0), ?_, ?_, ?_⟩
  · refine ⟨fin_zero, fin_zero, fin_zero, by rw [fv_zero]; rfl, ?_, ?_, fun _ => fv_zero⟩
    · rw [fv_zero, List.take_zero, Sm_nil, show (0 : Rat) - 0 = 0 by grind, ab_zero]
      have := Be_nonneg nA1
      have : ((0 : Nat) : Rat) = 0 := rfl
      grind
    · rw [fv_zero, List.take_zero, Sm_nil, show (0 : Rat) - 0 = 0 by grind, ab_zero]
      have := Be_nonneg nA2
      have : ((0 : Nat) : Rat) = 0 := rfl
      grind
  · intro k hk W P V ⟨fW, fP, fV, eW, eP, eV, zP⟩
    have hmem : ps[k] ∈ ps := List.getElem_mem hk
    obtain ⟨g1, g2, g3, j3, c1, c2, v0⟩ := hp _ hmem
    have v1 := hwl _ hmem
    have sW : s0 pw (ps.take (k + 1)) = fv W + pw ps[k] := by unfold s0; rw [Sm_take _ _ _ hk, eW]; rfl
    have hmt : ∀ p, p ∈ ps.take (k + 1) → p ∈ ps := fun p h => List.mem_of_mem_take h
    have hkW := take_le hw (k + 1)
    have hkW0 : 0 ≤ s0 pw (ps.take (k + 1)) := s0_nonneg fun p h => hw p (hmt p h)
    have iW : IsInt (fv W + pw ps[k]) := by rw [← sW]; exact IsInt.sum fun p h => hwi p (hmt p h)
    have bW : ab (fv W + pw ps[k]) ≤ 1048576 := by rw [← sW, ab_of_nonneg hkW0]; grind
    obtain ⟨W', o1, q1, e1⟩ := add_int (x := W) (y := (ps[k]).2.2) fW g3 iW (Rat.le_trans bW (by decide))
    obtain ⟨d, o2, fd, ed, bD, zd⟩ := diff_ok (x := (ps[k]).1) (X := h.1) g1 f1 (Rat.le_trans c1 (by decide)) (Rat.le_trans b1 (by decide))
    obtain ⟨t, o3, ft, et, bT, zt⟩ := wd_ok (w := (ps[k]).2.2) (d := d) g3 fd v0 (show pw ps[k] ≤ 1048576 by grind) bD ed
    have partP : ab (Sm (fun p => pw p * (px p - px h)) (ps.take k)) + ab (pw ps[k] * (px ps[k] - px h)) ≤ Sm (fun p => ab (pw p * (px p - px h))) ps := by
      have a1 := ab_Sm (fun p => pw p * (px p - px h)) (ps.take k)
      have a2 := Sm_take (fun p => ab (pw p * (px p - px h))) ps k hk
      have a3 := Sm_take_le (f := fun p => ab (pw p * (px p - px h))) (l := ps) (fun _ _ => ab_nonneg _) (k + 1)
      grind
    have partV : ab (Sm (fun p => pw p * py p) (ps.take k)) + ab (pw ps[k] * py ps[k]) ≤ Sm (fun p => ab (pw p * py p)) ps := by
      have a1 := ab_Sm (fun p => pw p * py p) (ps.take k)
      have a2 := Sm_take (fun p => ab (pw p * py p)) ps k hk
      have a3 := Sm_take_le (f := fun p => ab (pw p * py p)) (l := ps) (fun _ _ => ab_nonneg _) (k + 1)
      grind
    have h900 := p900
    have h89 := p800_900
    have v2 : ab (pw ps[k]) ≤ 1048576 := by rw [ab_of_nonneg v0]; grind
    have bu := ab_mul_le (a := fv (ps[k]).2.2) (b := fv (ps[k]).2.1) v2 c2
    obtain ⟨u, o5, fu, eu, _⟩ := mul_ok (x := (ps[k]).2.2) (y := (ps[k]).2.1) g3 g2 (by grind)
    have et' : ab (fv t - pw ps[k] * (px ps[k] - px h)) ≤ 7 * (uu * ab (pw ps[k] * (px ps[k] - px h))) + 1099511627776 * th := by
      have n := Rat.mul_nonneg (Rat.le_of_lt uu_pos) (ab_nonneg (pw ps[k] * (px ps[k] - px h)))
      have et2 : ab (fv t - pw ps[k] * (px ps[k] - px h)) ≤ 3 * (uu * ab (pw ps[k] * (px ps[k] - px h))) + 4194304 * th := et
      grind
    have eu' : ab (fv u - pw ps[k] * py ps[k]) ≤ 7 * (uu * ab (pw ps[k] * py ps[k])) + 1099511627776 * th := by
      have n := Rat.mul_nonneg (Rat.le_of_lt uu_pos) (ab_nonneg (pw ps[k] * py ps[k]))
      have eu2 : ab (fv u - pw ps[k] * py ps[k]) ≤ uu * (ab (pw ps[k] * py ps[k]) + th) := eu
      rw [hu] at eu2 n ⊢
      grind
    obtain ⟨P', o4, fP', eP', zP'⟩ := acc_ok fP ft (by omega) eP et' partP (by grind)
    obtain ⟨V', o6, fV', eV', _⟩ := acc_ok fV fu (by omega) eV eu' partV (by grind)
    refine ⟨W', d, t, P', u, V', o1, o2, o3, o4, o5, o6, q1, fP', fV', by rw [sW, e1]; rfl, by rw [Sm_take _ _ _ hk]; exact eP', by rw [Sm_take _ _ _ hk]; exact eV', ?_⟩
    intro hall
    refine zP' (zP hall) (zt ?_)
    rcases Rat.mul_eq_zero.1 (hall _ hmem) with e | e
    · have : fv (ps[k]).2.2 = 0 := e
      rw [this]; grind
    · rw [zd e]; grind
  intro W P V ⟨fW, fP, fV, eW, eP, eV, zP⟩
  rw [List.take_length] at eW eP eV
  have hde : de = 1 / 33554432 := rfl
  refine ⟨fW, fun hz => ?_, fun hnz => ?_⟩
  · rw [eW] at hz
    have hall := s0_zero hw hz
    refine ⟨f1, f2, ?_, ?_, by rw [hz]; grind, by rw [hz]; grind, fun _ _ p hp' => by rw [hall p hp']; grind⟩
    · have : ab (fv h.1) ≤ 1025 := b1
      grind
    · have : ab (fv h.2.1) ≤ 1025 := b2
      grind
  have hpos : 0 < s0 pw ps := by grind
  have hge : 1 ≤ s0 pw ps := (IsInt.sum hwi).ge_one hpos
  have mx := mean_mul (x := px) hw
  have my := mean_mul (x := py) hw
  have bmx := mean_bound hw hxb (by decide)
  have bmy := mean_bound hw hyb (by decide)
  have hn : (ps.length : Rat) ≤ 4096 := by
    have := Rat.natCast_le_natCast.2 hl
    have e : ((4096 : Nat) : Rat) = 4096 := by decide
    grind
  have nP := Rat.mul_le_mul_of_nonneg_right hn (Be_nonneg nA1)
  have nV := Rat.mul_le_mul_of_nonneg_right hn (Be_nonneg nA2)
  have xP : ab (fv P - s0 pw ps * (mean pw px ps - px h)) ≤ s0 pw ps * (1 / 60000000) := by
    rw [show s0 pw ps * (mean pw px ps - px h) = Sm (fun p => pw p * (px p - px h)) ps by rw [sum_dev, ← mx]; grind]
    have hBe : Be (Sm (fun p => ab (pw p * (px p - px h))) ps) = 16 * (uu * Sm (fun p => ab (pw p * (px p - px h))) ps) + 4398046511104 * th := rfl
    rw [hBe, hu] at nP eP
    grind
  have xV : ab (fv V - s0 pw ps * mean pw py ps) ≤ s0 pw ps * (1 / 60000000) := by
    rw [my]
    have hBe : Be (Sm (fun p => ab (pw p * py p)) ps) = 16 * (uu * Sm (fun p => ab (pw p * py p)) ps) + 4398046511104 * th := rfl
    rw [hBe, hu] at nV eV
    unfold s1
    grind
  have yP := quot_dev hge xP
  have yV := quot_dev hge xV
  rw [← eW] at yP yV
  have hb1 : ab (px h) ≤ 1025 := b1
  have h900 := p900
  have h89 := p800_900
  have bq := ab_sub (mean pw px ps) (px h)
  have aq := ab_add (fv P / fv W - (mean pw px ps - px h)) (mean pw px ps - px h)
  rw [show fv P / fv W - (mean pw px ps - px h) + (mean pw px ps - px h) = fv P / fv W by grind] at aq
  have av := ab_add (fv V / fv W - mean pw py ps) (mean pw py ps)
  rw [show fv V / fv W - mean pw py ps + mean pw py ps = fv V / fv W by grind] at av
  obtain ⟨q, o1, ⟨fq, nq⟩, zq⟩ := div_ok fP fW hnz (by grind)
  obtain ⟨Y, o3, ⟨fY, nY⟩, _⟩ := div_ok fV fW hnz (by grind)
  rw [hu] at nq nY
  have dq := ab_add (fv q - fv P / fv W) (fv P / fv W - (mean pw px ps - px h))
  rw [show fv q - fv P / fv W + (fv P / fv W - (mean pw px ps - px h)) = fv q - (mean pw px ps - px h) by grind] at dq
  have dY := ab_add (fv Y - fv V / fv W) (fv V / fv W - mean pw py ps)
  rw [show fv Y - fv V / fv W + (fv V / fv W - mean pw py ps) = fv Y - mean pw py ps by grind] at dY
  have asum := ab_add (mean pw px ps) (fv q - (mean pw px ps - px h))
  rw [show mean pw px ps + (fv q - (mean pw px ps - px h)) = fv h.1 + fv q by show _ = px h + fv q; grind] at asum
  obtain ⟨X, o2, fX, nX, zX⟩ := add_ok (x := h.1) (y := q) f1 fq (by grind)
  rw [hu] at nX
  have dX := ab_add (fv X - (fv h.1 + fv q)) (fv q - (mean pw px ps - px h))
  rw [show fv X - (fv h.1 + fv q) + (fv q - (mean pw px ps - px h)) = fv X - mean pw px ps by show fv X - (px h + fv q) + _ = _; grind] at dX
  have bX' : ab (fv X - mean pw px ps) ≤ de := by rw [hde]; grind
  have bY' : ab (fv Y - mean pw py ps) ≤ de := by rw [hde]; grind
  have aX := ab_add (fv X - mean pw px ps) (mean pw px ps)
  rw [show fv X - mean pw px ps + mean pw px ps = fv X by grind] at aX
  have aY := ab_add (fv Y - mean pw py ps) (mean pw py ps)
  rw [show fv Y - mean pw py ps + mean pw py ps = fv Y by grind] at aY
  refine ⟨q, X, Y, o1, o2, o3, fX, fY, by rw [hde] at bX'; grind, by rw [hde] at bY'; grind, Rat.mul_le_mul_of_nonneg_left bX' hW0, Rat.mul_le_mul_of_nonneg_left bY' hW0, ?_⟩
  intro hsame hint
  have hh0 : pw h ≠ 0 := by
    intro hc
    have : s0 pw ps ≤ 0 := by
      have := Sm_le (f := pw) (g := fun _ => 0) (l := ps) (fun p hp' => by
        have := hmax p hp'
        grind)
      rw [Sm_zero] at this
      exact this
    grind
  have hall : ∀ p, p ∈ ps → pw p * (px p - px h) = 0 := by
    intro p hp'
    by_cases h0 : pw p = 0
    · rw [h0]; grind
    · rw [hsame p h hp' hm h0 hh0]; grind
  have hq0 := zq (zP hall)
  obtain ⟨X', o2', _, e2'⟩ := add_int (x := h.1) (y := q) f1 fq (by rw [hq0]; exact (hint h hm hh0).add IsInt.zero) (by
    rw [hq0, show fv h.1 + 0 = px h by show px h + 0 = _; grind]; grind)
  have : X = X' := by rw [o2'] at o2; exact (Option.some.inj o2).symm
  have eX : fv X = px h := by
    rw [this, e2', hq0]
    show px h + 0 = px h
    grind
  rw [eX]
  exact hall
end Go.Proofs.Qxb6605538a.fl
