/-
  The moments of the groups' means, against what lies between the groups. No Go in sight.
-/
import Derived.Test.Qxb6605538aGm
namespace Go.Proofs.Qxb6605538a.fl
open Ieee

theorem expand {α : Type} (v a al b be : α → Rat) (dX dY : Rat) (l : List α) :
    Sm (fun g => v g * (a g + (al g - dX)) * (b g + (be g - dY))) l =
      Sm (fun g => v g * a g * b g) l + Sm (fun g => v g * a g * (be g - dY)) l + Sm (fun g => v g * b g * al g) l - dX * Sm (fun g => v g * b g) l + Sm (fun g => v g * (al g - dX) * (be g - dY)) l := by
  induction l with
  | nil => simp only [Sm_nil]; grind
  | cons x l ih => simp only [Sm_cons]; rw [ih]; grind
theorem cross_le {α : Type} {v f h : α → Rat} {k : Rat} {l : List α} (hv : ∀ g, g ∈ l → 0 ≤ v g) (hh : ∀ g, g ∈ l → v g * ab (h g) ≤ v g * k) :
    ab (Sm (fun g => v g * f g * h g) l) ≤ k * Sm (fun g => v g * ab (f g)) l := by
  rw [← Sm_mul]
  refine Rat.le_trans (ab_Sm _ _) (Sm_le fun g hg => ?_)
  rw [ab_mul, ab_mul, ab_of_nonneg (hv g hg)]
  have := Rat.mul_le_mul_of_nonneg_left (hh g hg) (ab_nonneg (f g))
  grind

def msOf (gs : List Gr) : List Pt := gs.map Gr.pt
theorem Sm_ms (f : Pt → Rat) (gs : List Gr) : Sm f (msOf gs) = Sm (fun g => f g.pt) gs := Sm_map f Gr.pt gs
theorem GrOk.pw {g : Gr} (h : GrOk g) : pw g.pt = vv g := h.ev
theorem GrOk.mpt {g : Gr} (h : GrOk g) : MPt g.pt := by
  refine ⟨h.hm.fX, h.hm.fY, h.fv_, ?_, h.hm.bX, h.hm.bY, ?_⟩
  · rw [h.pw]
    unfold vv
    refine IsInt.mul ?_ (IsInt.sum fun p hp => (h.hp p hp).2.2.2.2.2.1)
    rcases h.hc with e | e <;> rw [e]
    · exact IsInt.zero
    · exact IsInt.one
  · rw [h.pw]; exact h.v0
theorem ms_s0 {gs : List Gr} (h : ∀ g, g ∈ gs → GrOk g) : s0 pw (msOf gs) = s0 qw (pool gs) := by
  rw [pool_s0]
  unfold s0
  rw [Sm_ms]
  exact Sm_congr fun g hg => (h g hg).pw
theorem ms_pt {gs : List Gr} (h : ∀ g, g ∈ gs → GrOk g) : ∀ p, p ∈ msOf gs → MPt p := by
  intro p hp
  obtain ⟨g, hg, e⟩ := List.mem_map.1 hp
  rw [← e]; exact (h g hg).mpt
theorem ms_ptOk {gs : List Gr} (h : ∀ g, g ∈ gs → GrOk g) (hV : s0 qw (pool gs) ≤ 1048576) : ∀ p, p ∈ msOf gs → PtOk p := by
  intro p hp
  have hw := weigh_le (ps := msOf gs) (fun p hp => (ms_pt h p hp).2.2.2.2.2.2) p hp
  rw [ms_s0 h] at hw
  obtain ⟨f1, f2, f3, _, b1, b2, w0⟩ := ms_pt h p hp
  exact ⟨f1, f2, f3, by grind, by grind, w0, by grind⟩

theorem v_sum {gs : List Gr} : Sm vv gs = s0 qw (pool gs) := (pool_s0 gs).symm
theorem GrOk.al {g : Gr} (h : GrOk g) : vv g * ab (fv g.X - mean fl.pw px g.ps) ≤ vv g * ep := by
  have := Rat.mul_le_mul_of_nonneg_left h.hm.nX h.c0
  unfold vv; grind
theorem GrOk.be {g : Gr} (h : GrOk g) : vv g * ab (fv g.Y - mean fl.pw py g.ps) ≤ vv g * ep := by
  have := Rat.mul_le_mul_of_nonneg_left h.hm.nY h.c0
  unfold vv; grind

/-- the means' mean, against the pool's -/
theorem bar_near {gs : List Gr} (h : ∀ g, g ∈ gs → GrOk g) (x : Pt → Rat) (hx : ∀ g, g ∈ gs → vv g * ab (x g.pt - mean pw x g.ps) ≤ vv g * ep) (hpos : 0 < s0 qw (pool gs)) :
    ab (mean pw x (msOf gs) - mean qw (fun a => x a.2) (pool gs)) ≤ ep := by
  have h1 := mean_mul (w := qw) (x := fun a => x a.2) (pool_w h)
  have h2 := mean_mul (w := pw) (x := x) (l := msOf gs) (fun p hp => (ms_pt h p hp).2.2.2.2.2.2)
  rw [ms_s0 h] at h2
  have h3 : s1 pw x (msOf gs) - s1 qw (fun a => x a.2) (pool gs) = Sm (fun g => vv g * (x g.pt - mean pw x g.ps)) gs := by
    rw [pool_s1]
    unfold s1
    rw [Sm_ms]
    have : Sm (fun g => fl.pw g.pt * x g.pt) gs = Sm (fun g => vv g * (x g.pt - mean pw x g.ps) + g.c * Sm (fun a => pw a * x a) g.ps) gs := Sm_congr fun g hg => by
      rw [(h g hg).pw]
      have := mean_mul (x := x) (h g hg).hw
      unfold s1 at this
      rw [← this]
      unfold vv
      grind
    rw [this, Sm_add]
    grind
  have h4 : ab (Sm (fun g => vv g * (x g.pt - mean pw x g.ps)) gs) ≤ ep * s0 qw (pool gs) := by
    rw [← v_sum, ← Sm_mul]
    refine Rat.le_trans (ab_Sm _ _) (Sm_le fun g hg => ?_)
    rw [ab_mul, ab_of_nonneg (h g hg).v0]
    have := hx g hg
    grind
  rw [← h3, ← h1, ← h2] at h4
  refine le_of_mul hpos ?_
  have e : ab (mean pw x (msOf gs) - mean qw (fun a => x a.2) (pool gs)) * s0 qw (pool gs) = ab ((mean pw x (msOf gs) - mean qw (fun a => x a.2) (pool gs)) * s0 qw (pool gs)) := by
    rw [ab_mul, ab_of_nonneg (z := s0 qw (pool gs)) (Rat.le_of_lt hpos)]
  rw [e, show (mean pw x (msOf gs) - mean qw (fun a => x a.2) (pool gs)) * s0 qw (pool gs) = s0 qw (pool gs) * mean pw x (msOf gs) - s0 qw (pool gs) * mean qw (fun a => x a.2) (pool gs) by grind]
  exact h4

theorem bet_mom {gs : List Gr} {X Y W P S : Nat} (h : ∀ g, g ∈ gs → GrOk g) (hl : gs.length ≤ 4096) (hV : s0 qw (pool gs) ≤ 1048576)
    (hm : MeanMean (msOf gs) X Y W) (hr : MomRel (msOf gs) (fv X) (fv Y) (msOf gs).length P S) :
    Fin P ∧ Fin S ∧ ab (fv P - betP gs) ≤ 1 / 200 * poolS gs ∧ ab (fv S - betS gs) ≤ 1 / 4194304 * poolS gs := by
  obtain ⟨fP, fS, eP, eS, hz⟩ := hr
  rw [List.take_length] at eP eS
  have hlm : (msOf gs).length ≤ 4096 := by unfold msOf; rw [List.length_map]; exact hl
  refine ⟨fP, fS, ?_⟩
  have hSe := poolS_eq h
  have hcS : ∀ g, g ∈ gs → 0 ≤ g.c * gS g := fun g hg => Rat.mul_nonneg (h g hg).c0 (h g hg).S0
  have hva : ∀ g, g ∈ gs → 0 ≤ vv g * (mean pw px g.ps - barX gs) * (mean pw px g.ps - barX gs) := fun g hg => by
    have := Rat.mul_nonneg (h g hg).v0 (sq_nonneg (mean pw px g.ps - barX gs))
    grind
  have hcS0 := Sm_nonneg hcS
  have hva0 : 0 ≤ betS gs := Sm_nonneg hva
  rcases spread_half (pool_w h) (pool_wi h) (pool_xi h) with h0 | h2
  · have h0' : poolS gs = 0 := h0
    rw [h0'] at hSe
    have z1 := all_zero hcS (by grind)
    have z2 := all_zero hva (show betS gs ≤ 0 by grind)
    have hweigh : ∀ g, g ∈ gs → vv g ≠ 0 → IsInt (fv g.X) ∧ fv g.X = barX gs := by
      intro g hg hv
      have hc1 : g.c = 1 := by
        rcases (h g hg).hc with e | e
        · exact absurd (by unfold vv; rw [e]; grind) hv
        · exact e
      have hs : s0 pw g.ps ≠ 0 := by
        intro e; exact hv (by unfold vv; rw [e]; grind)
      have hS0 : Pl pw px px g.ps = 0 := by
        have := z1 g hg
        rw [hc1] at this
        unfold gS at this
        grind
      obtain ⟨i1, i2⟩ := (h g hg).hm.hi hS0 hs
      refine ⟨i1, ?_⟩
      rcases Rat.mul_eq_zero.1 (z2 g hg) with e | e
      · rcases Rat.mul_eq_zero.1 e with e | e
        · exact absurd e hv
        · rw [i2]; grind
      · rw [i2]; grind
    have hzz := hz (hm.hz (by
      intro p q hp hq h1 h2
      obtain ⟨g1, hg1, rfl⟩ := List.mem_map.1 hp
      obtain ⟨g2, hg2, rfl⟩ := List.mem_map.1 hq
      rw [(h g1 hg1).pw] at h1
      rw [(h g2 hg2).pw] at h2
      exact (hweigh g1 hg1 h1).2.trans (hweigh g2 hg2 h2).2.symm) (by
      intro p hp h1
      obtain ⟨g1, hg1, rfl⟩ := List.mem_map.1 hp
      rw [(h g1 hg1).pw] at h1
      exact (hweigh g1 hg1 h1).1))
    have eB : betP gs = 0 := zero_all fun g hg => by
      rcases Rat.mul_eq_zero.1 (z2 g hg) with e | e
      · rw [e]; grind
      · rw [e]; grind
    have eC : betS gs = 0 := by grind
    rw [hzz.1, hzz.2, eB, eC, h0', show (0 : Rat) - 0 = 0 by grind, ab_zero]
    exact ⟨by grind, by grind⟩
  have h2' : 1 / 2 ≤ poolS gs := h2
  have hV0 : 0 ≤ s0 qw (pool gs) := s0_nonneg (pool_w h)
  have hpos : 0 < s0 qw (pool gs) := by
    by_cases hc : s0 qw (pool gs) = 0
    · have hz' := s0_zero (pool_w h) hc
      have : poolS gs = 0 := by
        unfold poolS
        rw [Pl_self (pool_w h)]
        exact zero_all fun a ha => by rw [hz' a ha]; grind
      grind
    · grind
  have hep : ep = 1 / 1099511627776 := rfl
  have hde : de = 1 / 33554432 := rfl
  have nX := hm.nX
  have nY := hm.nY
  rw [ms_s0 h] at nX nY
  have nX' : ab (fv X - mean pw px (msOf gs)) ≤ de := le_of_mul hpos (by grind)
  have nY' : ab (fv Y - mean pw py (msOf gs)) ≤ de := le_of_mul hpos (by grind)
  have mX : ab (mean pw px (msOf gs) - barX gs) ≤ ep := bar_near h px (fun g hg => (h g hg).al) hpos
  have mY : ab (mean pw py (msOf gs) - barY gs) ≤ ep := bar_near h py (fun g hg => (h g hg).be) hpos
  have dX : ab (fv X - barX gs) ≤ de + ep := by
    have := ab_add (fv X - mean pw px (msOf gs)) (mean pw px (msOf gs) - barX gs)
    rw [show fv X - mean pw px (msOf gs) + (mean pw px (msOf gs) - barX gs) = fv X - barX gs by grind] at this
    grind
  have dY : ab (fv Y - barY gs) ≤ de + ep := by
    have := ab_add (fv Y - mean pw py (msOf gs)) (mean pw py (msOf gs) - barY gs)
    rw [show fv Y - mean pw py (msOf gs) + (mean pw py (msOf gs) - barY gs) = fv Y - barY gs by grind] at this
    grind
  have hdev := bet_dev h
  have hv : ∀ g, g ∈ gs → 0 ≤ vv g := fun g hg => (h g hg).v0
  -- the shifts
  have sX : ∀ g, g ∈ gs → vv g * ab (fv g.X - mean pw px g.ps - (fv X - barX gs)) ≤ vv g * (1 / 33550000) := by
    intro g hg
    have a1 := (h g hg).al
    have a2 := ab_sub (fv g.X - mean pw px g.ps) (fv X - barX gs)
    have a3 := Rat.mul_le_mul_of_nonneg_left a2 (hv g hg)
    have a4 := Rat.mul_le_mul_of_nonneg_left dX (hv g hg)
    have a5 := hv g hg
    rw [hep] at a1
    rw [hep, hde] at a4
    grind
  have sY : ∀ g, g ∈ gs → vv g * ab (fv g.Y - mean pw py g.ps - (fv Y - barY gs)) ≤ vv g * (1 / 33550000) := by
    intro g hg
    have a1 := (h g hg).be
    have a2 := ab_sub (fv g.Y - mean pw py g.ps) (fv Y - barY gs)
    have a3 := Rat.mul_le_mul_of_nonneg_left a2 (hv g hg)
    have a4 := Rat.mul_le_mul_of_nonneg_left dY (hv g hg)
    have a5 := hv g hg
    rw [hep] at a1
    rw [hep, hde] at a4
    grind
  have sXs : Sm (fun g => vv g * ab (fv g.X - mean pw px g.ps - (fv X - barX gs))) gs ≤ 1 / 33550000 * s0 qw (pool gs) := by
    rw [← v_sum, ← Sm_mul]
    exact Sm_le fun g hg => by have := sX g hg; grind
  have bY : Sm (fun g => vv g * ab (mean pw py g.ps - barY gs)) gs ≤ 2048 * s0 qw (pool gs) := by
    rw [← v_sum, ← Sm_mul]
    refine Sm_le fun g hg => ?_
    have a1 := ab_sub (mean pw py g.ps) (barY gs)
    have a2 : ab (barY gs) ≤ 1024 := mean_bound (pool_w h) (pool_yb h) (by decide)
    have a3 := mean_bound (h g hg).hw (x := py) (B := 1024) (fun p hp => ((h g hg).hp p hp).2.2.2.2.2.2.2.1) (by decide)
    have := Rat.mul_le_mul_of_nonneg_left (show ab (mean pw py g.ps - barY gs) ≤ 2048 by grind) (hv g hg)
    grind
  -- the terms
  have xP := expand vv (fun g => mean pw px g.ps - barX gs) (fun g => fv g.X - mean pw px g.ps) (fun g => mean pw py g.ps - barY gs) (fun g => fv g.Y - mean pw py g.ps) (fv X - barX gs) (fv Y - barY gs) gs
  have xS := expand vv (fun g => mean pw px g.ps - barX gs) (fun g => fv g.X - mean pw px g.ps) (fun g => mean pw px g.ps - barX gs) (fun g => fv g.X - mean pw px g.ps) (fv X - barX gs) (fv X - barX gs) gs
  have tP : Sm (mP (fv X) (fv Y)) (msOf gs) = Sm (fun g => vv g * (mean pw px g.ps - barX gs + (fv g.X - mean pw px g.ps - (fv X - barX gs))) * (mean pw py g.ps - barY gs + (fv g.Y - mean pw py g.ps - (fv Y - barY gs)))) gs := by
    rw [Sm_ms]
    refine Sm_congr fun g hg => ?_
    unfold mP
    rw [(h g hg).pw]
    show vv g * (fv g.X - fv X) * (fv g.Y - fv Y) = _
    grind
  have tS : Sm (mS (fv X)) (msOf gs) = Sm (fun g => vv g * (mean pw px g.ps - barX gs + (fv g.X - mean pw px g.ps - (fv X - barX gs))) * (mean pw px g.ps - barX gs + (fv g.X - mean pw px g.ps - (fv X - barX gs)))) gs := by
    rw [Sm_ms]
    refine Sm_congr fun g hg => ?_
    unfold mS
    rw [(h g hg).pw]
    show vv g * (fv g.X - fv X) * (fv g.X - fv X) = _
    grind
  have zY : Sm (fun g => vv g * (mean pw py g.ps - barY gs)) gs = 0 := bet_zero h py
  have zX : Sm (fun g => vv g * (mean pw px g.ps - barX gs)) gs = 0 := bet_zero h px
  have c1 := cross_le (f := fun g => mean pw px g.ps - barX gs) hv sY
  have c2 := cross_le (f := fun g => mean pw px g.ps - barX gs) hv sX
  have c3 := cross_le (f := fun g => mean pw py g.ps - barY gs) hv (fun g hg => (h g hg).al)
  have c4 := cross_le (f := fun g => mean pw px g.ps - barX gs) hv (fun g hg => (h g hg).al)
  have c5 := cross_le (f := fun g => fv g.X - mean pw px g.ps - (fv X - barX gs)) hv sY
  have c6 := cross_le (f := fun g => fv g.X - mean pw px g.ps - (fv X - barX gs)) hv sX
  have eB : Sm (fun g => vv g * (mean pw px g.ps - barX gs) * (mean pw py g.ps - barY gs)) gs = betP gs := rfl
  have eC : Sm (fun g => vv g * (mean pw px g.ps - barX gs) * (mean pw px g.ps - barX gs)) gs = betS gs := rfl
  rw [zY, eB] at xP
  rw [zX, eC] at xS
  have nAP : 0 ≤ Sm (fun p => ab (mP (fv X) (fv Y) p)) (msOf gs) := Sm_nonneg fun _ _ => ab_nonneg _
  have nAS : 0 ≤ Sm (fun p => ab (mS (fv X) p)) (msOf gs) := Sm_nonneg fun _ _ => ab_nonneg _
  have gP := mom_err hlm nAP eP
  have gS' := mom_err hlm nAS eS
  have bAP : Sm (fun p => ab (mP (fv X) (fv Y) p)) (msOf gs) ≤ 2051 * (2 * poolS gs + 1 / 33550000 * s0 qw (pool gs)) := by
    have a1 : Sm (fun p => ab (mP (fv X) (fv Y) p)) (msOf gs) ≤ Sm (fun g => 2051 * (vv g * ab (mean pw px g.ps - barX gs) + vv g * ab (fv g.X - mean pw px g.ps - (fv X - barX gs)))) gs := by
      rw [Sm_ms]
      refine Sm_le fun g hg => ?_
      unfold mP
      rw [ab_mul, ab_mul, (h g hg).pw, ab_of_nonneg (hv g hg)]
      show vv g * ab (fv g.X - fv X) * ab (fv g.Y - fv Y) ≤ _
      have b1 := ab_add (mean pw px g.ps - barX gs) (fv g.X - mean pw px g.ps - (fv X - barX gs))
      rw [show mean pw px g.ps - barX gs + (fv g.X - mean pw px g.ps - (fv X - barX gs)) = fv g.X - fv X by grind] at b1
      have b2 := ab_sub (fv g.Y) (fv Y)
      have b3 := (h g hg).hm.bY
      have b4 := hm.bY
      have b5 := Rat.mul_le_mul_of_nonneg_left b1 (hv g hg)
      have b6 := Rat.mul_nonneg (hv g hg) (ab_nonneg (fv g.X - fv X))
      have b7 := Rat.mul_le_mul_of_nonneg_left (show ab (fv g.Y - fv Y) ≤ 2051 by grind) b6
      grind
    rw [Sm_mul, Sm_add] at a1
    grind
  have bAS : Sm (fun p => ab (mS (fv X) p)) (msOf gs) = Sm (mS (fv X)) (msOf gs) := Sm_congr fun p hp => by
    rw [ab_of_nonneg]
    unfold mS
    have := Rat.mul_nonneg ((ms_pt h p hp).2.2.2.2.2.2) (sq_nonneg (px p - fv X))
    grind
  rw [bAS] at gS' nAS
  have hth := th_le2
  rw [tP] at gP
  rw [tS] at gS'
  rw [tS] at nAS
  have xP' := xP
  have xS' := xS
  rw [hep] at c3 c4
  clear xP xS tP tS zX zY eB eC eP eS hz bAS hm h hva hcS sX sY hv
  generalize Sm (fun g => vv g * (mean pw px g.ps - barX gs + (fv g.X - mean pw px g.ps - (fv X - barX gs))) * (mean pw py g.ps - barY gs + (fv g.Y - mean pw py g.ps - (fv Y - barY gs)))) gs = M1 at *
  generalize Sm (fun g => vv g * (mean pw px g.ps - barX gs + (fv g.X - mean pw px g.ps - (fv X - barX gs))) * (mean pw px g.ps - barX gs + (fv g.X - mean pw px g.ps - (fv X - barX gs)))) gs = M2 at *
  generalize Sm (fun g => vv g * (mean pw px g.ps - barX gs) * (fv g.Y - mean pw py g.ps - (fv Y - barY gs))) gs = E1 at *
  generalize Sm (fun g => vv g * (mean pw px g.ps - barX gs) * (fv g.X - mean pw px g.ps - (fv X - barX gs))) gs = E2 at *
  generalize Sm (fun g => vv g * (mean pw py g.ps - barY gs) * (fv g.X - mean pw px g.ps)) gs = E3 at *
  generalize Sm (fun g => vv g * (mean pw px g.ps - barX gs) * (fv g.X - mean pw px g.ps)) gs = E4 at *
  generalize Sm (fun g => vv g * (fv g.X - mean pw px g.ps - (fv X - barX gs)) * (fv g.Y - mean pw py g.ps - (fv Y - barY gs))) gs = E5 at *
  generalize Sm (fun g => vv g * (fv g.X - mean pw px g.ps - (fv X - barX gs)) * (fv g.X - mean pw px g.ps - (fv X - barX gs))) gs = E6 at *
  constructor
  · have a1 := ab_add (fv P - M1) (M1 - betP gs)
    rw [show fv P - M1 + (M1 - betP gs) = fv P - betP gs by grind] at a1
    have a2 := ab_add E1 (E3 + E5)
    have a3 := ab_add E3 E5
    rw [show E1 + (E3 + E5) = M1 - betP gs by grind] at a2
    grind
  · have a1 := ab_add (fv S - M2) (M2 - betS gs)
    rw [show fv S - M2 + (M2 - betS gs) = fv S - betS gs by grind] at a1
    have a2 := ab_add E2 (E4 + E6)
    have a3 := ab_add E4 E6
    rw [show E2 + (E4 + E6) = M2 - betS gs by grind] at a2
    have a4 := ab_le (M2 - betS gs)
    grind
end Go.Proofs.Qxb6605538a.fl
