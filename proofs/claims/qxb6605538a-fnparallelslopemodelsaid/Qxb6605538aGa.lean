/-
  The slope as a function of the groups' points and of what they are pooled at alone. No Go in sight.
-/
import Derived.Test.Qxb6605538aSl
namespace Go.Proofs.Qxb6605538a.fl
open Ieee

abbrev Gk := Rat × List Pt
def key (g : Gr) : Gk := (g.c, g.ps)
def poolc (qs : List Gk) : List (Rat × Pt) := qs.flatMap fun q => q.2.map fun p => (q.1, p)
theorem pool_key (gs : List Gr) : pool gs = poolc (gs.map key) := by
  unfold pool poolc
  rw [List.flatMap_map]
  rfl
def TSc (qs : List Gk) : Rat := Sm (fun q => Pl pw px px q.2) qs + Sm (fun q => q.1 * s0 pw q.2 * (mean pw px q.2 - mean qw qx (poolc qs)) * (mean pw px q.2 - mean qw qx (poolc qs))) qs
def TPc (qs : List Gk) : Rat := Sm (fun q => Pl pw px py q.2) qs + Sm (fun q => q.1 * s0 pw q.2 * (mean pw px q.2 - mean qw qx (poolc qs)) * (mean pw py q.2 - mean qw qy (poolc qs))) qs
theorem TS_key (gs : List Gr) : TS gs = TSc (gs.map key) := by
  unfold TS TSc betS barX
  rw [Sm_map, Sm_map, pool_key]
  rfl
theorem TP_key (gs : List Gr) : TP gs = TPc (gs.map key) := by
  unfold TP TPc betP barX barY
  rw [Sm_map, Sm_map, pool_key]
  rfl
def QOk (q : Gk) : Prop := (∀ p, p ∈ q.2 → GPt p) ∧ q.2.length ≤ 4096 ∧ (q.1 = 0 ∨ q.1 = 1)

/-- there is a heaviest point -/
theorem heavy_ex : ∀ ps : List Pt, ps ≠ [] → ∃ h, Heavy ps h := by
  intro ps
  induction ps with
  | nil => intro h; exact absurd rfl h
  | cons a l ih =>
    intro _
    by_cases hl : l = []
    · subst hl
      exact ⟨a, by simp, fun p hp => by simp at hp; rw [hp]; exact Rat.le_refl⟩
    · obtain ⟨h, h1, h2⟩ := ih hl
      rcases tot (pw a) (pw h) with hle | hle
      · exact ⟨h, by simp [h1], fun p hp => by
          rcases List.mem_cons.1 hp with e | e
          · rw [e]; exact hle
          · exact h2 p e⟩
      · exact ⟨a, by simp, fun p hp => by
          rcases List.mem_cons.1 hp with e | e
          · rw [e]; exact Rat.le_refl
          · exact Rat.le_trans (h2 p e) hle⟩
theorem wm_ex {ps : List Pt} {R : Nat → Nat → Nat → Prop} (h : WmSpec ps R) : ∃ X Y W, R X Y W := by
  obtain ⟨_, h0, hs⟩ := h
  by_cases e : ps = []
  · exact ⟨0, 0, 0, h0 e⟩
  obtain ⟨hv, hh⟩ := heavy_ex ps e
  obtain ⟨I, i0, hst, hend⟩ := hs hv hh
  have : ∀ k, k ≤ ps.length → ∃ W P V, I k W P V := by
    intro k
    induction k with
    | zero => intro _; exact ⟨0, 0, 0, i0⟩
    | succ k ih =>
      intro hk
      obtain ⟨W, P, V, hI⟩ := ih (by omega)
      obtain ⟨W', _, _, P', _, V', _, _, _, _, _, _, hI'⟩ := hst k (by omega) W P V hI
      exact ⟨W', P', V', hI'⟩
  obtain ⟨W, P, V, hI⟩ := this ps.length (Nat.le_refl _)
  obtain ⟨_, hz, hnz⟩ := hend W P V hI
  by_cases hW : fv W = 0
  · exact ⟨_, _, _, hz hW⟩
  · obtain ⟨q, X, Y, _, _, _, hR⟩ := hnz hW
    exact ⟨X, Y, W, hR⟩
theorem gr_ex {q : Gk} (h : QOk q) : ∃ g, GrOk g ∧ key g = q := by
  obtain ⟨h1, h2, h3⟩ := h
  obtain ⟨X, Y, W, hg⟩ := wm_ex (grp_spec h1 h2)
  rcases h3 with e | e
  · exact ⟨⟨q.2, q.1, X, Y, W, 0⟩, ⟨h1, h2, .inl e, hg, fin_zero, by rw [fv_zero]; show 0 = q.1 * _; rw [e]; grind⟩, rfl⟩
  · exact ⟨⟨q.2, q.1, X, Y, W, W⟩, ⟨h1, h2, .inr e, hg, hg.fW, by rw [hg.eW]; show _ = q.1 * _; rw [e]; grind⟩, rfl⟩
theorem grs_ex {qs : List Gk} (h : ∀ q, q ∈ qs → QOk q) : ∃ gs : List Gr, (∀ g, g ∈ gs → GrOk g) ∧ gs.map key = qs := by
  induction qs with
  | nil => exact ⟨[], (fun g hg => by cases hg), rfl⟩
  | cons q l ih =>
    obtain ⟨gs, h1, h2⟩ := ih fun q hq => h q (by simp [hq])
    obtain ⟨g, g1, g2⟩ := gr_ex (h q (by simp))
    exact ⟨g :: gs, fun x hx => by
      rcases List.mem_cons.1 hx with e | e
      · rw [e]; exact g1
      · exact h1 x e, by rw [List.map_cons, g2, h2]⟩

/-- what 'parallelSlope' answers -/
def SlopeRes (qs : List Gk) (r : Nat) : Prop := Fin r ∧ (TSc qs = 0 → fv r = 0) ∧ (TSc qs ≠ 0 → ab (fv r - TPc qs / TSc qs) ≤ 8 / 1000)

theorem ps_tail {gs : List Gr} {a s p q : Nat} (h : ∀ g, g ∈ gs → GrOk g) (hl : gs.length ≤ 4096) (hV : s0 qw (pool gs) ≤ 1048576) (ha : AccRel gP gS gs gs.length a s)
    (fp : Fin p) (fq : Fin q) (hp : ab (fv p - betP gs) ≤ 1 / 200 * poolS gs) (hq : ab (fv q - betS gs) ≤ 1 / 4194304 * poolS gs) :
    ∃ pr sq, double.add a p = some pr ∧ double.add s q = some sq ∧ Fin sq ∧ (fv sq ≤ 0 → SlopeRes (gs.map key) 0) ∧ (0 < fv sq → ∃ r, double.div pr sq = some r ∧ SlopeRes (gs.map key) r) := by
  obtain ⟨pr, sq, o1, o2, f1, f2, e1, e2⟩ := ps_end h hl hV ha fp fq hp hq
  refine ⟨pr, sq, o1, o2, f2, ?_⟩
  rcases TS_half h hl with h0 | h0
  · have hz : fv sq = 0 := by
      rw [h0] at e2
      have a1 := ab_le (fv sq - 0)
      have a2 := ab_neg_le (fv sq - 0)
      grind
    refine ⟨fun _ => ⟨fin_zero, fun _ => fv_zero, fun hn => absurd (by rw [← TS_key]; exact h0) hn⟩, fun hp => by grind⟩
  · obtain ⟨s1, _, r, o3, f3, e3⟩ := slope_ok (C := 74 / 10000) f1 f2 h0 (TP_le h hl) e1 e2 (by decide +kernel) (by decide +kernel) (by decide +kernel) (by decide +kernel)
    refine ⟨fun hc => by grind, fun _ => ⟨r, o3, f3, fun hz => ?_, fun _ => ?_⟩⟩
    · rw [← TS_key] at hz; grind
    · rw [← TS_key, ← TP_key]; grind

theorem acc_snoc {Pf Sf : Gr → Rat} {l : List Gr} {g : Gr} {a s p q : Nat} (ho : AccOk Pf Sf (l ++ [g])) (h : AccRel Pf Sf l l.length a s) (fp : Fin p) (fq : Fin q)
    (hp : ab (fv p - Pf g) ≤ eta * Sf g) (hq : ab (fv q - Sf g) ≤ eta * Sf g) :
    ∃ a' s', double.add a p = some a' ∧ double.add s q = some s' ∧ AccRel Pf Sf (l ++ [g]) (l ++ [g]).length a' s' := by
  have hk : l.length < (l ++ [g]).length := by simp
  have hg : (l ++ [g])[l.length] = g := by simp
  have h' : AccRel Pf Sf (l ++ [g]) l.length a s := by
    obtain ⟨x1, x2, x3, x4⟩ := h
    have e1 : (l ++ [g]).take l.length = l.take l.length := by rw [List.take_left, List.take_length]
    exact ⟨x1, x2, by rw [e1]; exact x3, by rw [e1]; exact x4⟩
  have := acc_step ho hk h' fp fq (by rw [hg]; exact hp) (by rw [hg]; exact hq)
  rw [show (l ++ [g]).length = l.length + 1 by simp]
  exact this

/-- nothing is pooled -/
theorem none_pooled {gs : List Gr} (h : ∀ g, g ∈ gs → GrOk g) (hc : ∀ g, g ∈ gs → g.c = 0) : betP gs = 0 ∧ betS gs = 0 ∧ poolS gs = 0 ∧ s0 qw (pool gs) = 0 := by
  have hv : ∀ g, g ∈ gs → vv g = 0 := fun g hg => by unfold vv; rw [hc g hg]; grind
  have h1 : betP gs = 0 := zero_all fun g hg => by rw [hv g hg]; grind
  have h2 : betS gs = 0 := zero_all fun g hg => by rw [hv g hg]; grind
  refine ⟨h1, h2, ?_, ?_⟩
  · rw [poolS_eq h, h2, zero_all fun g hg => by rw [hc g hg]; grind]; grind
  · rw [pool_s0]
    exact zero_all fun g hg => hv g hg
theorem pool_le {gs : List Gr} {qs : List Gk} (he : gs.map key = qs) (hV : Sm (fun q => q.1 * s0 pw q.2) qs ≤ 1048576) : s0 qw (pool gs) ≤ 1048576 := by
  rw [pool_s0]
  rw [← he, Sm_map] at hV
  exact hV
end Go.Proofs.Qxb6605538a.fl
