/-
  The moments of a group, and those of the groups' means. No Go in sight.
-/
import Derived.Test.Qxb6605538aWn
namespace Go.Proofs.Qxb6605538a.fl
open Ieee

theorem GPt.ptOk {p : Pt} (h : GPt p) : PtOk p := by
  obtain ⟨f1, f2, f3, _, _, _, b1, b2, w0, w1⟩ := h
  exact ⟨f1, f2, f3, by grind, by grind, w0, by grind⟩
theorem mom_zero (ps : List Pt) (X Y : Rat) : MomRel ps X Y 0 0 0 := by
  have e : ((0 : Nat) : Rat) = 0 := rfl
  refine ⟨fin_zero, fin_zero, ?_, ?_, fun _ => ⟨fv_zero, fv_zero⟩⟩
  · rw [fv_zero, List.take_zero, Sm_nil, show (0 : Rat) - 0 = 0 by grind, ab_zero, e]; grind
  · rw [fv_zero, List.take_zero, Sm_nil, show (0 : Rat) - 0 = 0 by grind, ab_zero, e]; grind

/-- the rounding of all of the terms -/
theorem mom_err {f A : Rat} {n : Nat} (hn : n ≤ 4096) (hA : 0 ≤ A) (h : ab f ≤ (n : Rat) * Be A) : ab f ≤ A / 137438953472 + 18014398509481984 * th := by
  have hn' : (n : Rat) ≤ 4096 := by
    have := Rat.natCast_le_natCast.2 hn
    have e : ((4096 : Nat) : Rat) = 4096 := by decide
    grind
  have h1 := Rat.mul_le_mul_of_nonneg_right hn' (Be_nonneg hA)
  have hBe : Be A = 16 * (uu * A) + 4398046511104 * th := rfl
  rw [hBe, uu_val] at h1 h
  grind
theorem th_le2 : 18014398509481984 * th ≤ 1 / 1267650600228229401496703205376 := by
  unfold th; decide +kernel

def eta : Rat := 1 / 16777216

theorem grp_mom {ps : List Pt} {X Y W P S : Nat} (hp : ∀ p, p ∈ ps → GPt p) (hl : ps.length ≤ 4096) (hg : GrpMean ps X Y W) (h : MomRel ps (fv X) (fv Y) ps.length P S) :
    Fin P ∧ Fin S ∧ ab (fv P - Pl pw px py ps) ≤ eta * Pl pw px px ps ∧ ab (fv S - Pl pw px px ps) ≤ eta * Pl pw px px ps := by
  obtain ⟨fP, fS, eP, eS, hz⟩ := h
  rw [List.take_length] at eP eS
  have hw : ∀ p, p ∈ ps → 0 ≤ pw p := fun p h => (hp p h).2.2.2.2.2.2.2.2.1
  have hW : s0 pw ps ≤ 1048576 := s0_le hl fun p h => (hp p h).2.2.2.2.2.2.2.2.2
  have hW0 := s0_nonneg hw
  have hxi : ∀ p, p ∈ ps → IsInt (px p) := fun p h => (hp p h).2.2.2.1
  have hwi : ∀ p, p ∈ ps → IsInt (pw p) := fun p h => (hp p h).2.2.2.2.2.1
  have hyb : ∀ p, p ∈ ps → ab (py p) ≤ 1024 := fun p h => (hp p h).2.2.2.2.2.2.2.1
  have hPl := prod_le hw hxi hyb
  refine ⟨fP, fS, ?_⟩
  rcases spread_half hw hwi hxi with h0 | h2
  · obtain ⟨z1, z2⟩ := hz (hg.hz h0)
    rw [h0] at hPl ⊢
    have : Pl pw px py ps = 0 := by
      have a1 := ab_le (Pl pw px py ps)
      have a2 := ab_neg_le (Pl pw px py ps)
      grind
    rw [this, z1, z2, show (0 : Rat) - 0 = 0 by grind, ab_zero]
    exact ⟨by grind, by grind⟩
  have hpos : 0 < s0 pw ps := by
    by_cases hc : s0 pw ps = 0
    · have hz' := s0_zero hw hc
      have : Pl pw px px ps = 0 := by
        rw [Pl_self hw]
        exact zero_all fun a ha => by rw [hz' a ha]; grind
      grind
    · grind
  have hep : ep = 1 / 1099511627776 := rfl
  have dX : ab (fv X - mean pw px ps) ≤ ep := le_of_mul hpos (by have := hg.nX; grind)
  have dY : ab (fv Y - mean pw py ps) ≤ ep := le_of_mul hpos (by have := hg.nY; grind)
  have dX' : ab (mean pw px ps - fv X) ≤ ep := by
    have := ab_neg (fv X - mean pw px ps)
    rw [show -(fv X - mean pw px ps) = mean pw px ps - fv X by grind] at this
    grind
  have dY' : ab (mean pw py ps - fv Y) ≤ ep := by
    have := ab_neg (fv Y - mean pw py ps)
    rw [show -(fv Y - mean pw py ps) = mean pw py ps - fv Y by grind] at this
    grind
  have sP := sum_at (x := px) (y := py) hw (fv X) (fv Y)
  have sS := sum_at (x := px) (y := px) hw (fv X) (fv X)
  have bs : ab (s0 pw ps) ≤ 1048576 := by rw [ab_of_nonneg hW0]; exact hW
  have cP := ab_mul_le (ab_mul_le bs dX') dY'
  have cS := ab_mul_le (ab_mul_le bs dX') dX'
  rw [hep] at cP cS dX
  have hd := dev_le hw hxi
  -- the sums of what the terms weigh
  have bAP : Sm (fun p => ab (mP (fv X) (fv Y) p)) ps ≤ 2050 * (2 * Pl pw px px ps + 1 / 1000) := by
    have a1 : Sm (fun p => ab (mP (fv X) (fv Y) p)) ps ≤ Sm (fun p => 2050 * (pw p * ab (px p - mean pw px ps) + 1 / 1099511627776 * pw p)) ps := Sm_le fun p hp' => by
      unfold mP
      rw [ab_mul, ab_mul, ab_of_nonneg (hw p hp')]
      have b1 := ab_add (px p - mean pw px ps) (mean pw px ps - fv X)
      rw [show px p - mean pw px ps + (mean pw px ps - fv X) = px p - fv X by grind] at b1
      have b2 := ab_sub (py p) (fv Y)
      have b3 := hyb p hp'
      have b4 := hg.bY
      have b5 := Rat.mul_le_mul_of_nonneg_left (show ab (px p - fv X) ≤ ab (px p - mean pw px ps) + 1 / 1099511627776 by rw [hep] at dX'; grind) (hw p hp')
      have b6 := Rat.mul_nonneg (hw p hp') (ab_nonneg (px p - fv X))
      have b7 := Rat.mul_le_mul_of_nonneg_left (show ab (py p - fv Y) ≤ 2050 by grind) b6
      grind
    rw [Sm_mul, Sm_add, Sm_mul] at a1
    have : Sm pw ps = s0 pw ps := rfl
    grind
  have bAS : Sm (fun p => ab (mS (fv X) p)) ps = Sm (fun p => pw p * (px p - fv X) * (px p - fv X)) ps := Sm_congr fun p hp' => by
    unfold mS
    rw [ab_of_nonneg]
    have := Rat.mul_nonneg (hw p hp') (sq_nonneg (px p - fv X))
    grind
  have nAP : 0 ≤ Sm (fun p => ab (mP (fv X) (fv Y) p)) ps := Sm_nonneg fun _ _ => ab_nonneg _
  have nAS : 0 ≤ Sm (fun p => ab (mS (fv X) p)) ps := Sm_nonneg fun _ _ => ab_nonneg _
  have gP := mom_err hl nAP eP
  have gS := mom_err hl nAS eS
  have hth := th_le2
  rw [bAS] at gS nAS
  have eP' : Sm (mP (fv X) (fv Y)) ps = Sm (fun p => pw p * (px p - fv X) * (py p - fv Y)) ps := rfl
  have eS' : Sm (mS (fv X)) ps = Sm (fun p => pw p * (px p - fv X) * (px p - fv X)) ps := rfl
  rw [eP', sP] at gP
  rw [eS', sS] at gS
  have heta : eta = 1 / 16777216 := rfl
  constructor
  · have := ab_add (fv P - (Pl pw px py ps + s0 pw ps * (mean pw px ps - fv X) * (mean pw py ps - fv Y))) (s0 pw ps * (mean pw px ps - fv X) * (mean pw py ps - fv Y))
    rw [show fv P - (Pl pw px py ps + s0 pw ps * (mean pw px ps - fv X) * (mean pw py ps - fv Y)) + s0 pw ps * (mean pw px ps - fv X) * (mean pw py ps - fv Y) = fv P - Pl pw px py ps by grind] at this
    rw [heta]
    generalize ab (s0 pw ps * (mean pw px ps - fv X) * (mean pw py ps - fv Y)) = u1 at *
    grind
  · have := ab_add (fv S - (Pl pw px px ps + s0 pw ps * (mean pw px ps - fv X) * (mean pw px ps - fv X))) (s0 pw ps * (mean pw px ps - fv X) * (mean pw px ps - fv X))
    rw [show fv S - (Pl pw px px ps + s0 pw ps * (mean pw px ps - fv X) * (mean pw px ps - fv X)) + s0 pw ps * (mean pw px ps - fv X) * (mean pw px ps - fv X) = fv S - Pl pw px px ps by grind] at this
    have l1 := ab_le (s0 pw ps * (mean pw px ps - fv X) * (mean pw px ps - fv X))
    rw [heta]
    generalize s0 pw ps * (mean pw px ps - fv X) * (mean pw px ps - fv X) = u1 at *
    grind

/-! ### The groups -/
structure Gr where
  ps : List Pt
  c : Rat
  X : Nat
  Y : Nat
  W : Nat
  v : Nat
def Gr.pt (g : Gr) : Pt := (g.X, g.Y, g.v)
structure GrOk (g : Gr) : Prop where
  hp : ∀ p, p ∈ g.ps → GPt p
  hl : g.ps.length ≤ 4096
  hc : g.c = 0 ∨ g.c = 1
  hm : GrpMean g.ps g.X g.Y g.W
  fv_ : Fin g.v
  ev : fv g.v = g.c * s0 pw g.ps
/-- all of the points, each at its weight times what its group is pooled at -/
def pool (gs : List Gr) : List (Rat × Pt) := gs.flatMap fun g => g.ps.map fun p => (g.c, p)
def qw (a : Rat × Pt) : Rat := a.1 * pw a.2
def qx (a : Rat × Pt) : Rat := px a.2
def qy (a : Rat × Pt) : Rat := py a.2
theorem Sm_flat {α β : Type} (f : β → Rat) (h : α → List β) (l : List α) : Sm f (l.flatMap h) = Sm (fun a => Sm f (h a)) l := by
  induction l with
  | nil => rfl
  | cons a l ih => rw [List.flatMap_cons, Sm_append, Sm_cons, ih]
theorem Sm_map {α β : Type} (f : β → Rat) (h : α → β) (l : List α) : Sm f (l.map h) = Sm (fun a => f (h a)) l := by
  induction l with
  | nil => rfl
  | cons a l ih => rw [List.map_cons, Sm_cons, Sm_cons, ih]
theorem Sm_pool (f : Pt → Rat) (gs : List Gr) : Sm (fun a => a.1 * f a.2) (pool gs) = Sm (fun g => g.c * Sm f g.ps) gs := by
  unfold pool
  rw [Sm_flat]
  refine Sm_congr fun g _ => ?_
  rw [Sm_map, Sm_mul]
theorem pool_s0 (gs : List Gr) : s0 qw (pool gs) = Sm (fun g => g.c * s0 pw g.ps) gs := Sm_pool pw gs
theorem pool_s1 (x : Pt → Rat) (gs : List Gr) : s1 qw (fun a => x a.2) (pool gs) = Sm (fun g => g.c * s1 pw x g.ps) gs := by
  have := Sm_pool (fun p => pw p * x p) gs
  unfold s1
  rw [← this]
  exact Sm_congr fun a _ => by unfold qw; grind
theorem pool_sum (x y : Pt → Rat) (X Y : Rat) (gs : List Gr) : Sm (fun a => qw a * (x a.2 - X) * (y a.2 - Y)) (pool gs) = Sm (fun g => g.c * Sm (fun p => pw p * (x p - X) * (y p - Y)) g.ps) gs := by
  have := Sm_pool (fun p => pw p * (x p - X) * (y p - Y)) gs
  rw [← this]
  exact Sm_congr fun a _ => by unfold qw; grind
theorem mem_pool {gs : List Gr} {a : Rat × Pt} (h : a ∈ pool gs) : ∃ g, g ∈ gs ∧ a.1 = g.c ∧ a.2 ∈ g.ps := by
  unfold pool at h
  obtain ⟨g, hg, h⟩ := List.mem_flatMap.1 h
  obtain ⟨p, hp, h⟩ := List.mem_map.1 h
  exact ⟨g, hg, by rw [← h], by rw [← h]; exact hp⟩

def poolS (gs : List Gr) : Rat := Pl qw qx qx (pool gs)
def poolP (gs : List Gr) : Rat := Pl qw qx qy (pool gs)
def barX (gs : List Gr) : Rat := mean qw qx (pool gs)
def barY (gs : List Gr) : Rat := mean qw qy (pool gs)
def vv (g : Gr) : Rat := g.c * s0 pw g.ps
def betP (gs : List Gr) : Rat := Sm (fun g => vv g * (mean pw px g.ps - barX gs) * (mean pw py g.ps - barY gs)) gs
def betS (gs : List Gr) : Rat := Sm (fun g => vv g * (mean pw px g.ps - barX gs) * (mean pw px g.ps - barX gs)) gs
def gP (g : Gr) : Rat := Pl pw px py g.ps
def gS (g : Gr) : Rat := Pl pw px px g.ps

theorem GrOk.hw {g : Gr} (h : GrOk g) : ∀ p, p ∈ g.ps → 0 ≤ pw p := fun p hp => (h.hp p hp).2.2.2.2.2.2.2.2.1
theorem GrOk.c0 {g : Gr} (h : GrOk g) : 0 ≤ g.c := by rcases h.hc with e | e <;> rw [e] <;> decide
theorem GrOk.v0 {g : Gr} (h : GrOk g) : 0 ≤ vv g := Rat.mul_nonneg h.c0 (s0_nonneg h.hw)
theorem GrOk.S0 {g : Gr} (h : GrOk g) : 0 ≤ gS g := Pl_nonneg h.hw
theorem pool_w {gs : List Gr} (h : ∀ g, g ∈ gs → GrOk g) : ∀ a, a ∈ pool gs → 0 ≤ qw a := by
  intro a ha
  obtain ⟨g, hg, e, hm⟩ := mem_pool ha
  unfold qw
  rw [e]
  exact Rat.mul_nonneg (h g hg).c0 ((h g hg).hw _ hm)
theorem pool_wi {gs : List Gr} (h : ∀ g, g ∈ gs → GrOk g) : ∀ a, a ∈ pool gs → IsInt (qw a) := by
  intro a ha
  obtain ⟨g, hg, e, hm⟩ := mem_pool ha
  unfold qw
  rw [e]
  refine IsInt.mul ?_ ((h g hg).hp _ hm).2.2.2.2.2.1
  rcases (h g hg).hc with e | e <;> rw [e]
  · exact IsInt.zero
  · exact IsInt.one
theorem pool_xi {gs : List Gr} (h : ∀ g, g ∈ gs → GrOk g) : ∀ a, a ∈ pool gs → IsInt (qx a) := by
  intro a ha
  obtain ⟨g, hg, e, hm⟩ := mem_pool ha
  exact ((h g hg).hp _ hm).2.2.2.1
theorem pool_xb {gs : List Gr} (h : ∀ g, g ∈ gs → GrOk g) : ∀ a, a ∈ pool gs → ab (qx a) ≤ 1024 := by
  intro a ha
  obtain ⟨g, hg, e, hm⟩ := mem_pool ha
  exact ((h g hg).hp _ hm).2.2.2.2.2.2.1
theorem pool_yb {gs : List Gr} (h : ∀ g, g ∈ gs → GrOk g) : ∀ a, a ∈ pool gs → ab (qy a) ≤ 1024 := by
  intro a ha
  obtain ⟨g, hg, e, hm⟩ := mem_pool ha
  exact ((h g hg).hp _ hm).2.2.2.2.2.2.2.1

theorem poolP_eq {gs : List Gr} (h : ∀ g, g ∈ gs → GrOk g) : poolP gs = Sm (fun g => g.c * gP g) gs + betP gs := by
  unfold poolP betP
  rw [Pl_self (pool_w h)]
  have e := pool_sum px py (barX gs) (barY gs) gs
  refine Eq.trans e ?_
  rw [← Sm_add]
  refine Sm_congr fun g hg => ?_
  rw [sum_at (h g hg).hw]
  unfold vv gP
  grind
theorem poolS_eq {gs : List Gr} (h : ∀ g, g ∈ gs → GrOk g) : poolS gs = Sm (fun g => g.c * gS g) gs + betS gs := by
  unfold poolS betS
  rw [Pl_self (pool_w h)]
  have e := pool_sum px px (barX gs) (barX gs) gs
  refine Eq.trans e ?_
  rw [← Sm_add]
  refine Sm_congr fun g hg => ?_
  rw [sum_at (h g hg).hw]
  unfold vv gS
  grind
theorem bet_zero {gs : List Gr} (h : ∀ g, g ∈ gs → GrOk g) (x : Pt → Rat) : Sm (fun g => vv g * (mean pw x g.ps - mean qw (fun a => x a.2) (pool gs))) gs = 0 := by
  have h1 := mean_mul (w := qw) (x := fun a => x a.2) (pool_w h)
  rw [pool_s1, pool_s0] at h1
  have h2 : Sm (fun g => vv g * (mean pw x g.ps - mean qw (fun a => x a.2) (pool gs))) gs =
      Sm (fun g => g.c * s1 pw x g.ps + (-(mean qw (fun a => x a.2) (pool gs))) * (g.c * s0 pw g.ps)) gs := Sm_congr fun g hg => by
    have := mean_mul (x := x) (h g hg).hw
    rw [← this]
    unfold vv
    grind
  rw [h2, Sm_add, Sm_mul, ← h1]
  grind
/-- how far the means lie from the pool's own -/
theorem bet_dev {gs : List Gr} (h : ∀ g, g ∈ gs → GrOk g) : Sm (fun g => vv g * ab (mean pw px g.ps - barX gs)) gs ≤ 2 * poolS gs := by
  have h1 := dev_le (pool_w h) (pool_xi h)
  have h2 : Sm (fun a => qw a * ab (qx a - mean qw qx (pool gs))) (pool gs) = Sm (fun g => g.c * Sm (fun p => pw p * ab (px p - barX gs)) g.ps) gs := by
    rw [← Sm_pool]
    refine Sm_congr fun a _ => ?_
    show a.1 * pw a.2 * ab (px a.2 - barX gs) = a.1 * (pw a.2 * ab (px a.2 - barX gs))
    grind
  rw [h2] at h1
  refine Rat.le_trans (Sm_le fun g hg => ?_) h1
  have h3 := ab_Sm (fun p => pw p * (px p - barX gs)) g.ps
  rw [sum_dev, ← mean_mul (h g hg).hw, show s0 pw g.ps * mean pw px g.ps - barX gs * s0 pw g.ps = s0 pw g.ps * (mean pw px g.ps - barX gs) by grind, ab_mul, ab_of_nonneg (s0_nonneg (h g hg).hw)] at h3
  have h4 : Sm (fun p => ab (pw p * (px p - barX gs))) g.ps = Sm (fun p => pw p * ab (px p - barX gs)) g.ps := Sm_congr fun p hp => by
    rw [ab_mul, ab_of_nonneg ((h g hg).hw p hp)]
  rw [h4] at h3
  have h5 := Rat.mul_le_mul_of_nonneg_left h3 (h g hg).c0
  unfold vv
  grind
end Go.Proofs.Qxb6605538a.fl
