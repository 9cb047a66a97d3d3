/-
  The sums over the groups, the law's own sums, and the two slopes. No Go in sight.
-/
import Derived.Test.Qxb6605538aBm
namespace Go.Proofs.Qxb6605538a.fl
open Ieee

def kap : Rat := 1 / 549755813888
theorem near_add {a b : Nat} {A B T U η θ : Rat} (ha : Fin a) (hb : Fin b) (h1 : ab (fv a - A) ≤ η * T) (h2 : ab (fv b - B) ≤ θ * U) (hT : 0 ≤ T) (hU : 0 ≤ U)
    (h3 : η ≤ 1) (h4 : θ ≤ 1) (hA : ab A ≤ 10000 * T) (hB : ab B ≤ 10000 * U) (hd : T + U = 0 ∨ 1 / 2 ≤ T + U) (hm : T + U ≤ 1152921504606846976) :
    ∃ r, double.add a b = some r ∧ Fin r ∧ ab (fv r - (A + B)) ≤ η * T + θ * U + kap * (T + U) := by
  have hu := uu_val
  have hth := th_le
  have ht0 := th_pos
  have h900 := p900
  have h89 := p800_900
  have e1 := Rat.mul_le_mul_of_nonneg_right h3 hT
  have e2 := Rat.mul_le_mul_of_nonneg_right h4 hU
  have a1 := ab_add (fv a - A) (fv b - B)
  have a2 := ab_add (A + B) (fv a - A + (fv b - B))
  rw [show A + B + (fv a - A + (fv b - B)) = fv a + fv b by grind] at a2
  have a3 := ab_add A B
  obtain ⟨r, o, fr, nr, zr⟩ := add_ok ha hb (by grind)
  refine ⟨r, o, fr, ?_⟩
  rw [hu] at nr
  have a4 := ab_add (fv r - (fv a + fv b)) (fv a - A + (fv b - B))
  rw [show fv r - (fv a + fv b) + (fv a - A + (fv b - B)) = fv r - (A + B) by grind] at a4
  have hk : kap = 1 / 549755813888 := rfl
  rw [hk]
  rcases hd with h0 | h0
  · have hT0 : T = 0 := by grind
    have hU0 : U = 0 := by grind
    rw [hT0] at h1 hA
    rw [hU0] at h2 hB
    have z1 := ab_le A
    have z2 := ab_neg_le A
    have z3 := ab_le B
    have z4 := ab_neg_le B
    have z5 := ab_le (fv a - A)
    have z6 := ab_neg_le (fv a - A)
    have z7 := ab_le (fv b - B)
    have z8 := ab_neg_le (fv b - B)
    have hz : fv a + fv b = 0 := by grind
    have hz2 : A + B = 0 := by grind
    rw [zr hz, hz2, hT0, hU0, show (0 : Rat) - 0 = 0 by grind, ab_zero]
    grind
  · grind

theorem half_sum {α : Type} {f : α → Rat} {l : List α} (h : ∀ a, a ∈ l → f a = 0 ∨ 1 / 2 ≤ f a) : Sm f l = 0 ∨ 1 / 2 ≤ Sm f l := by
  induction l with
  | nil => exact .inl rfl
  | cons x l ih =>
    rw [Sm_cons]
    have h1 := h x (by simp)
    have h2 := ih fun a ha => h a (by simp [ha])
    rcases h1 with e | e <;> rcases h2 with e' | e'
    · left; grind
    · right; grind
    · right; grind
    · right; grind

def AccRel (Pf Sf : Gr → Rat) (l : List Gr) (k a s : Nat) : Prop :=
  Fin a ∧ Fin s ∧ ab (fv a - Sm Pf (l.take k)) ≤ (eta + (k : Rat) * kap) * Sm Sf (l.take k) ∧ ab (fv s - Sm Sf (l.take k)) ≤ (eta + (k : Rat) * kap) * Sm Sf (l.take k)
theorem acc_zero (Pf Sf : Gr → Rat) (l : List Gr) : AccRel Pf Sf l 0 0 0 := by
  refine ⟨fin_zero, fin_zero, ?_, ?_⟩
  · rw [fv_zero, List.take_zero, Sm_nil, Sm_nil, show (0 : Rat) - 0 = 0 by grind, ab_zero]; grind
  · rw [fv_zero, List.take_zero, Sm_nil, show (0 : Rat) - 0 = 0 by grind, ab_zero]; grind
structure AccOk (Pf Sf : Gr → Rat) (l : List Gr) : Prop where
  hS : ∀ g, g ∈ l → Sf g = 0 ∨ 1 / 2 ≤ Sf g
  hP : ∀ g, g ∈ l → ab (Pf g) ≤ 4096 * Sf g
  hm : Sm Sf l ≤ 576460752303423488
  hl : l.length ≤ 4096
theorem AccOk.S0 {Pf Sf : Gr → Rat} {l : List Gr} (h : AccOk Pf Sf l) : ∀ g, g ∈ l → 0 ≤ Sf g := by
  intro g hg
  rcases h.hS g hg with e | e <;> grind
theorem AccOk.sumP {Pf Sf : Gr → Rat} {l : List Gr} (h : AccOk Pf Sf l) (k : Nat) : ab (Sm Pf (l.take k)) ≤ 4096 * Sm Sf (l.take k) := by
  rw [← Sm_mul]
  exact Rat.le_trans (ab_Sm _ _) (Sm_le fun g hg => h.hP g (List.mem_of_mem_take hg))
theorem k_le {k : Nat} (h : k ≤ 4096) : (k : Rat) * kap ≤ 1 / 134217728 := by
  have hk' : (k : Rat) ≤ 4096 := by
    have := Rat.natCast_le_natCast.2 h
    have e : ((4096 : Nat) : Rat) = 4096 := by decide
    grind
  have hk : kap = 1 / 549755813888 := rfl
  have := Rat.mul_le_mul_of_nonneg_right hk' (c := kap) (by rw [hk]; decide +kernel)
  rw [hk] at this ⊢
  grind
theorem k_nn {k : Nat} : 0 ≤ (k : Rat) * kap := by
  have hk : kap = 1 / 549755813888 := rfl
  refine Rat.mul_nonneg ?_ (by rw [hk]; decide +kernel)
  exact Rat.natCast_nonneg

theorem acc_step {Pf Sf : Gr → Rat} {l : List Gr} {k a s p q : Nat} (ho : AccOk Pf Sf l) (hk : k < l.length) (h : AccRel Pf Sf l k a s) (fp : Fin p) (fq : Fin q)
    (hp : ab (fv p - Pf l[k]) ≤ eta * Sf l[k]) (hq : ab (fv q - Sf l[k]) ≤ eta * Sf l[k]) :
    ∃ a' s', double.add a p = some a' ∧ double.add s q = some s' ∧ AccRel Pf Sf l (k + 1) a' s' := by
  obtain ⟨fa, fs, ea, es⟩ := h
  have hmem : l[k] ∈ l := List.getElem_mem hk
  have hS1 := ho.S0 _ hmem
  have hT : 0 ≤ Sm Sf (l.take k) := Sm_nonneg fun g hg => ho.S0 g (List.mem_of_mem_take hg)
  have hd : Sm Sf (l.take k) + Sf l[k] = 0 ∨ 1 / 2 ≤ Sm Sf (l.take k) + Sf l[k] := by
    rw [← Sm_take _ _ _ hk]
    exact half_sum fun g hg => ho.hS g (List.mem_of_mem_take hg)
  have hm : Sm Sf (l.take k) + Sf l[k] ≤ 1152921504606846976 := by
    rw [← Sm_take _ _ _ hk]
    have := Sm_take_le (f := Sf) (l := l) ho.S0 (k + 1)
    have := ho.hm
    grind
  have hkl := k_le (k := k) (by have := ho.hl; omega)
  have he : eta = 1 / 16777216 := rfl
  have hP1 := ho.hP _ hmem
  have hPk := ho.sumP k
  have aS := ab_of_nonneg hS1
  have aT := ab_of_nonneg hT
  obtain ⟨a', o1, f1, e1⟩ := near_add fa fp ea hp hT hS1 (by rw [he]; grind) (by rw [he]; grind) (by grind) (by grind) hd hm
  obtain ⟨s', o2, f2, e2⟩ := near_add fs fq es hq hT hS1 (by rw [he]; grind) (by rw [he]; grind) (by grind) (by grind) hd hm
  have hkk : kap = 1 / 549755813888 := rfl
  have n1 := Rat.mul_nonneg (k_nn (k := k)) hS1
  refine ⟨a', s', o1, o2, f1, f2, ?_, ?_⟩
  · rw [Sm_take _ _ _ hk, Sm_take _ _ _ hk, nat_step]
    grind
  · rw [Sm_take _ _ _ hk, nat_step]
    grind
theorem acc_skip {Pf Sf : Gr → Rat} {l : List Gr} {k a s : Nat} (ho : AccOk Pf Sf l) (hk : k < l.length) (h : AccRel Pf Sf l k a s) (hp : Pf l[k] = 0) (hq : Sf l[k] = 0) : AccRel Pf Sf l (k + 1) a s := by
  obtain ⟨fa, fs, ea, es⟩ := h
  have hT : 0 ≤ Sm Sf (l.take k) := Sm_nonneg fun g hg => ho.S0 g (List.mem_of_mem_take hg)
  have hkk : kap = 1 / 549755813888 := rfl
  have n1 := Rat.mul_nonneg (show 0 ≤ kap by rw [hkk]; decide +kernel) hT
  refine ⟨fa, fs, ?_, ?_⟩
  · rw [Sm_take _ _ _ hk, Sm_take _ _ _ hk, nat_step, hp, hq, show Sm Sf (l.take k) + 0 = Sm Sf (l.take k) by grind, show Sm Pf (l.take k) + 0 = Sm Pf (l.take k) by grind]
    grind
  · rw [Sm_take _ _ _ hk, nat_step, hq, show Sm Sf (l.take k) + 0 = Sm Sf (l.take k) by grind]
    grind

/-! ### The bounds of a line -/
theorem Pl_le {α : Type} {w x : α → Rat} {l : List α} (hw : ∀ a, a ∈ l → 0 ≤ w a) (hx : ∀ a, a ∈ l → ab (x a) ≤ 1024) : Pl w x x l ≤ 1048576 * s0 w l := by
  have h1 := sum_at (x := x) (y := x) hw 0 0
  have h2 := Rat.mul_nonneg (s0_nonneg hw) (sq_nonneg (mean w x l - 0))
  have h3 : Sm (fun a => w a * (x a - 0) * (x a - 0)) l ≤ 1048576 * s0 w l := by
    unfold s0
    rw [← Sm_mul]
    refine Sm_le fun a ha => ?_
    have b := ab_mul_le (hx a ha) (hx a ha)
    have b2 := ab_le (x a * x a)
    have b3 := Rat.mul_le_mul_of_nonneg_left (show x a * x a ≤ 1048576 by grind) (hw a ha)
    grind
  grind
theorem GrOk.half {g : Gr} (h : GrOk g) : gS g = 0 ∨ 1 / 2 ≤ gS g :=
  spread_half h.hw (fun p hp => (h.hp p hp).2.2.2.2.2.1) (fun p hp => (h.hp p hp).2.2.2.1)
theorem GrOk.prod {g : Gr} (h : GrOk g) : ab (gP g) ≤ 4096 * gS g :=
  prod_le h.hw (fun p hp => (h.hp p hp).2.2.2.1) (fun p hp => (h.hp p hp).2.2.2.2.2.2.2.1)
theorem GrOk.Sle {g : Gr} (h : GrOk g) : gS g ≤ 1099511627776 := by
  have h1 := Pl_le h.hw (x := px) (fun p hp => (h.hp p hp).2.2.2.2.2.2.1)
  have h2 := s0_le h.hl fun p hp => (h.hp p hp).2.2.2.2.2.2.2.2.2
  unfold gS
  grind
theorem pool_half {gs : List Gr} (h : ∀ g, g ∈ gs → GrOk g) : poolS gs = 0 ∨ 1 / 2 ≤ poolS gs := spread_half (pool_w h) (pool_wi h) (pool_xi h)
theorem pool_prod {gs : List Gr} (h : ∀ g, g ∈ gs → GrOk g) : ab (poolP gs) ≤ 4096 * poolS gs := prod_le (pool_w h) (pool_xi h) (pool_yb h)

theorem sum_le_n {α : Type} {f : α → Rat} {l : List α} (hl : l.length ≤ 4096) {C : Rat} (hC : 0 ≤ C) (h : ∀ p, p ∈ l → f p ≤ C) : Sm f l ≤ 4096 * C := by
  have h1 : ∀ l : List α, (∀ p, p ∈ l → f p ≤ C) → Sm f l ≤ (l.length : Rat) * C := by
    intro l
    induction l with
    | nil => intro _; rw [Sm_nil]; simp
    | cons x l ih =>
      intro h
      have a := h x (by simp)
      have b := ih (fun p hp => h p (by simp [hp]))
      rw [Sm_cons, List.length_cons, nat_step]
      grind
  have h2 := h1 l h
  have h3 : (l.length : Rat) ≤ 4096 := by
    have := Rat.natCast_le_natCast.2 hl
    have e : ((4096 : Nat) : Rat) = 4096 := by decide
    grind
  have h4 := Rat.mul_le_mul_of_nonneg_right h3 hC
  grind

theorem all_acc {gs : List Gr} (h : ∀ g, g ∈ gs → GrOk g) (hl : gs.length ≤ 4096) : AccOk gP gS gs :=
  ⟨fun g hg => (h g hg).half, fun g hg => (h g hg).prod, by
    have := sum_le_n hl (C := 1099511627776) (by decide) fun g hg => (h g hg).Sle
    grind, hl⟩
def fP (g : Gr) : Rat := (1 - g.c) * gP g
def fS (g : Gr) : Rat := (1 - g.c) * gS g
theorem free_acc {gs : List Gr} (h : ∀ g, g ∈ gs → GrOk g) (hl : gs.length ≤ 4096) : AccOk fP fS gs := by
  refine ⟨fun g hg => ?_, fun g hg => ?_, ?_, hl⟩
  · unfold fS
    rcases (h g hg).hc with e | e
    · rw [e]
      have := (h g hg).half
      grind
    · left; rw [e]; grind
  · unfold fS fP
    have := (h g hg).prod
    rcases (h g hg).hc with e | e
    · rw [e, show (1 - 0) * gP g = gP g by grind, show (1 - 0) * gS g = gS g by grind]; exact this
    · rw [e, show (1 - 1) * gP g = 0 by grind, ab_zero]; grind
  · have := sum_le_n hl (f := fS) (C := 1099511627776) (by decide) fun g hg => by
      have a := (h g hg).Sle
      unfold fS
      rcases (h g hg).hc with e | e <;> rw [e] <;> grind
    grind

def TS (gs : List Gr) : Rat := Sm gS gs + betS gs
def TP (gs : List Gr) : Rat := Sm gP gs + betP gs
theorem TS_free {gs : List Gr} (h : ∀ g, g ∈ gs → GrOk g) : TS gs = Sm fS gs + poolS gs := by
  rw [poolS_eq h]
  have : Sm gS gs = Sm (fun g => fS g + g.c * gS g) gs := Sm_congr fun g _ => by unfold fS; grind
  unfold TS
  rw [this, Sm_add]; grind
theorem TP_free {gs : List Gr} (h : ∀ g, g ∈ gs → GrOk g) : TP gs = Sm fP gs + poolP gs := by
  rw [poolP_eq h]
  have : Sm gP gs = Sm (fun g => fP g + g.c * gP g) gs := Sm_congr fun g _ => by unfold fP; grind
  unfold TP
  rw [this, Sm_add]; grind
theorem free_sum {gs : List Gr} (h : ∀ g, g ∈ gs → GrOk g) (hl : gs.length ≤ 4096) : 0 ≤ Sm fS gs ∧ Sm fS gs ≤ 4503599627370496 ∧ ab (Sm fP gs) ≤ 4096 * Sm fS gs ∧ (Sm fS gs = 0 ∨ 1 / 2 ≤ Sm fS gs) := by
  have ho := free_acc h hl
  refine ⟨Sm_nonneg ho.S0, ?_, ?_, half_sum ho.hS⟩
  · have := sum_le_n hl (f := fS) (C := 1099511627776) (by decide) fun g hg => by
      have a := (h g hg).Sle
      unfold fS
      rcases (h g hg).hc with e | e <;> rw [e] <;> grind
    grind
  · have := ho.sumP gs.length
    rw [List.take_length] at this; exact this

/-- 'parallelSlope's two sums -/
theorem ps_end {gs : List Gr} {a s p q : Nat} (h : ∀ g, g ∈ gs → GrOk g) (hl : gs.length ≤ 4096) (hV : s0 qw (pool gs) ≤ 1048576) (ha : AccRel gP gS gs gs.length a s)
    (fp : Fin p) (fq : Fin q) (hp : ab (fv p - betP gs) ≤ 1 / 200 * poolS gs) (hq : ab (fv q - betS gs) ≤ 1 / 4194304 * poolS gs) :
    ∃ pr sq, double.add a p = some pr ∧ double.add s q = some sq ∧ Fin pr ∧ Fin sq ∧ ab (fv pr - TP gs) ≤ 1 / 190 * TS gs ∧ ab (fv sq - TS gs) ≤ 1 / 2000000 * TS gs := by
  obtain ⟨fa, fs, ea, es⟩ := ha
  rw [List.take_length] at ea es
  have ho := all_acc h hl
  have hT : 0 ≤ Sm gS gs := Sm_nonneg ho.S0
  have hP := ho.sumP gs.length
  rw [List.take_length] at hP
  have hkl := k_le hl
  have hkn := k_nn (k := gs.length)
  have he : eta = 1 / 16777216 := rfl
  have hS := poolS_eq h
  have hPe := poolP_eq h
  have hpp := pool_prod h
  have hcS : 0 ≤ Sm (fun g => g.c * gS g) gs := Sm_nonneg fun g hg => Rat.mul_nonneg (h g hg).c0 (h g hg).S0
  have hB : 0 ≤ betS gs := Sm_nonneg fun g hg => by
    have := Rat.mul_nonneg (h g hg).v0 (sq_nonneg (mean pw px g.ps - barX gs))
    grind
  have hcP : ab (Sm (fun g => g.c * gP g) gs) ≤ 4096 * Sm (fun g => g.c * gS g) gs := by
    rw [← Sm_mul]
    refine Rat.le_trans (ab_Sm _ _) (Sm_le fun g hg => ?_)
    rw [ab_mul, ab_of_nonneg (h g hg).c0]
    have := Rat.mul_le_mul_of_nonneg_left (h g hg).prod (h g hg).c0
    grind
  have hbP : ab (betP gs) ≤ 8192 * poolS gs := by
    have := ab_sub (poolP gs) (Sm (fun g => g.c * gP g) gs)
    rw [show poolP gs - Sm (fun g => g.c * gP g) gs = betP gs by grind] at this
    grind
  have hple := Pl_le (pool_w h) (pool_xb h)
  have hple' : poolS gs ≤ 1099511627776 := by unfold poolS; grind
  have hcl : Sm (fun g => g.c * gS g) gs ≤ Sm gS gs := Sm_le fun g hg => by
    have := (h g hg).S0
    rcases (h g hg).hc with e | e <;> rw [e] <;> grind
  have hd : Sm gS gs + poolS gs = 0 ∨ 1 / 2 ≤ Sm gS gs + poolS gs := by
    rcases half_sum ho.hS with e | e <;> rcases pool_half h with e' | e' <;> grind
  have hmm := ho.hm
  have aT := ab_of_nonneg hT
  have aB := ab_of_nonneg hB
  obtain ⟨pr, o1, f1, e1⟩ := near_add fa fp ea hp hT (by grind) (by rw [he]; grind) (by grind) (by grind) (by grind) hd (by grind)
  obtain ⟨sq, o2, f2, e2⟩ := near_add fs fq es hq hT (by grind) (by rw [he]; grind) (by grind) (by grind) (by grind) hd (by grind)
  have hkk : kap = 1 / 549755813888 := rfl
  have n1 := Rat.mul_le_mul_of_nonneg_right hkl hT
  refine ⟨pr, sq, o1, o2, f1, f2, ?_, ?_⟩
  · unfold TP TS
    rw [hkk] at e1
    rw [he] at e1
    rw [hkk] at n1
    grind
  · unfold TS
    rw [hkk] at e2
    rw [he] at e2
    rw [hkk] at n1
    grind

/-- the law's own two sums -/
theorem law_end {gs : List Gr} {a s p q : Nat} (h : ∀ g, g ∈ gs → GrOk g) (hl : gs.length ≤ 4096) (hV : s0 qw (pool gs) ≤ 1048576) (ha : AccRel fP fS gs gs.length a s)
    (fp : Fin p) (fq : Fin q) (hp : ab (fv p - poolP gs) ≤ eta * poolS gs) (hq : ab (fv q - poolS gs) ≤ eta * poolS gs) :
    ∃ pr sq, double.add a p = some pr ∧ double.add s q = some sq ∧ Fin pr ∧ Fin sq ∧ ab (fv pr - TP gs) ≤ 1 / 4000000 * TS gs ∧ ab (fv sq - TS gs) ≤ 1 / 4000000 * TS gs := by
  obtain ⟨fa, fs, ea, es⟩ := ha
  rw [List.take_length] at ea es
  obtain ⟨hT, hTle, hP, hTd⟩ := free_sum h hl
  have hkl := k_le hl
  have hkn := k_nn (k := gs.length)
  have he : eta = 1 / 16777216 := rfl
  have hpp := pool_prod h
  have hp0 : 0 ≤ poolS gs := Pl_nonneg (pool_w h)
  have hple := Pl_le (pool_w h) (pool_xb h)
  have hple' : poolS gs ≤ 1099511627776 := by unfold poolS; grind
  have hd : Sm fS gs + poolS gs = 0 ∨ 1 / 2 ≤ Sm fS gs + poolS gs := by
    rcases hTd with e | e <;> rcases pool_half h with e' | e' <;> grind
  have aT := ab_of_nonneg hT
  have aB := ab_of_nonneg hp0
  obtain ⟨pr, o1, f1, e1⟩ := near_add fa fp ea hp hT hp0 (by rw [he]; grind) (by rw [he]; grind) (by grind) (by grind) hd (by grind)
  obtain ⟨sq, o2, f2, e2⟩ := near_add fs fq es hq hT hp0 (by rw [he]; grind) (by rw [he]; grind) (by grind) (by grind) hd (by grind)
  have hkk : kap = 1 / 549755813888 := rfl
  have n1 := Rat.mul_le_mul_of_nonneg_right hkl hT
  rw [TS_free h, TP_free h]
  refine ⟨pr, sq, o1, o2, f1, f2, ?_, ?_⟩
  · rw [hkk] at e1
    rw [he] at e1
    rw [hkk] at n1
    grind
  · rw [hkk] at e2
    rw [he] at e2
    rw [hkk] at n1
    grind
theorem TS_half {gs : List Gr} (h : ∀ g, g ∈ gs → GrOk g) (hl : gs.length ≤ 4096) : TS gs = 0 ∨ 1 / 2 ≤ TS gs := by
  rw [TS_free h]
  obtain ⟨_, _, _, hd⟩ := free_sum h hl
  rcases hd with e | e <;> rcases pool_half h with e' | e' <;> grind
theorem TP_le {gs : List Gr} (h : ∀ g, g ∈ gs → GrOk g) (hl : gs.length ≤ 4096) : ab (TP gs) ≤ 4096 * TS gs := by
  rw [TS_free h, TP_free h]
  obtain ⟨_, _, hP, _⟩ := free_sum h hl
  have := pool_prod h
  have := ab_add (Sm fP gs) (poolP gs)
  grind
end Go.Proofs.Qxb6605538a.fl
