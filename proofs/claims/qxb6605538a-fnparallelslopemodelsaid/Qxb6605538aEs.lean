/-
  Sums of rounded terms: 'moments', round for round. No Go in sight.
-/
import Derived.Test.Qxb6605538aEr
namespace Go.Proofs.Qxb6605538a.fl
open Ieee

/-! ### Sums over lists -/
def Sm {α : Type} (f : α → Rat) : List α → Rat
  | [] => 0
  | a :: l => f a + Sm f l
theorem Sm_nil {α : Type} (f : α → Rat) : Sm f [] = 0 := rfl
theorem Sm_cons {α : Type} (f : α → Rat) (a : α) (l : List α) : Sm f (a :: l) = f a + Sm f l := rfl
theorem Sm_append {α : Type} (f : α → Rat) (a b : List α) : Sm f (a ++ b) = Sm f a + Sm f b := by
  induction a with
  | nil => rw [List.nil_append, Sm_nil]; grind
  | cons x l ih => rw [List.cons_append, Sm_cons, Sm_cons, ih]; grind
theorem Sm_take {α : Type} (f : α → Rat) (l : List α) (k : Nat) (h : k < l.length) : Sm f (l.take (k + 1)) = Sm f (l.take k) + f l[k] := by
  rw [List.take_succ_eq_append_getElem h, Sm_append, Sm_cons, Sm_nil]; grind
theorem Sm_le {α : Type} {f g : α → Rat} {l : List α} (h : ∀ a, a ∈ l → f a ≤ g a) : Sm f l ≤ Sm g l := by
  induction l with
  | nil => exact Rat.le_refl
  | cons x l ih =>
    have h1 := h x (by simp)
    have h2 := ih (fun a ha => h a (by simp [ha]))
    rw [Sm_cons, Sm_cons]; grind
theorem Sm_congr {α : Type} {f g : α → Rat} {l : List α} (h : ∀ a, a ∈ l → f a = g a) : Sm f l = Sm g l := by
  induction l with
  | nil => rfl
  | cons x l ih => rw [Sm_cons, Sm_cons, h x (by simp), ih (fun a ha => h a (by simp [ha]))]
theorem Sm_zero {α : Type} (l : List α) : Sm (fun _ => (0 : Rat)) l = 0 := by
  induction l with
  | nil => rfl
  | cons x l ih => rw [Sm_cons, ih]; grind
theorem Sm_nonneg {α : Type} {f : α → Rat} {l : List α} (h : ∀ a, a ∈ l → 0 ≤ f a) : 0 ≤ Sm f l := by
  have := Sm_le (f := fun _ => (0 : Rat)) (g := f) (l := l) h
  rw [Sm_zero] at this
  exact this
theorem Sm_add {α : Type} (f g : α → Rat) (l : List α) : Sm (fun a => f a + g a) l = Sm f l + Sm g l := by
  induction l with
  | nil => rw [Sm_nil, Sm_nil, Sm_nil]; grind
  | cons x l ih => rw [Sm_cons, Sm_cons, Sm_cons, ih]; grind
theorem Sm_mul {α : Type} (c : Rat) (f : α → Rat) (l : List α) : Sm (fun a => c * f a) l = c * Sm f l := by
  induction l with
  | nil => rw [Sm_nil, Sm_nil]; grind
  | cons x l ih => rw [Sm_cons, Sm_cons, ih]; grind
theorem ab_Sm {α : Type} (f : α → Rat) (l : List α) : ab (Sm f l) ≤ Sm (fun a => ab (f a)) l := by
  induction l with
  | nil => rw [Sm_nil, Sm_nil]; decide +kernel
  | cons x l ih =>
    rw [Sm_cons, Sm_cons]
    have := ab_add (f x) (Sm f l)
    grind
theorem Sm_take_le {α : Type} {f : α → Rat} {l : List α} (h : ∀ a, a ∈ l → 0 ≤ f a) (k : Nat) : Sm f (l.take k) ≤ Sm f l := by
  have e := List.take_append_drop k l
  have h1 : Sm f l = Sm f (l.take k) + Sm f (l.drop k) := by rw [← Sm_append, e]
  have h2 : 0 ≤ Sm f (l.drop k) := Sm_nonneg fun a ha => h a (List.mem_of_mem_drop ha)
  grind

/-- the error that a sum of so many terms may bear, a term -/
def Be (A : Rat) : Rat := 16 * (uu * A) + 4398046511104 * th
theorem Be_nonneg {A : Rat} (h : 0 ≤ A) : 0 ≤ Be A := by
  unfold Be
  have := Rat.mul_nonneg (Rat.le_of_lt uu_pos) h
  have := th_pos
  grind

theorem nat_step (k : Nat) (B : Rat) : ((k + 1 : Nat) : Rat) * B = (k : Rat) * B + B := by
  rw [Rat.natCast_add]
  have : ((1 : Nat) : Rat) = 1 := rfl
  grind

/-- one addition more -/
theorem acc_ok {P t : Nat} {s T A : Rat} {k : Nat} (hP : Fin P) (ht : Fin t) (hk : k ≤ 4096) (h1 : ab (fv P - s) ≤ (k : Rat) * Be A) (h2 : ab (fv t - T) ≤ 7 * (uu * ab T) + 1099511627776 * th)
    (hA : ab s + ab T ≤ A) (hA2 : A ≤ 1180591620717411303424) :
    ∃ r, double.add P t = some r ∧ Fin r ∧ ab (fv r - (s + T)) ≤ ((k + 1 : Nat) : Rat) * Be A ∧ (fv P = 0 → fv t = 0 → fv r = 0) := by
  have hu := uu_val
  have hth := th_le
  have ht0 := th_pos
  have hs0 := ab_nonneg s
  have hT0 := ab_nonneg T
  have hA0 : 0 ≤ A := by grind
  have hB0 := Be_nonneg hA0
  have hk' : (k : Rat) ≤ 4096 := by
    have := Rat.natCast_le_natCast.2 hk
    have e : ((4096 : Nat) : Rat) = 4096 := by decide
    grind
  have hkB : (k : Rat) * Be A ≤ 4096 * Be A := Rat.mul_le_mul_of_nonneg_right hk' hB0
  have hsum : ab (fv P + fv t) ≤ ab s + ab T + ab (fv P - s) + ab (fv t - T) := by
    have e : fv P + fv t = (s + T) + ((fv P - s) + (fv t - T)) := by grind
    rw [e]
    have a1 := ab_add (s + T) ((fv P - s) + (fv t - T))
    have a2 := ab_add s T
    have a3 := ab_add (fv P - s) (fv t - T)
    grind
  have h900 := p900
  have h900' := p800_900
  have hBe : Be A = 16 * (uu * A) + 4398046511104 * th := rfl
  rw [hBe, hu] at hkB
  rw [hu] at h2
  have hb : ab (fv P + fv t) ≤ p2 900 := by
    rw [hBe, hu] at h1
    grind
  obtain ⟨r, h4, hf, h5, hz⟩ := add_ok hP ht hb
  refine ⟨r, h4, hf, ?_, fun a b => hz (by rw [a, b]; grind)⟩
  rw [nat_step]
  have h6 := ab_add (fv r - (fv P + fv t)) ((fv P - s) + (fv t - T))
  have e6 : fv r - (fv P + fv t) + ((fv P - s) + (fv t - T)) = fv r - (s + T) := by grind
  rw [e6] at h6
  have h7 := ab_add (fv P - s) (fv t - T)
  have hkB' := hkB
  rw [hu] at h5
  generalize hKB : (k : Rat) * Be A = KB at *
  rw [hBe, hu]
  rw [hBe, hu] at hKB
  rw [hKB] at hkB
  grind

/-! ### moments -/
abbrev Pt := Nat × Nat × Nat
def px (p : Pt) : Rat := fv p.1
def py (p : Pt) : Rat := fv p.2.1
def pw (p : Pt) : Rat := fv p.2.2
/-- a point within the bounds that all of ours are in -/
def PtOk (p : Pt) : Prop := Fin p.1 ∧ Fin p.2.1 ∧ Fin p.2.2 ∧ ab (px p) ≤ 2000 ∧ ab (py p) ≤ 2000 ∧ 0 ≤ pw p ∧ pw p ≤ 1048576
def mP (X Y : Rat) (p : Pt) : Rat := pw p * (px p - X) * (py p - Y)
def mS (X : Rat) (p : Pt) : Rat := pw p * (px p - X) * (px p - X)

def MomRel (ps : List Pt) (X Y : Rat) (k P S : Nat) : Prop :=
  Fin P ∧ Fin S ∧ ab (fv P - Sm (mP X Y) (ps.take k)) ≤ (k : Rat) * Be (Sm (fun p => ab (mP X Y p)) ps) ∧
  ab (fv S - Sm (mS X) (ps.take k)) ≤ (k : Rat) * Be (Sm (fun p => ab (mS X p)) ps) ∧
  ((∀ p, p ∈ ps → pw p * (px p - X) = 0) → fv P = 0 ∧ fv S = 0)

theorem sum_bound {f : Pt → Rat} {ps : List Pt} (hl : ps.length ≤ 4096) {C : Rat} (hC : 0 ≤ C) (h : ∀ p, p ∈ ps → f p ≤ C) : Sm f ps ≤ 4096 * C := by
  have h1 : ∀ l : List Pt, (∀ p, p ∈ l → f p ≤ C) → Sm f l ≤ (l.length : Rat) * C := by
    intro l
    induction l with
    | nil => intro _; rw [Sm_nil]; simp
    | cons x l ih =>
      intro h
      have a := h x (by simp)
      have b := ih (fun p hp => h p (by simp [hp]))
      rw [Sm_cons, List.length_cons, nat_step]
      grind
  have h2 := h1 ps h
  have h3 : (ps.length : Rat) ≤ 4096 := by
    have := Rat.natCast_le_natCast.2 hl
    have e : ((4096 : Nat) : Rat) = 4096 := by decide
    grind
  have h4 := Rat.mul_le_mul_of_nonneg_right h3 hC
  grind

theorem mom_step {ps : List Pt} {X Y k P S : Nat} (hps : ∀ p, p ∈ ps → PtOk p) (hl : ps.length ≤ 4096) (hX : Fin X) (hY : Fin Y) (bX : ab (fv X) ≤ 2000) (bY : ab (fv Y) ≤ 2000)
    (hk : k < ps.length) (h : MomRel ps (fv X) (fv Y) k P S) :
    ∃ d t1 e t2 P' t4 S', double.sub (ps[k]).1 X = some d ∧ double.mul (ps[k]).2.2 d = some t1 ∧ double.sub (ps[k]).2.1 Y = some e ∧ double.mul t1 e = some t2 ∧ double.add P t2 = some P' ∧
      double.mul t1 d = some t4 ∧ double.add S t4 = some S' ∧ MomRel ps (fv X) (fv Y) (k + 1) P' S' := by
  obtain ⟨hP, hS, eP, eS, hz⟩ := h
  have hmem : ps[k] ∈ ps := List.getElem_mem hk
  obtain ⟨f1, f2, f3, b1, b2, w0, w1⟩ := hps _ hmem
  obtain ⟨d, hd, fd, ed, bD, zd⟩ := diff_ok f1 hX b1 bX
  obtain ⟨t1, h1, ft1, et1, bT, zt1⟩ := wd_ok f3 fd w0 w1 bD ed
  obtain ⟨e, he, fe, ee, bE, _⟩ := diff_ok f2 hY b2 bY
  obtain ⟨t2, h2, ft2, et2, zt2⟩ := te_ok ft1 fe bT bE et1 ee
  obtain ⟨t4, h4, ft4, et4, zt4⟩ := te_ok ft1 fd bT bD et1 ed
  have big : ∀ p, p ∈ ps → ab (mP (fv X) (fv Y) p) ≤ 17179869184000 ∧ ab (mS (fv X) p) ≤ 17179869184000 := by
    intro p hp
    obtain ⟨_, _, _, c1, c2, c3, c4⟩ := hps p hp
    have a1 := ab_sub (px p) (fv X)
    have a2 := ab_sub (py p) (fv Y)
    have a3 : ab (pw p) ≤ 1048576 := by rw [ab_of_nonneg c3]; exact c4
    have a4 := ab_mul_le (ab_mul_le a3 (B := 4000) (b := px p - fv X) (by grind)) (B := 4000) (b := py p - fv Y) (by grind)
    have a5 := ab_mul_le (ab_mul_le a3 (B := 4000) (b := px p - fv X) (by grind)) (B := 4000) (b := px p - fv X) (by grind)
    unfold mP mS
    constructor <;> grind
  have bAP := sum_bound hl (f := fun p => ab (mP (fv X) (fv Y) p)) (C := 17179869184000) (by decide) (fun p hp => (big p hp).1)
  have bAS := sum_bound hl (f := fun p => ab (mS (fv X) p)) (C := 17179869184000) (by decide) (fun p hp => (big p hp).2)
  have partP : ab (Sm (mP (fv X) (fv Y)) (ps.take k)) + ab (mP (fv X) (fv Y) ps[k]) ≤ Sm (fun p => ab (mP (fv X) (fv Y) p)) ps := by
    have a1 := ab_Sm (mP (fv X) (fv Y)) (ps.take k)
    have a2 := Sm_take (fun p => ab (mP (fv X) (fv Y) p)) ps k hk
    have a3 := Sm_take_le (f := fun p => ab (mP (fv X) (fv Y) p)) (l := ps) (fun _ _ => ab_nonneg _) (k + 1)
    grind
  have partS : ab (Sm (mS (fv X)) (ps.take k)) + ab (mS (fv X) ps[k]) ≤ Sm (fun p => ab (mS (fv X) p)) ps := by
    have a1 := ab_Sm (mS (fv X)) (ps.take k)
    have a2 := Sm_take (fun p => ab (mS (fv X) p)) ps k hk
    have a3 := Sm_take_le (f := fun p => ab (mS (fv X) p)) (l := ps) (fun _ _ => ab_nonneg _) (k + 1)
    grind
  obtain ⟨P', h5, fP', eP', zP'⟩ := acc_ok hP ft2 (by omega) eP et2 partP (by grind)
  obtain ⟨S', h6, fS', eS', zS'⟩ := acc_ok hS ft4 (by omega) eS et4 partS (by grind)
  refine ⟨d, t1, e, t2, P', t4, S', hd, h1, he, h2, h5, h4, h6, fP', fS', ?_, ?_, ?_⟩
  · rw [Sm_take _ _ _ hk]; exact eP'
  · rw [Sm_take _ _ _ hk]; exact eS'
  · intro hall
    obtain ⟨z1, z2⟩ := hz hall
    have hwd := hall _ hmem
    have ht10 : fv t1 = 0 := by
      apply zt1
      rcases Rat.mul_eq_zero.1 hwd with h | h
      · have : fv (ps[k]).2.2 = 0 := h
        rw [this]; grind
      · have : fv d = 0 := zd h
        rw [this]; grind
    exact ⟨zP' z1 (zt2 ht10), zS' z2 (zt4 ht10)⟩
end Go.Proofs.Qxb6605538a.fl
