/-
  What rounding does to one term of a sum. No Go in sight.
-/
import Derived.Test.Qxb6605538aFq
namespace Go.Proofs.Qxb6605538a.fl
open Ieee

theorem uu_val : uu = 1 / 9007199254740992 := rfl
theorem th_le : th ≤ 1 / 1267650600228229401496703205376 := by
  have h1 : p2 (-100) = 1 / 1267650600228229401496703205376 := by decide +kernel
  rw [← h1]
  exact p2_mono (by decide)

theorem ab_mul_le {a b A B : Rat} (ha : ab a ≤ A) (hb : ab b ≤ B) : ab (a * b) ≤ A * B := by
  rw [ab_mul]
  have h1 := Rat.mul_le_mul_of_nonneg_right ha (ab_nonneg b)
  have hA : 0 ≤ A := Rat.le_trans (ab_nonneg a) ha
  have h2 := Rat.mul_le_mul_of_nonneg_left hb hA
  grind

theorem mul_err {a a' b b' α β : Rat} (ha : ab (a' - a) ≤ α) (hb : ab (b' - b) ≤ β) : ab (a' * b' - a * b) ≤ α * (ab b + β) + ab a * β := by
  have e : a' * b' - a * b = (a' - a) * b' + a * (b' - b) := by grind
  rw [e]
  have h1 := ab_add ((a' - a) * b') (a * (b' - b))
  have hb' : ab b' ≤ ab b + β := by
    have h := ab_add b (b' - b)
    have e2 : b + (b' - b) = b' := by grind
    rw [e2] at h
    grind
  have h2 := ab_mul_le ha hb'
  have h3 := ab_mul_le (Rat.le_refl (a := ab a)) hb
  grind

theorem p900 : (1267650600228229401496703205376 : Rat) ≤ p2 800 := by
  have h1 : p2 100 = 1267650600228229401496703205376 := by decide +kernel
  rw [← h1]
  exact p2_mono (by decide)
theorem p800_900 : p2 800 ≤ p2 900 := p2_mono (by decide)

/-- 'x - X', both small -/
theorem diff_ok {x X : Nat} (hx : Fin x) (hX : Fin X) (bx : ab (fv x) ≤ 2000) (bX : ab (fv X) ≤ 2000) :
    ∃ d, double.sub x X = some d ∧ Fin d ∧ ab (fv d - (fv x - fv X)) ≤ uu * ab (fv x - fv X) + th ∧ ab (fv x - fv X) ≤ 4000 ∧ (fv x - fv X = 0 → fv d = 0) := by
  have h1 := ab_sub (fv x) (fv X)
  have h2 := p900
  have h3 := p800_900
  obtain ⟨d, hd, hf, he, hz⟩ := sub_ok hx hX (by grind)
  refine ⟨d, hd, hf, ?_, by grind, hz⟩
  have h4 : uu * th ≤ 1 * th := Rat.mul_le_mul_of_nonneg_right (by decide +kernel) (Rat.le_of_lt th_pos)
  grind

/-- 'w * d', d being what stands for D -/
theorem wd_ok {w d : Nat} {D : Rat} (hw : Fin w) (hd : Fin d) (w0 : 0 ≤ fv w) (w1 : fv w ≤ 1048576) (hD : ab D ≤ 4000) (he : ab (fv d - D) ≤ uu * ab D + th) :
    ∃ t, double.mul w d = some t ∧ Fin t ∧ ab (fv t - fv w * D) ≤ 3 * (uu * ab (fv w * D)) + 4194304 * th ∧ ab (fv w * D) ≤ 4294967296 ∧ (fv w * fv d = 0 → fv t = 0) := by
  have haw : ab (fv w) = fv w := ab_of_nonneg w0
  have hu := uu_val
  have ht := th_le
  have ht0 := th_pos
  have hdd : ab (fv d) ≤ ab D + (uu * ab D + th) := by
    have h := ab_add D (fv d - D)
    have e : D + (fv d - D) = fv d := by grind
    rw [e] at h
    grind
  have hD0 := ab_nonneg D
  have hwD : ab (fv w * D) = fv w * ab D := by rw [ab_mul, haw]
  have hwd : ab (fv w * fv d) = fv w * ab (fv d) := by rw [ab_mul, haw]
  have m1 : fv w * ab (fv d) ≤ fv w * (ab D + (uu * ab D + th)) := Rat.mul_le_mul_of_nonneg_left hdd w0
  have m2 : fv w * ab D ≤ 1048576 * ab D := Rat.mul_le_mul_of_nonneg_right w1 hD0
  have m3 : fv w * th ≤ 1048576 * th := Rat.mul_le_mul_of_nonneg_right w1 (Rat.le_of_lt ht0)
  have m4 : 0 ≤ fv w * ab D := Rat.mul_nonneg w0 hD0
  have h2 := p900
  have h3 := p800_900
  rw [hu] at hdd m1 he
  obtain ⟨t, h4, hf, h5, hz⟩ := mul_ok hw hd (by grind)
  refine ⟨t, h4, hf, ?_, by grind, hz⟩
  have h6 := ab_add (fv t - fv w * fv d) (fv w * (fv d - D))
  have e : fv t - fv w * fv d + fv w * (fv d - D) = fv t - fv w * D := by grind
  rw [e] at h6
  have h7 : ab (fv w * (fv d - D)) ≤ fv w * (uu * ab D + th) := by
    rw [ab_mul, haw, hu]
    exact Rat.mul_le_mul_of_nonneg_left he w0
  rw [hwd] at h5
  rw [hwD]
  rw [hu] at h5 h7 ⊢
  grind

/-- 't * e', the two standing for T and E -/
theorem te_ok {t e : Nat} {T E : Rat} (ht : Fin t) (he : Fin e) (bT : ab T ≤ 4294967296) (bE : ab E ≤ 4000) (hT : ab (fv t - T) ≤ 3 * (uu * ab T) + 4194304 * th) (hE : ab (fv e - E) ≤ uu * ab E + th) :
    ∃ r, double.mul t e = some r ∧ Fin r ∧ ab (fv r - T * E) ≤ 7 * (uu * ab (T * E)) + 1099511627776 * th ∧ (fv t = 0 → fv r = 0) := by
  have hu := uu_val
  have hth := th_le
  have ht0 := th_pos
  have hT0 := ab_nonneg T
  have hE0 := ab_nonneg E
  have h1 := mul_err hT hE
  have hTE : ab (T * E) = ab T * ab E := ab_mul T E
  have m1 : ab T * th ≤ 4294967296 * th := Rat.mul_le_mul_of_nonneg_right bT (Rat.le_of_lt ht0)
  have m2 : ab E * th ≤ 4000 * th := Rat.mul_le_mul_of_nonneg_right bE (Rat.le_of_lt ht0)
  have m3 : th * th ≤ 1 * th := Rat.mul_le_mul_of_nonneg_right (by grind) (Rat.le_of_lt ht0)
  have m4 : 0 ≤ ab T * ab E := Rat.mul_nonneg hT0 hE0
  have m5 : ab T * ab E ≤ 4294967296 * ab E := Rat.mul_le_mul_of_nonneg_right bT hE0
  have h6 := ab_add (T * E) (fv t * fv e - T * E)
  have e6 : T * E + (fv t * fv e - T * E) = fv t * fv e := by grind
  rw [e6, hTE] at h6
  have hx : ab (fv t * fv e - T * E) ≤ 5 * (uu * (ab T * ab E)) + 274877906944 * th := by
    rw [hu] at h1 ⊢
    grind
  have h2 := p900
  have h3 := p800_900
  rw [hu] at hx
  obtain ⟨r, h4, hf, h5, hz⟩ := mul_ok ht he (by grind)
  refine ⟨r, h4, hf, ?_, fun h0 => hz (by rw [h0]; grind)⟩
  have h7 := ab_add (fv r - fv t * fv e) (fv t * fv e - T * E)
  have e7 : fv r - fv t * fv e + (fv t * fv e - T * E) = fv r - T * E := by grind
  rw [e7] at h7
  rw [hTE]
  rw [hu] at h5 ⊢
  grind
end Go.Proofs.Qxb6605538a.fl
