/-
  Ieee.double: quotients, comparisons, conversions from and to whole numbers. No Go in sight.
-/
import Derived.Test.Qxb6605538aFo
namespace Go.Proofs.Qxb6605538a.fl
open Ieee

/-- a quotient's result -/
def Rq (r : Nat) (z : Rat) : Prop := Fin r ∧ ab (fv r - z) ≤ 2 * (uu * (ab z + th))

theorem Rd.rq {r : Nat} {z : Rat} (h : Rd r z) : Rq r z := ⟨h.1, by
  have h1 := h.2.1
  have h2 := Rat.mul_nonneg (Rat.le_of_lt uu_pos) (ab_nonneg z)
  have h3 := Rat.mul_pos uu_pos th_pos
  grind⟩

/-- the quotient's digits: within one unit, and there are many -/
theorem quot_near (m n : Nat) (i j : Int) (hm : m ≠ 0) (hn : n ≠ 0) :
    let more := 54 + n.log2 - m.log2
    let q := 2 * (m <<< more / n) + (m <<< more % n != 0).toNat
    let u := p2 (i - j - (more : Nat) - 1)
    let z := (m : Rat) * p2 i / ((n : Rat) * p2 j)
    ab ((q : Rat) * u - z) ≤ u ∧ 18014398509481984 * u ≤ z := by
  intro more q u z
  have hnp : 0 < n := Nat.pos_of_ne_zero hn
  have hD : m <<< more = m * 2 ^ more := Nat.shiftLeft_eq _ _
  have hbig : 2 ^ 54 * 2 ^ n.log2 ≤ m * 2 ^ more := by
    have h1 : 2 ^ m.log2 ≤ m := Nat.log2_self_le hm
    calc 2 ^ 54 * 2 ^ n.log2 = 2 ^ (54 + n.log2) := by rw [Nat.pow_add]
      _ ≤ 2 ^ (m.log2 + more) := Nat.pow_le_pow_right (by decide) (by omega)
      _ = 2 ^ m.log2 * 2 ^ more := Nat.pow_add _ _ _
      _ ≤ m * 2 ^ more := Nat.mul_le_mul_right _ h1
  have hn2 : n < 2 ^ (n.log2 + 1) := Nat.lt_log2_self
  have hdm := Nat.div_add_mod (m <<< more) n
  have hlt := Nat.mod_lt (m <<< more) hnp
  rw [hD] at hdm hlt
  -- z = (m * 2^more) / n * (2 u)
  have hu : p2 i = p2 j * (u * 2) * ((2 ^ more : Nat) : Rat) := by
    have e1 : u * 2 = p2 (i - j - (more : Nat)) := by
      have : i - j - (more : Nat) = (i - j - (more : Nat) - 1) + 1 := by omega
      rw [this, p2_add]
      rfl
    rw [e1, ← p2_add, ← p2_shift]
    congr 1
    omega
  have hnr : (0 : Rat) < (n : Rat) := Rat.natCast_pos.2 hnp
  have hup : 0 < u := p2_pos _
  have hjp := p2_pos j
  have hzn : z * (n : Rat) = 2 * ((m * 2 ^ more : Nat) : Rat) * u := by
    have hne : (n : Rat) * p2 j ≠ 0 := by
      have := Rat.mul_pos hnr hjp
      grind
    have h1 : z * ((n : Rat) * p2 j) = (m : Rat) * p2 i := Rat.div_mul_cancel hne
    rw [hu] at h1
    have h2 : (z * (n : Rat) - 2 * ((m : Rat) * ((2 ^ more : Nat) : Rat)) * u) * p2 j = 0 := by grind
    rcases Rat.mul_eq_zero.1 h2 with h3 | h3
    · rw [Rat.natCast_mul]; grind
    · grind
  generalize hQ : m <<< more / n = Q at *
  generalize hR : m <<< more % n = R at *
  rw [hD] at hQ hR
  rw [hQ, hR] at hdm
  rw [hR] at hlt
  rw [← hdm] at hzn
  rw [Rat.natCast_add, Rat.natCast_mul] at hzn
  have hRn : (R : Rat) < (n : Rat) := Rat.natCast_lt_natCast.2 hlt
  have hR0 : (0 : Rat) ≤ (R : Rat) := Rat.natCast_nonneg
  constructor
  · have hq : (q : Rat) = 2 * (Q : Rat) + (if R = 0 then 0 else 1) := by
      have hq0 : q = 2 * Q + (R != 0).toNat := by
        show 2 * (m <<< more / n) + (m <<< more % n != 0).toNat = _
        rw [hD, hQ, hR]
      rw [hq0, Rat.natCast_add, Rat.natCast_mul]
      by_cases h0 : R = 0
      · rw [if_pos h0, h0]; rfl
      · rw [if_neg h0]
        have : (R != 0) = true := by simpa using h0
        rw [this]; rfl
    have key : ((q : Rat) * u - z) * (n : Rat) = (if R = 0 then 0 else ((n : Rat) - 2 * (R : Rat)) * u) := by
      rw [hq]
      by_cases h0 : R = 0
      · rw [if_pos h0, if_pos h0]
        rw [h0] at hzn
        have : ((0 : Nat) : Rat) = 0 := rfl
        rw [this] at hzn
        grind
      · rw [if_neg h0, if_neg h0]
        grind
    apply ab_le_of
    · apply Rat.le_of_mul_le_mul_right _ hnr
      rw [key]
      by_cases h0 : R = 0
      · rw [if_pos h0]
        have := Rat.mul_pos hup hnr
        grind
      · rw [if_neg h0]
        have := Rat.mul_nonneg hR0 (Rat.le_of_lt hup)
        grind
    · apply Rat.le_of_mul_le_mul_right _ hnr
      have e : -((q : Rat) * u - z) * (n : Rat) = -(((q : Rat) * u - z) * (n : Rat)) := by grind
      rw [e, key]
      by_cases h0 : R = 0
      · rw [if_pos h0]
        have := Rat.mul_pos hup hnr
        grind
      · rw [if_neg h0]
        have := Rat.mul_nonneg (a := (n : Rat) - (R : Rat)) (b := u) (by grind) (Rat.le_of_lt hup)
        grind
  · apply Rat.le_of_mul_le_mul_right _ hnr
    rw [hzn]
    have h1 : 2 ^ 54 * 2 ^ n.log2 ≤ n * Q + R := by rw [hdm]; exact hbig
    have h2 : 9007199254740992 * n ≤ n * Q + R := by
      have : 2 ^ (n.log2 + 1) = 2 ^ n.log2 * 2 := Nat.pow_succ _ _
      generalize 2 ^ n.log2 = g at *
      have e54 : (2 : Nat) ^ 54 = 18014398509481984 := by decide
      rw [e54] at h1
      omega
    have h3 := Rat.natCast_le_natCast.2 h2
    rw [Rat.natCast_add, Rat.natCast_mul, Rat.natCast_mul] at h3
    have e9 : ((9007199254740992 : Nat) : Rat) = 9007199254740992 := by decide
    rw [e9] at h3
    have h4 := Rat.mul_le_mul_of_nonneg_right h3 (Rat.le_of_lt hup)
    grind

theorem ab_div_dv (s t : Bool) (m n : Nat) (i j : Int) : dv (.number s m i) / dv (.number t n j) = sg (s ^^ t) * ((m : Rat) * p2 i / ((n : Rat) * p2 j)) := by
  rw [dv_num, dv_num, sg_xor]
  have : ∀ b, (sg b)⁻¹ = sg b := by intro b; cases b <;> decide +kernel
  rw [Rat.div_def, Rat.div_def, Rat.inv_mul_rev, this]
  grind

theorem div_ok {x y : Nat} (hx : Fin x) (hy : Fin y) (hne : fv y ≠ 0) (hb : ab (fv x / fv y) ≤ p2 800) :
    ∃ r, double.div x y = some r ∧ Rq r (fv x / fv y) ∧ (fv x = 0 → fv r = 0) := by
  obtain ⟨s, m, i, hx, vx⟩ := hx.val
  obtain ⟨t, n, j, hy, vy⟩ := hy.val
  have hn : n ≠ 0 := by
    intro h
    apply hne
    rw [vy, dv_num, h]
    simp
  have hq : double.div x y = some (double.nearest (s ^^ t) (2 * (m <<< (54 + n.log2 - m.log2) / n) + (m <<< (54 + n.log2 - m.log2) % n != 0).toNat) (i - j - (54 + n.log2 - m.log2 : Nat) - 1)) := by
    unfold Format.div
    rw [hx, hy]
    unfold Datum.quotient
    simp only [if_neg hn]
    rfl
  refine ⟨_, hq, ?_⟩
  by_cases hm : m = 0
  · subst hm
    have hx0 : fv x = 0 := by rw [vx, dv_num]; simp
    have e0 : 2 * (0 <<< (54 + n.log2 - Nat.log2 0) / n) + (0 <<< (54 + n.log2 - Nat.log2 0) % n != 0).toNat = 0 := by simp
    rw [e0]
    obtain ⟨h1, h2⟩ := near_int (s ^^ t) 0 (i - j - (54 + n.log2 - Nat.log2 0 : Nat) - 1) 0 (by decide) (by simp)
    have h3 : fv (double.nearest (s ^^ t) 0 (i - j - (54 + n.log2 - Nat.log2 0 : Nat) - 1)) = 0 := by rw [h2, dv_num]; simp
    refine ⟨⟨h1, ?_⟩, fun _ => h3⟩
    rw [h3, hx0]
    have e : (0 : Rat) / fv y = 0 := by rw [Rat.div_def]; grind
    rw [e]
    have h4 : ab (0 - 0 : Rat) = 0 := by decide +kernel
    have h5 : ab (0 : Rat) = 0 := by decide +kernel
    rw [h4, h5]
    have := Rat.mul_pos uu_pos th_pos
    grind
  · obtain ⟨hq1, hq2⟩ := quot_near m n i j hm hn
    generalize 2 * (m <<< (54 + n.log2 - m.log2) / n) + (m <<< (54 + n.log2 - m.log2) % n != 0).toNat = q at *
    generalize (i - j - (54 + n.log2 - m.log2 : Nat) - 1) = pl at *
    have hz : ab (fv x / fv y) = (m : Rat) * p2 i / ((n : Rat) * p2 j) := by
      rw [vx, vy, ab_div_dv, sg_mul]
      have hup := p2_pos pl
      rw [ab_of_nonneg (by grind)]
    have hz2 : fv x / fv y = sg (s ^^ t) * ((m : Rat) * p2 i / ((n : Rat) * p2 j)) := by rw [vx, vy, ab_div_dv]
    generalize (m : Rat) * p2 i / ((n : Rat) * p2 j) = z at *
    have hup := p2_pos pl
    rw [hz] at hb
    have hzp : 0 ≤ z := by grind
    have hqz : (q : Rat) * p2 pl ≤ 2 * z := by
      have := ab_le ((q : Rat) * p2 pl - z)
      grind
    have h900 : 2 * p2 800 ≤ p2 900 := by
      have e : p2 801 = p2 800 * 2 := p2_add 800 1
      have := p2_mono (a := 801) (b := 900) (by decide)
      grind
    obtain ⟨h1, h2, _⟩ := near (s ^^ t) q pl (by grind)
    refine ⟨⟨h1, ?_⟩, ?_⟩
    · rw [ab_dv] at h2
      have e1 : fv (double.nearest (s ^^ t) q pl) - fv x / fv y = (fv (double.nearest (s ^^ t) q pl) - dv (.number (s ^^ t) q pl)) + sg (s ^^ t) * ((q : Rat) * p2 pl - z) := by
        rw [hz2, dv_num]; grind
      have h3 := ab_add (fv (double.nearest (s ^^ t) q pl) - dv (.number (s ^^ t) q pl)) (sg (s ^^ t) * ((q : Rat) * p2 pl - z))
      rw [sg_mul] at h3
      rw [e1, hz]
      have hA := ab_le ((q : Rat) * p2 pl - z)
      have hu : uu * 9007199254740992 = 1 := by decide +kernel
      have hu0 := uu_pos
      have hpl : 2 * p2 pl ≤ uu * z := by
        have h4 := Rat.mul_le_mul_of_nonneg_left hq2 (Rat.le_of_lt uu_pos)
        have e : uu * (18014398509481984 * p2 pl) = (uu * 9007199254740992) * (2 * p2 pl) := by grind
        rw [e, hu, Rat.one_mul] at h4
        exact h4
      have hqq : uu * ((q : Rat) * p2 pl) ≤ uu * (z + p2 pl) := Rat.mul_le_mul_of_nonneg_left (by grind) (Rat.le_of_lt uu_pos)
      have hupl : uu * p2 pl ≤ (1 / 2) * p2 pl := Rat.mul_le_mul_of_nonneg_right (by decide +kernel) (Rat.le_of_lt hup)
      have hth := Rat.mul_pos uu_pos th_pos
      grind
    · intro hx0
      exfalso
      rw [vx, dv_num] at hx0
      rcases Rat.mul_eq_zero.1 hx0 with h | h
      · revert h; cases s <;> decide +kernel
      · rcases Rat.mul_eq_zero.1 h with h | h
        · exact hm (Rat.natCast_eq_zero_iff.1 h)
        · have := p2_pos i; grind

/-! ### Comparisons -/
theorem compare_int (a b : Int) : compare a b = if a < b then .lt else if a = b then .eq else .gt := rfl

theorem order_val {x y : Nat} (hx : Fin x) (hy : Fin y) : double.order x y = some (if fv x < fv y then .lt else if fv x = fv y then .eq else .gt) := by
  obtain ⟨s, m, i, hx, vx⟩ := hx.val
  obtain ⟨t, n, j, hy, vy⟩ := hy.val
  unfold Format.order
  rw [hx, hy]
  unfold Datum.order
  simp only
  have hs := signed_val s m (i - min i j).toNat
  have ht := signed_val t n (j - min i j).toNat
  have e1 : p2 i = p2 (min i j) * ((2 ^ (i - min i j).toNat : Nat) : Rat) := by rw [← p2_shift]; congr 1; omega
  have e2 : p2 j = p2 (min i j) * ((2 ^ (j - min i j).toNat : Nat) : Rat) := by rw [← p2_shift]; congr 1; omega
  have hvx : fv x = ((signed s m (i - min i j).toNat : Int) : Rat) * p2 (min i j) := by rw [vx, dv_num, hs, e1]; grind
  have hvy : fv y = ((signed t n (j - min i j).toNat : Int) : Rat) * p2 (min i j) := by rw [vy, dv_num, ht, e2]; grind
  generalize signed s m (i - min i j).toNat = a at *
  generalize signed t n (j - min i j).toNat = b at *
  have hp := p2_pos (min i j)
  generalize p2 (min i j) = p at *
  rw [hvx, hvy, compare_int]
  congr 1
  have hlt : (a : Rat) * p < (b : Rat) * p ↔ a < b := by rw [Rat.mul_lt_mul_right hp, Rat.intCast_lt_intCast]
  have heq : (a : Rat) * p = (b : Rat) * p ↔ a = b := by
    constructor
    · intro h
      have h' : ((a : Rat) - (b : Rat)) * p = 0 := by grind
      rcases Rat.mul_eq_zero.1 h' with h2 | h2
      · exact Rat.intCast_inj.1 (by grind)
      · grind
    · intro h; rw [h]
  by_cases h1 : a < b
  · rw [if_pos h1, if_pos (hlt.2 h1)]
  · rw [if_neg h1, if_neg (fun h => h1 (hlt.1 h))]
    by_cases h2 : a = b
    · rw [if_pos h2, if_pos (heq.2 h2)]
    · rw [if_neg h2, if_neg (fun h => h2 (heq.1 h))]

/-- what is no number lies between no two numbers -/
theorem order_notFin {x lo hi : Nat} (hx : ¬ Fin x) (hlo : Fin lo) (hhi : Fin hi) :
    ¬ ((double.order x lo = some .gt ∨ double.order x lo = some .eq) ∧ (double.order x hi = some .lt ∨ double.order x hi = some .eq)) := by
  obtain ⟨s, m, i, h1⟩ := hlo
  obtain ⟨t, n, j, h2⟩ := hhi
  unfold Format.order
  rw [h1, h2]
  cases h : double.read x with
  | number s m e => exact absurd ⟨s, m, e, h⟩ hx
  | infinity s =>
    cases s
    · simp [Datum.order]
    · simp [Datum.order]
  | nan s f => simp [Datum.order]

/-! ### Whole numbers -/
theorem ofInt_near (n : Int) (h : n.natAbs ≤ 9223372036854775808) : Rd (floatOfInt .f64 n) (n : Rat) := by
  have e : floatOfInt .f64 n = double.nearest (decide (n < 0)) n.natAbs 0 := rfl
  have hv : dv (.number (decide (n < 0)) n.natAbs 0) = (n : Rat) := by
    rw [total_val _ _ _ (.inr rfl)]
    have : p2 0 = 1 := rfl
    rw [this]; grind
  have h0 : p2 0 = 1 := rfl
  have hle : (n.natAbs : Rat) * p2 0 ≤ p2 900 := by
    have h1 : ((n.natAbs : Nat) : Rat) ≤ ((2 ^ 63 : Nat) : Rat) := Rat.natCast_le_natCast.2 h
    have h2 : p2 ((63 : Nat) : Int) = ((2 ^ 63 : Nat) : Rat) := p2_nat 63
    have h3 := p2_mono (a := ((63 : Nat) : Int)) (b := 900) (by decide)
    rw [h0]
    grind
  have := near (decide (n < 0)) n.natAbs 0 hle
  rw [hv] at this
  rw [e]
  exact this

theorem ofInt_exact (n : Int) (h : n.natAbs ≤ 4503599627370496) : Fin (floatOfInt .f64 n) ∧ fv (floatOfInt .f64 n) = (n : Rat) := by
  have e : floatOfInt .f64 n = double.nearest (decide (n < 0)) n.natAbs 0 := rfl
  have h0 : p2 0 = 1 := rfl
  have hv : dv (.number (decide (n < 0)) n.natAbs 0) = (n : Rat) := by
    rw [total_val _ _ _ (.inr rfl), h0]; grind
  have := near_int (decide (n < 0)) n.natAbs 0 n.natAbs h (by rw [h0]; grind)
  rw [hv] at this
  rw [e]
  exact this

/-- the results that are exact: a sum, difference or product that is a small whole number -/
theorem add_exact {x y : Nat} (hx : Fin x) (hy : Fin y) (k : Int) (hk : k.natAbs ≤ 4503599627370496) (hz : fv x + fv y = (k : Rat)) : ∃ r, double.add x y = some r ∧ Fin r ∧ fv r = (k : Rat) := by
  obtain ⟨s, m, i, hx, vx⟩ := hx.val
  obtain ⟨t, n, j, hy, vy⟩ := hy.val
  obtain ⟨neg, mag, place, h1, h2⟩ := sum_val s t m n i j
  rw [← vx, ← vy, hz] at h2
  refine ⟨double.nearest neg mag place, by unfold Format.add; rw [hx, hy, h1]; rfl, ?_⟩
  have h3 : (mag : Rat) * p2 place = (k.natAbs : Rat) := by
    rw [← ab_dv neg, h2]
    have : ((k.natAbs : Nat) : Rat) = ab (k : Rat) := by
      rw [← Rat.intCast_natCast]
      unfold ab
      by_cases hk0 : k < 0
      · rw [if_pos (by have := Rat.intCast_lt_intCast.2 hk0; simpa using this), ← Rat.intCast_neg]; congr 1; omega
      · rw [if_neg (by intro h; apply hk0; apply Rat.intCast_lt_intCast.1; simpa using h)]; congr 1; omega
    rw [this]
  obtain ⟨h4, h5⟩ := near_int neg mag place k.natAbs hk h3
  exact ⟨h4, by rw [h5, h2]⟩

theorem abs_int (k : Int) : ((k.natAbs : Nat) : Rat) = ab (k : Rat) := by
  rw [← Rat.intCast_natCast]
  unfold ab
  by_cases hk0 : k < 0
  · rw [if_pos (by have := Rat.intCast_lt_intCast.2 hk0; simpa using this), ← Rat.intCast_neg]; congr 1; omega
  · rw [if_neg (by intro h; apply hk0; apply Rat.intCast_lt_intCast.1; simpa using h)]; congr 1; omega

theorem sub_exact {x y : Nat} (hx : Fin x) (hy : Fin y) (k : Int) (hk : k.natAbs ≤ 4503599627370496) (hz : fv x - fv y = (k : Rat)) : ∃ r, double.sub x y = some r ∧ Fin r ∧ fv r = (k : Rat) := by
  obtain ⟨s, m, i, hx, vx⟩ := hx.val
  obtain ⟨t, n, j, hy, vy⟩ := hy.val
  obtain ⟨neg, mag, place, h1, h2⟩ := sum_val s (!t) m n i j
  have h3 : dv (.number (!t) n j) = - dv (.number t n j) := opp_val t n j
  rw [h3] at h2
  have e : dv (.number s m i) + - dv (.number t n j) = fv x - fv y := by rw [vx, vy]; grind
  rw [e, hz] at h2
  refine ⟨double.nearest neg mag place, ?_, ?_⟩
  · unfold Format.sub
    rw [hx, hy]
    show (Datum.sum _ (Datum.number (!t) n j)).map _ = _
    rw [h1]
    rfl
  · obtain ⟨h4, h5⟩ := near_int neg mag place k.natAbs hk (by rw [← ab_dv neg, h2, abs_int])
    exact ⟨h4, by rw [h5, h2]⟩

theorem mul_exact {x y : Nat} (hx : Fin x) (hy : Fin y) (k : Int) (hk : k.natAbs ≤ 4503599627370496) (hz : fv x * fv y = (k : Rat)) : ∃ r, double.mul x y = some r ∧ Fin r ∧ fv r = (k : Rat) := by
  obtain ⟨s, m, i, hx, vx⟩ := hx.val
  obtain ⟨t, n, j, hy, vy⟩ := hy.val
  have h2 := mul_val s t m n i j
  rw [← vx, ← vy, hz] at h2
  refine ⟨double.nearest (s ^^ t) (m * n) (i + j), by unfold Format.mul; rw [hx, hy]; rfl, ?_⟩
  obtain ⟨h4, h5⟩ := near_int (s ^^ t) (m * n) (i + j) k.natAbs hk (by rw [← ab_dv (s ^^ t), h2, abs_int])
  exact ⟨h4, by rw [h5, h2]⟩

/-- '-x' -/
theorem neg_ok {x : Nat} (hx : Fin x) : Fin (Op.negFloat .f64 x) ∧ fv (Op.negFloat .f64 x) = - fv x := by
  have e : Op.negFloat .f64 x = x ^^^ 2 ^ 63 := rfl
  rw [e]
  have h1 : (x ^^^ 2 ^ 63) % double.signWeight = x % double.signWeight := by
    rw [c_sign, Nat.xor_mod_two_pow]
    have : 2 ^ 63 % 2 ^ 63 = 0 := Nat.mod_self _
    rw [this, Nat.xor_zero]
  have h2 : ((x ^^^ 2 ^ 63) / double.signWeight % 2 == 1) = !(x / double.signWeight % 2 == 1) := by
    rw [c_sign, Nat.xor_div_two_pow]
    have : 2 ^ 63 / 2 ^ 63 = 1 := Nat.div_self (Nat.two_pow_pos _)
    rw [this]
    generalize x / 2 ^ 63 = q
    have h3 := Nat.xor_mod_two_pow (a := q) (b := 1) (n := 1)
    rw [Nat.pow_one] at h3
    rw [h3]
    rcases Nat.mod_two_eq_zero_or_one q with h | h <;> rw [h] <;> rfl
  obtain ⟨s, m, i, hr, vx⟩ := hx.val
  have h4 : double.read (x ^^^ 2 ^ 63) = (double.read x).opposite := by
    unfold Format.read
    simp only [h1, h2]
    by_cases c1 : x % double.signWeight < double.binade
    · rw [if_pos c1, if_pos c1]; rfl
    · rw [if_neg c1, if_neg c1]
      by_cases c2 : x % double.signWeight < double.infRung
      · rw [if_pos c2, if_pos c2]; rfl
      · rw [if_neg c2, if_neg c2]
        by_cases c3 : x % double.signWeight = double.infRung
        · rw [if_pos c3, if_pos c3]; rfl
        · rw [if_neg c3, if_neg c3]; rfl
  rw [hr] at h4
  refine ⟨⟨_, _, _, h4⟩, ?_⟩
  have h5 : fv (x ^^^ 2 ^ 63) = dv (Datum.number s m i).opposite := by unfold fv; rw [h4]
  rw [h5, opp_val, vx]

/-! ### To a whole number -/
theorem cut_zero (neg : Bool) (n drop : Nat) : Toward.zero.cut neg n drop = n / 2 ^ drop := by
  unfold Toward.cut
  simp only [Nat.one_shiftLeft, Bool.toNat_false, Nat.add_zero]
  by_cases hd : drop ≤ n.log2 + 2
  · rw [Nat.min_eq_left hd]
  · rw [Nat.min_eq_right (by omega)]
    have hn : n < 2 ^ (n.log2 + 1) := Nat.lt_log2_self
    rw [Nat.div_eq_of_lt (by rw [Nat.pow_succ]; omega), Nat.div_eq_of_lt]
    exact Nat.lt_of_lt_of_le hn (Nat.pow_le_pow_right (by decide) (by omega))

theorem toInt_ok {b : Nat} (hb : Fin b) (M : Nat) (hM : M ≤ 9223372036854775807) (h : ab (fv b) ≤ (M : Rat)) :
    ∃ k : Int, floatToIntVal .f64 b .i64 = some k ∧ k.natAbs ≤ M ∧ (∀ j : Int, fv b = (j : Rat) → k = j) := by
  obtain ⟨s, m, e, hr, vb⟩ := hb.val
  have hd : FloatKind.f64.decode b = .number s m e := hr
  have hint : (FloatKind.f64.decode b).toInt .zero = some (signed s (m <<< e.toNat / 2 ^ (-e).toNat) 0) := by
    rw [hd]
    unfold Datum.toInt Datum.integral
    simp only
    rw [cut_zero]
  generalize hK : m <<< e.toNat / 2 ^ (-e).toNat = K at *
  have hsig : signed s K 0 = if s then -(K : Int) else (K : Int) := by
    unfold signed
    rw [Nat.shiftLeft_zero]
  rw [hsig] at hint
  -- K is the whole part of the magnitude
  have hKm : (K : Rat) ≤ (m : Rat) * p2 e ∧ (m : Rat) * p2 e < (K : Rat) + 1 := by
    rw [Nat.shiftLeft_eq] at hK
    by_cases he : 0 ≤ e
    · have e1 : (-e).toNat = 0 := by omega
      rw [e1, Nat.pow_zero, Nat.div_one] at hK
      have e2 : p2 e = ((2 ^ e.toNat : Nat) : Rat) := by rw [← p2_nat]; congr 1; omega
      rw [e2, ← Rat.natCast_mul, hK]
      grind
    · have e1 : e.toNat = 0 := by omega
      rw [e1, Nat.pow_zero, Nat.mul_one] at hK
      have hg : 0 < 2 ^ (-e).toNat := Nat.two_pow_pos _
      have e2 : p2 e * ((2 ^ (-e).toNat : Nat) : Rat) = 1 := by rw [← p2_shift, show e + ((-e).toNat : Int) = 0 by omega]; rfl
      have hdm := Nat.div_add_mod m (2 ^ (-e).toNat)
      have hlt := Nat.mod_lt m hg
      rw [hK] at hdm
      generalize m % 2 ^ (-e).toNat = r at *
      generalize 2 ^ (-e).toNat = g at *
      have hgr : (0 : Rat) < (g : Rat) := Rat.natCast_pos.2 hg
      have hrg : (r : Rat) < (g : Rat) := Rat.natCast_lt_natCast.2 hlt
      have hr0 : (0 : Rat) ≤ (r : Rat) := Rat.natCast_nonneg
      have hmr : (m : Rat) = (g : Rat) * (K : Rat) + (r : Rat) := by rw [← hdm, Rat.natCast_add, Rat.natCast_mul]
      have hp := p2_pos e
      have h1 : (m : Rat) * p2 e = (K : Rat) + (r : Rat) * p2 e := by rw [hmr]; grind
      have h2 := Rat.mul_nonneg hr0 (Rat.le_of_lt hp)
      have h3 := Rat.mul_lt_mul_of_pos_right hrg hp
      grind
  have habs : ab (fv b) = (m : Rat) * p2 e := by rw [vb, ab_dv]
  have hKM : K ≤ M := by
    apply Rat.natCast_le_natCast.1
    grind
  refine ⟨if s then -(K : Int) else (K : Int), ?_, ?_, ?_⟩
  · unfold floatToIntVal
    rw [hint]
    simp only
    have e1 : IntKind.i64.min = -9223372036854775808 := rfl
    have e2 : IntKind.i64.max = 9223372036854775807 := rfl
    rw [e1, e2, if_pos]
    cases s <;> simp <;> omega
  · cases s <;> simp <;> omega
  · intro j hj
    have hv : fv b = sg s * ((m : Rat) * p2 e) := by rw [vb, dv_num]
    have hjm : ab (j : Rat) = (m : Rat) * p2 e := by rw [← hj]; exact habs
    rw [← abs_int] at hjm
    have hjK : j.natAbs = K := by
      rcases Nat.lt_trichotomy j.natAbs K with h1 | h1 | h1
      · exfalso
        have h2 : ((j.natAbs + 1 : Nat) : Rat) ≤ (K : Rat) := Rat.natCast_le_natCast.2 h1
        rw [Rat.natCast_add] at h2
        have h3 : ((1 : Nat) : Rat) = 1 := rfl
        grind
      · exact h1
      · exfalso
        have h2 : ((K + 1 : Nat) : Rat) ≤ (j.natAbs : Rat) := Rat.natCast_le_natCast.2 h1
        rw [Rat.natCast_add] at h2
        have h3 : ((1 : Nat) : Rat) = 1 := rfl
        grind
    have hm0 : 0 ≤ (m : Rat) * p2 e := Rat.mul_nonneg Rat.natCast_nonneg (Rat.le_of_lt (p2_pos _))
    cases s with
    | false =>
      have hj0 : (0 : Rat) ≤ (j : Rat) := by rw [← hj, hv]; unfold sg; simp; exact hm0
      have : 0 ≤ j := by have := Rat.intCast_nonneg.1 hj0; exact this
      simp; omega
    | true =>
      have hj0 : (j : Rat) ≤ 0 := by rw [← hj, hv]; unfold sg; simp; grind
      have : j ≤ 0 := by have := Rat.intCast_nonpos.1 hj0; exact this
      simp; omega
end Go.Proofs.Qxb6605538a.fl
