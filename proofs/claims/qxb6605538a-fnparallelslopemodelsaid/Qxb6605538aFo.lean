/-
  Ieee.double's operations as numbers: sums, products, quotients, comparisons; what rounding does; what is exact. No Go in sight.
-/
import Derived.Test.Qxb6605538aFl
namespace Go.Proofs.Qxb6605538a.fl
open Ieee

/-- the absolute value -/
def ab (z : Rat) : Rat := if z < 0 then -z else z
theorem ab_nonneg (z : Rat) : 0 ≤ ab z := by unfold ab; split <;> grind
theorem ab_le (z : Rat) : z ≤ ab z := by unfold ab; split <;> grind
theorem ab_neg_le (z : Rat) : -z ≤ ab z := by unfold ab; split <;> grind
theorem ab_le_of {z b : Rat} (h1 : z ≤ b) (h2 : -z ≤ b) : ab z ≤ b := by unfold ab; split <;> grind
theorem ab_neg (z : Rat) : ab (-z) = ab z := by unfold ab; split <;> split <;> grind
theorem ab_add (a b : Rat) : ab (a + b) ≤ ab a + ab b := by unfold ab; split <;> split <;> split <;> grind
theorem ab_sub (a b : Rat) : ab (a - b) ≤ ab a + ab b := by unfold ab; split <;> split <;> split <;> grind
theorem ab_of_nonneg {z : Rat} (h : 0 ≤ z) : ab z = z := by unfold ab; split <;> grind
theorem ab_mul (a b : Rat) : ab (a * b) = ab a * ab b := by
  have key : ∀ a b : Rat, 0 ≤ a → 0 ≤ b → ab (a * b) = a * b := fun a b ha hb => ab_of_nonneg (Rat.mul_nonneg ha hb)
  rcases Rat.le_total (a := 0) (b := a) with ha | ha <;> rcases Rat.le_total (a := 0) (b := b) with hb | hb
  · rw [key a b ha hb, ab_of_nonneg ha, ab_of_nonneg hb]
  · have h := key a (-b) ha (by grind)
    have e : a * b = -(a * -b) := by grind
    have h2 : ab b = -b := by rw [← ab_neg, ab_of_nonneg (by grind)]
    rw [e, ab_neg, h, ab_of_nonneg ha, h2]
  · have h := key (-a) b (by grind) hb
    have e : a * b = -(-a * b) := by grind
    have h2 : ab a = -a := by rw [← ab_neg, ab_of_nonneg (by grind)]
    rw [e, ab_neg, h, ab_of_nonneg hb, h2]
  · have h := key (-a) (-b) (by grind) (by grind)
    have e : a * b = -a * -b := by grind
    have h1 : ab a = -a := by rw [← ab_neg, ab_of_nonneg (by grind)]
    have h2 : ab b = -b := by rw [← ab_neg, ab_of_nonneg (by grind)]
    rw [e, h, h1, h2]

/-- half a unit in the last place; and a number far below all that is reckoned with -/
def uu : Rat := 1 / 9007199254740992
def th : Rat := p2 (-900)
theorem th_pos : 0 < th := p2_pos _
theorem uu_pos : 0 < uu := by decide +kernel
theorem uu_eq : 2 * uu = p2 (-52) := by decide +kernel

theorem sg_mul (s : Bool) (z : Rat) : ab (sg s * z) = ab z := by
  unfold sg
  cases s
  · simp
  · rw [if_pos rfl]
    have e : -1 * z = -z := by grind
    rw [e, ab_neg]

theorem dv_num (s : Bool) (m : Nat) (e : Int) : dv (.number s m e) = sg s * ((m : Rat) * p2 e) := rfl

/-- ROUNDING. -/
theorem near (neg : Bool) (mag : Nat) (place : Int) (hb : (mag : Rat) * p2 place ≤ p2 900) :
    Fin (double.nearest neg mag place) ∧ ab (fv (double.nearest neg mag place) - dv (.number neg mag place)) ≤ uu * (ab (dv (.number neg mag place)) + th) ∧ (dv (.number neg mag place) = 0 → fv (double.nearest neg mag place) = 0) := by
  by_cases hm : mag = 0
  · subst hm
    have e : double.nearest neg 0 place = double.word neg 0 := by unfold Format.nearest; rw [if_pos rfl]
    obtain ⟨h1, h2⟩ := read_word neg 0 (by decide)
    rw [e]
    refine ⟨h1, ?_⟩
    rw [h2]
    have e1 : rv 0 = 0 := by unfold rv; rw [if_pos (by decide)]; simp
    have e2 : dv (.number neg 0 place) = 0 := by unfold dv; simp
    rw [e1, e2, Rat.mul_zero]
    refine ⟨?_, fun _ => rfl⟩
    have h3 : ab (0 - 0 : Rat) = 0 := by decide +kernel
    have h4 : ab (0 : Rat) = 0 := by decide +kernel
    rw [h3, h4]
    have := Rat.mul_pos uu_pos th_pos
    grind
  · have hlog : place + (mag.log2 : Int) ≤ 900 := by
      apply Int.le_of_not_gt
      intro hgt
      have h1 : p2 901 ≤ p2 (place + (mag.log2 : Int)) := p2_mono (by omega)
      rw [p2_shift] at h1
      have h2 : ((2 ^ mag.log2 : Nat) : Rat) ≤ (mag : Rat) := Rat.natCast_le_natCast.2 (Nat.log2_self_le hm)
      have h3 := Rat.mul_le_mul_of_nonneg_left h2 (Rat.le_of_lt (p2_pos place))
      have h4 : p2 901 = p2 900 * 2 := p2_add 900 1
      have h5 := p2_pos 900
      grind
    obtain ⟨kept, last, hl, hf, hv, hb1, hb2⟩ := nearest_near neg mag place hm hlog
    refine ⟨hf, ?_, fun hz0 => ?_⟩
    case refine_2 =>
      exfalso
      have hmp : (0 : Rat) < (mag : Rat) := Rat.natCast_pos.2 (Nat.pos_of_ne_zero hm)
      have h1 := Rat.mul_pos hmp (p2_pos place)
      rw [dv_num] at hz0
      rcases Rat.mul_eq_zero.1 hz0 with h | h
      · revert h; cases neg <;> decide +kernel
      · grind
    rw [hv]
    have e : sg neg * ((kept : Rat) * p2 last) - dv (.number neg mag place) = sg neg * ((kept : Rat) * p2 last - (mag : Rat) * p2 place) := by
      unfold dv; grind
    rw [e, sg_mul]
    have hz : ab (dv (.number neg mag place)) = (mag : Rat) * p2 place := by
      unfold dv
      rw [sg_mul, ab_of_nonneg (Rat.mul_nonneg Rat.natCast_nonneg (Rat.le_of_lt (p2_pos _)))]
    rw [hz]
    have hlast : p2 last ≤ 2 * (uu * ((mag : Rat) * p2 place + th)) := by
      have hn : 0 ≤ (mag : Rat) * p2 place := Rat.mul_nonneg Rat.natCast_nonneg (Rat.le_of_lt (p2_pos _))
      rcases (by omega : last = (place + (mag.log2 : Int)) + -52 ∨ last = -1074) with h | h
      · rw [h, p2_add, ← uu_eq, p2_shift]
        have h2 : ((2 ^ mag.log2 : Nat) : Rat) ≤ (mag : Rat) := Rat.natCast_le_natCast.2 (Nat.log2_self_le hm)
        have h3 := Rat.mul_le_mul_of_nonneg_left h2 (Rat.le_of_lt (p2_pos place))
        have h4 := Rat.mul_le_mul_of_nonneg_left h3 (Rat.le_of_lt uu_pos)
        have h5 := Rat.mul_nonneg (Rat.le_of_lt uu_pos) hn
        have h6 := Rat.mul_pos uu_pos th_pos
        grind
      · have h1 : p2 last ≤ p2 (-52 + -900) := p2_mono (by omega)
        rw [p2_add, ← uu_eq] at h1
        have h5 := Rat.mul_nonneg (Rat.le_of_lt uu_pos) hn
        have h6 := Rat.mul_pos uu_pos th_pos
        have h7 : th = p2 (-900) := rfl
        rw [← h7] at h1
        grind
    exact ab_le_of (by grind) (by grind)

/-- WHAT IS EXACT: a whole number of at most 2 ^ 52. -/
theorem near_int (neg : Bool) (mag : Nat) (place : Int) (N : Nat) (hN : N ≤ 4503599627370496) (hz : (mag : Rat) * p2 place = (N : Rat)) :
    Fin (double.nearest neg mag place) ∧ fv (double.nearest neg mag place) = dv (.number neg mag place) := by
  by_cases hm : mag = 0
  · subst hm
    have e : double.nearest neg 0 place = double.word neg 0 := by unfold Format.nearest; rw [if_pos rfl]
    obtain ⟨h1, h2⟩ := read_word neg 0 (by decide)
    rw [e]
    refine ⟨h1, ?_⟩
    rw [h2]
    have e1 : rv 0 = 0 := by unfold rv; rw [if_pos (by decide)]; simp
    have e2 : dv (.number neg 0 place) = 0 := by unfold dv; simp
    rw [e1, e2, Rat.mul_zero]
  · have hNr : (N : Rat) ≤ p2 52 := by
      have e : p2 52 = ((4503599627370496 : Nat) : Rat) := by rw [show (52 : Int) = ((52 : Nat) : Int) from rfl, p2_nat]
      rw [e]
      exact Rat.natCast_le_natCast.2 hN
    have hlog : place + (mag.log2 : Int) ≤ 52 := by
      apply Int.le_of_not_gt
      intro hgt
      have h1 : p2 53 ≤ p2 (place + (mag.log2 : Int)) := p2_mono (by omega)
      rw [p2_shift] at h1
      have h2 : ((2 ^ mag.log2 : Nat) : Rat) ≤ (mag : Rat) := Rat.natCast_le_natCast.2 (Nat.log2_self_le hm)
      have h3 := Rat.mul_le_mul_of_nonneg_left h2 (Rat.le_of_lt (p2_pos place))
      have h4 : p2 53 = p2 52 * 2 := p2_add 52 1
      have h5 := p2_pos 52
      grind
    obtain ⟨kept, last, hl, hf, hv, hb1, hb2⟩ := nearest_near neg mag place hm (by omega)
    refine ⟨hf, ?_⟩
    rw [hv]
    have hlast : last ≤ 0 := by omega
    obtain ⟨t, ht⟩ := Int.eq_ofNat_of_zero_le (by omega : 0 ≤ -last)
    have e1 : (N : Rat) = ((N * 2 ^ t : Nat) : Rat) * p2 last := by
      have h0 : p2 (last + (t : Int)) = 1 := by rw [show last + (t : Int) = 0 by omega]; rfl
      rw [p2_shift] at h0
      rw [Rat.natCast_mul]
      grind
    have hp := p2_pos last
    rw [hz, e1] at hb1 hb2
    have hk : kept = N * 2 ^ t := by
      generalize N * 2 ^ t = K at *
      rcases Nat.lt_trichotomy kept K with h | h | h
      · exfalso
        have h1 : ((kept + 1 : Nat) : Rat) ≤ (K : Rat) := Rat.natCast_le_natCast.2 h
        have h2 := Rat.mul_le_mul_of_nonneg_right h1 (Rat.le_of_lt hp)
        rw [Rat.natCast_add] at h2
        have h3 : ((1 : Nat) : Rat) = 1 := rfl
        rw [h3] at h2
        grind
      · exact h
      · exfalso
        have h1 : ((K + 1 : Nat) : Rat) ≤ (kept : Rat) := Rat.natCast_le_natCast.2 h
        have h2 := Rat.mul_le_mul_of_nonneg_right h1 (Rat.le_of_lt hp)
        rw [Rat.natCast_add] at h2
        have h3 : ((1 : Nat) : Rat) = 1 := rfl
        rw [h3] at h2
        grind
    rw [hk, ← e1, ← hz]
    rfl

/-! ### Sums, products, quotients -/
theorem signed_val (s : Bool) (m up : Nat) : ((signed s m up : Int) : Rat) = sg s * ((m : Rat) * ((2 ^ up : Nat) : Rat)) := by
  unfold signed sg
  rw [Nat.shiftLeft_eq]
  cases s
  · rw [if_neg (by decide), if_neg (by decide)]
    rw [Rat.intCast_natCast, Rat.natCast_mul]
    grind
  · rw [if_pos rfl, if_pos rfl, Rat.intCast_neg, Rat.intCast_natCast, Rat.natCast_mul]
    grind

theorem total_val (neg : Bool) (t : Int) (base : Int) (h : t = 0 ∨ neg = decide (t < 0)) : dv (.number neg t.natAbs base) = (t : Rat) * p2 base := by
  rw [dv_num]
  unfold sg
  rcases h with h | h
  · subst h
    simp
  · subst h
    by_cases ht : t < 0
    · have e : ((t.natAbs : Nat) : Rat) = -(t : Rat) := by
        rw [← Rat.intCast_natCast, ← Rat.intCast_neg]
        congr 1
        omega
      rw [e]
      simp only [ht, decide_true, if_true]
      grind
    · have e : ((t.natAbs : Nat) : Rat) = (t : Rat) := by
        rw [← Rat.intCast_natCast]
        congr 1
        omega
      rw [e]
      simp only [ht, decide_false]
      simp

theorem sum_val (s t : Bool) (m n : Nat) (i j : Int) :
    ∃ neg mag place, (Datum.number s m i).sum (.number t n j) = some (.number neg mag place) ∧ dv (.number neg mag place) = dv (.number s m i) + dv (.number t n j) := by
  refine ⟨_, _, _, rfl, ?_⟩
  have hs := signed_val s m (i - min i j).toNat
  have ht := signed_val t n (j - min i j).toNat
  rw [total_val]
  · rw [Rat.intCast_add, hs, ht]
    have e1 : p2 i = p2 (min i j) * ((2 ^ (i - min i j).toNat : Nat) : Rat) := by rw [← p2_shift]; congr 1; omega
    have e2 : p2 j = p2 (min i j) * ((2 ^ (j - min i j).toNat : Nat) : Rat) := by rw [← p2_shift]; congr 1; omega
    rw [dv_num, dv_num, e1, e2]
    grind
  · by_cases h0 : signed s m (i - min i j).toNat + signed t n (j - min i j).toNat = 0
    · exact .inl h0
    · right
      rw [if_neg h0]

theorem ab_dv (neg : Bool) (mag : Nat) (place : Int) : ab (dv (.number neg mag place)) = (mag : Rat) * p2 place := by
  unfold dv
  rw [sg_mul, ab_of_nonneg (Rat.mul_nonneg Rat.natCast_nonneg (Rat.le_of_lt (p2_pos _)))]

theorem Fin.val {b : Nat} (h : Fin b) : ∃ s m e, double.read b = .number s m e ∧ fv b = dv (.number s m e) := by
  obtain ⟨s, m, e, h⟩ := h
  exact ⟨s, m, e, h, by unfold fv; rw [h]⟩

/-- a result r of the exact number z -/
def Rd (r : Nat) (z : Rat) : Prop := Fin r ∧ ab (fv r - z) ≤ uu * (ab z + th) ∧ (z = 0 → fv r = 0)

theorem add_ok {x y : Nat} (hx : Fin x) (hy : Fin y) (hb : ab (fv x + fv y) ≤ p2 900) : ∃ r, double.add x y = some r ∧ Rd r (fv x + fv y) := by
  obtain ⟨s, m, i, hx, vx⟩ := hx.val
  obtain ⟨t, n, j, hy, vy⟩ := hy.val
  obtain ⟨neg, mag, place, h1, h2⟩ := sum_val s t m n i j
  refine ⟨double.nearest neg mag place, ?_, ?_⟩
  · unfold Format.add
    rw [hx, hy, h1]
    rfl
  · rw [vx, vy, ← h2] at hb
    rw [vx, vy, ← h2]
    rw [ab_dv] at hb
    exact near neg mag place hb

theorem opp_val (s : Bool) (m : Nat) (e : Int) : dv (Datum.number s m e).opposite = - dv (.number s m e) := by
  unfold Datum.opposite dv sg
  cases s <;> simp <;> grind

theorem sub_ok {x y : Nat} (hx : Fin x) (hy : Fin y) (hb : ab (fv x - fv y) ≤ p2 900) : ∃ r, double.sub x y = some r ∧ Rd r (fv x - fv y) := by
  obtain ⟨s, m, i, hx, vx⟩ := hx.val
  obtain ⟨t, n, j, hy, vy⟩ := hy.val
  obtain ⟨neg, mag, place, h1, h2⟩ := sum_val s (!t) m n i j
  have h3 : dv (.number (!t) n j) = - dv (.number t n j) := opp_val t n j
  rw [h3] at h2
  have e : dv (.number s m i) + - dv (.number t n j) = fv x - fv y := by rw [vx, vy]; grind
  rw [e] at h2
  refine ⟨double.nearest neg mag place, ?_, ?_⟩
  · unfold Format.sub
    rw [hx, hy]
    show (Datum.sum _ (Datum.number (!t) n j)).map _ = _
    rw [h1]
    rfl
  · rw [← h2] at hb
    rw [← h2]
    rw [ab_dv] at hb
    exact near neg mag place hb

theorem sg_xor (s t : Bool) : sg (s ^^ t) = sg s * sg t := by cases s <;> cases t <;> decide +kernel

theorem mul_val (s t : Bool) (m n : Nat) (i j : Int) : dv (.number (s ^^ t) (m * n) (i + j)) = dv (.number s m i) * dv (.number t n j) := by
  rw [dv_num, dv_num, dv_num, sg_xor, Rat.natCast_mul, p2_add]
  grind

theorem mul_ok {x y : Nat} (hx : Fin x) (hy : Fin y) (hb : ab (fv x * fv y) ≤ p2 900) : ∃ r, double.mul x y = some r ∧ Rd r (fv x * fv y) := by
  obtain ⟨s, m, i, hx, vx⟩ := hx.val
  obtain ⟨t, n, j, hy, vy⟩ := hy.val
  refine ⟨double.nearest (s ^^ t) (m * n) (i + j), ?_, ?_⟩
  · unfold Format.mul
    rw [hx, hy]
    rfl
  · rw [vx, vy, ← mul_val] at hb
    rw [vx, vy, ← mul_val]
    rw [ab_dv] at hb
    exact near _ _ _ hb
end Go.Proofs.Qxb6605538a.fl
