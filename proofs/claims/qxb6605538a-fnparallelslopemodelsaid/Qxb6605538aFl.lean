/-
  Ieee.double as numbers: the value of a word, what rounding does to it. No Go in sight.
-/
import Derived.Laws.FloatArith
namespace Go.Proofs.Qxb6605538a.fl
open Ieee

/-- 2 ^ e -/
def p2 (e : Int) : Rat := (2 : Rat) ^ e
theorem p2_pos (e : Int) : 0 < p2 e := Rat.zpow_pos (by decide)
theorem p2_add (a b : Int) : p2 (a + b) = p2 a * p2 b := Rat.zpow_add (by decide) a b
theorem p2_nat (n : Nat) : p2 (n : Int) = ((2 ^ n : Nat) : Rat) := by
  unfold p2
  rw [Rat.zpow_natCast]
  induction n with
  | zero => rfl
  | succ n ih => rw [Rat.pow_succ, ih, Nat.pow_succ]; simp [Rat.natCast_mul]
theorem p2_mono {a b : Int} (h : a ≤ b) : p2 a ≤ p2 b := by
  obtain ⟨n, hn⟩ := Int.eq_ofNat_of_zero_le (Int.sub_nonneg.2 h)
  have e : b = a + (n : Int) := by omega
  rw [e, p2_add, p2_nat]
  have h1 : (1 : Rat) ≤ ((2 ^ n : Nat) : Rat) := by
    have : (1 : Nat) ≤ 2 ^ n := Nat.one_le_two_pow
    have := Rat.natCast_le_natCast.2 this
    simpa using this
  have := Rat.mul_le_mul_of_nonneg_left h1 (Rat.le_of_lt (p2_pos a))
  grind

def sg (neg : Bool) : Rat := if neg then -1 else 1
/-- the number that a datum stands for (0 for what is no number) -/
def dv : Datum → Rat
  | .number s m e => sg s * ((m : Rat) * p2 e)
  | _ => 0
def fv (b : Nat) : Rat := dv (double.read b)
/-- the word is a number -/
def Fin (b : Nat) : Prop := ∃ s m e, double.read b = .number s m e

/-! ### 'cut': to the nearest -/
theorem cut_even (neg : Bool) (n drop : Nat) :
    2 * n ≤ 2 * (Toward.even.cut neg n drop * 2 ^ drop) + 2 ^ drop ∧ 2 * (Toward.even.cut neg n drop * 2 ^ drop) ≤ 2 * n + 2 ^ drop := by
  unfold Toward.cut
  simp only [Nat.one_shiftLeft]
  by_cases hd : drop ≤ n.log2 + 2
  · rw [Nat.min_eq_left hd]
    generalize hg : 2 ^ drop = g
    have hgp : 0 < g := by rw [← hg]; exact Nat.two_pow_pos _
    have hdm := Nat.div_add_mod n g
    have hlt := Nat.mod_lt n hgp
    generalize n / g = low at *
    generalize n % g = rest at *
    have hlg : low * g = g * low := Nat.mul_comm _ _
    generalize hm : (decide (g < 2 * rest) || (g == 2 * rest && low % 2 == 1)) = mo
    have hmo : (mo = true → g ≤ 2 * rest) ∧ (mo = false → 2 * rest ≤ g) := by
      constructor
      · intro h
        rw [h] at hm
        simp at hm
        omega
      · intro h
        rw [h] at hm
        simp at hm
        omega
    cases mo with
    | true =>
      have := hmo.1 rfl
      rw [Bool.toNat_true, Nat.add_mul, Nat.one_mul]
      omega
    | false =>
      have := hmo.2 rfl
      rw [Bool.toNat_false, Nat.add_zero]
      omega
  · rw [Nat.min_eq_right (by omega)]
    have hn : n < 2 ^ (n.log2 + 1) := Nat.lt_log2_self
    have hlow : n / 2 ^ (n.log2 + 2) = 0 := Nat.div_eq_of_lt (by rw [Nat.pow_succ]; omega)
    have hrest : n % 2 ^ (n.log2 + 2) = n := Nat.mod_eq_of_lt (by rw [Nat.pow_succ]; omega)
    rw [hlow, hrest]
    have h1 : ¬ 2 ^ (n.log2 + 2) < 2 * n := by rw [Nat.pow_succ]; omega
    have h2 : (2 ^ (n.log2 + 2) == 2 * n) = false := by
      rw [beq_eq_false_iff_ne, Nat.pow_succ]; omega
    have hbig : 2 ^ (n.log2 + 1) ≤ 2 ^ drop := Nat.pow_le_pow_right (by decide) (by omega)
    have hbig2 : 2 ^ (n.log2 + 2) ≤ 2 ^ drop := Nat.pow_le_pow_right (by decide) (by omega)
    simp only [h1, decide_false, Bool.false_or, h2, Bool.false_and, Bool.toNat_false, Nat.add_zero, Nat.zero_mul]
    rw [Nat.pow_succ] at hbig2
    omega

/-! ### A word read back -/
theorem c_binade : double.binade = 2 ^ 52 := rfl
theorem c_sign : double.signWeight = 2 ^ 63 := rfl
theorem c_inf : double.infRung = 2047 * 2 ^ 52 := rfl
theorem c_least : double.leastPlace = -1074 := rfl

/-- the number on a rung -/
def rv (rung : Nat) : Rat := if rung < 2 ^ 52 then (rung : Rat) * p2 (-1074) else ((2 ^ 52 + rung % 2 ^ 52 : Nat) : Rat) * p2 (-1074 + (rung / 2 ^ 52 - 1 : Nat))

theorem read_word (neg : Bool) (rung : Nat) (h : rung < 2047 * 2 ^ 52) : Fin (double.word neg rung) ∧ fv (double.word neg rung) = sg neg * rv rung := by
  have h63 : rung < 2 ^ 63 := by
    have : (2047 : Nat) * 2 ^ 52 < 2 ^ 63 := by decide
    omega
  have hneg : (double.word neg rung / double.signWeight % 2 == 1) = neg := by
    unfold Format.word
    rw [c_sign]
    cases neg with
    | true =>
      rw [if_pos rfl]
      have : (2 ^ 63 + rung) / 2 ^ 63 = 1 := by omega
      rw [this]; rfl
    | false =>
      rw [if_neg (by decide)]
      have : rung / 2 ^ 63 = 0 := by omega
      rw [this]; rfl
  have hr : double.word neg rung % double.signWeight = rung := by
    unfold Format.word
    rw [c_sign]
    cases neg with
    | true => rw [if_pos rfl]; omega
    | false => rw [if_neg (by decide)]; omega
  unfold Fin fv
  unfold Format.read
  simp only [hneg, hr, c_binade, c_inf, c_least]
  unfold rv
  by_cases h1 : rung < 2 ^ 52
  · rw [if_pos h1, if_pos h1]
    exact ⟨⟨_, _, _, rfl⟩, rfl⟩
  · rw [if_neg h1, if_neg h1, if_pos h]
    exact ⟨⟨_, _, _, rfl⟩, rfl⟩

theorem rv_kept (R kept : Nat) (h1 : R = 0 ∨ 2 ^ 52 ≤ kept) (h2 : kept ≤ 2 ^ 53) : rv (R * 2 ^ 52 + kept) = (kept : Rat) * p2 (-1074 + (R : Int)) := by
  unfold rv
  by_cases hk : kept < 2 ^ 52
  · have hR : R = 0 := by omega
    subst hR
    rw [Nat.zero_mul, Nat.zero_add, if_pos hk]
    simp
  · rw [if_neg (by omega)]
    by_cases hk2 : kept < 2 ^ 53
    · have e1 : (R * 2 ^ 52 + kept) % 2 ^ 52 = kept - 2 ^ 52 := by omega
      have e2 : (R * 2 ^ 52 + kept) / 2 ^ 52 - 1 = R := by omega
      have e3 : 2 ^ 52 + (kept - 2 ^ 52) = kept := by omega
      rw [e1, e2, e3]
    · have hk3 : kept = 2 ^ 53 := by omega
      subst hk3
      have e1 : (R * 2 ^ 52 + 2 ^ 53) % 2 ^ 52 = 0 := by omega
      have e2 : (R * 2 ^ 52 + 2 ^ 53) / 2 ^ 52 - 1 = R + 1 := by omega
      rw [e1, e2]
      have e3 : (-1074 + ((R + 1 : Nat) : Int)) = (-1074 + (R : Int)) + 1 := by omega
      rw [e3, p2_add]
      have e4 : p2 1 = 2 := rfl
      have e5 : ((2 ^ 52 + 0 : Nat) : Rat) = 4503599627370496 := by decide
      have e6 : ((2 ^ 53 : Nat) : Rat) = 9007199254740992 := by decide
      rw [e4, e5, e6]
      grind

/-! ### Rounding -/
theorem p2_shift (a : Int) (n : Nat) : p2 (a + (n : Int)) = p2 a * ((2 ^ n : Nat) : Rat) := by rw [p2_add, p2_nat]

/-- 'mag * 2 ^ place', mag not 0, written: kept * 2 ^ last, off by at most half a unit of the last place. -/
theorem nearest_near (neg : Bool) (mag : Nat) (place : Int) (hm : mag ≠ 0) (hbig : place + (mag.log2 : Int) ≤ 900) :
    ∃ (kept : Nat) (last : Int), last = max (place + (mag.log2 : Int) - 52) (-1074) ∧ Fin (double.nearest neg mag place) ∧ fv (double.nearest neg mag place) = sg neg * ((kept : Rat) * p2 last) ∧
      2 * ((mag : Rat) * p2 place) ≤ 2 * ((kept : Rat) * p2 last) + p2 last ∧ 2 * ((kept : Rat) * p2 last) ≤ 2 * ((mag : Rat) * p2 place) + p2 last := by
  refine ⟨Toward.even.cut neg (mag <<< (place - max (place + (mag.log2 : Int) - 52) (-1074)).toNat) (max (place + (mag.log2 : Int) - 52) (-1074) - place).toNat, max (place + (mag.log2 : Int) - 52) (-1074), rfl, ?_⟩
  generalize hl : max (place + (mag.log2 : Int) - 52) (-1074) = last
  have hl1 : place + (mag.log2 : Int) - 52 ≤ last := by omega
  have hl2 : -1074 ≤ last := by omega
  have hl3 : last = place + (mag.log2 : Int) - 52 ∨ last = -1074 := by omega
  generalize hsh : mag <<< (place - last).toNat = n
  generalize hdr : (last - place).toNat = drop
  have hcut := cut_even neg n drop
  generalize hkd : Toward.even.cut neg n drop = kept at *
  have hmag1 : 2 ^ mag.log2 ≤ mag := Nat.log2_self_le hm
  have hmag2 : mag < 2 ^ (mag.log2 + 1) := Nat.lt_log2_self
  -- n * 2^last = mag * 2^place * 2^drop
  have hval : (n : Rat) * p2 last = (mag : Rat) * p2 place * ((2 ^ drop : Nat) : Rat) := by
    rw [← hsh, Nat.shiftLeft_eq, Rat.natCast_mul]
    by_cases hp : last ≤ place
    · have e1 : drop = 0 := by omega
      have e2 : place = last + ((place - last).toNat : Int) := by omega
      rw [e1]
      generalize (place - last).toNat = t at *
      rw [e2, p2_shift]
      have : ((2 ^ 0 : Nat) : Rat) = 1 := by decide
      rw [this]
      grind
    · have e1 : (place - last).toNat = 0 := by omega
      have e2 : last = place + (drop : Int) := by omega
      rw [e1, e2, p2_shift]
      have : ((2 ^ 0 : Nat) : Rat) = 1 := by decide
      rw [this]
      grind
  have hdpos : (0 : Rat) < ((2 ^ drop : Nat) : Rat) := Rat.natCast_pos.2 (Nat.two_pow_pos _)
  -- the two bounds over the numbers
  have hb1 : 2 * ((mag : Rat) * p2 place) ≤ 2 * ((kept : Rat) * p2 last) + p2 last := by
    have h := Rat.natCast_le_natCast.2 hcut.1
    simp only [Rat.natCast_add, Rat.natCast_mul] at h
    have h' := Rat.mul_le_mul_of_nonneg_right h (Rat.le_of_lt (p2_pos last))
    apply Rat.le_of_mul_le_mul_right _ hdpos
    grind
  have hb2 : 2 * ((kept : Rat) * p2 last) ≤ 2 * ((mag : Rat) * p2 place) + p2 last := by
    have h := Rat.natCast_le_natCast.2 hcut.2
    simp only [Rat.natCast_add, Rat.natCast_mul] at h
    have h' := Rat.mul_le_mul_of_nonneg_right h (Rat.le_of_lt (p2_pos last))
    apply Rat.le_of_mul_le_mul_right _ hdpos
    grind
  -- kept is at most 2^53, and at least 2^52 unless the place is the least
  have hnlt : n < 2 ^ 53 * 2 ^ drop := by
    rw [← hsh, Nat.shiftLeft_eq]
    by_cases hp : last ≤ place
    · have e1 : drop = 0 := by omega
      have e2 : (place - last).toNat ≤ 52 - mag.log2 := by omega
      have e3 : mag.log2 ≤ 52 := by omega
      rw [e1, Nat.pow_zero, Nat.mul_one]
      calc mag * 2 ^ (place - last).toNat < 2 ^ (mag.log2 + 1) * 2 ^ (place - last).toNat := Nat.mul_lt_mul_of_pos_right hmag2 (Nat.two_pow_pos _)
        _ ≤ 2 ^ (mag.log2 + 1) * 2 ^ (52 - mag.log2) := Nat.mul_le_mul_left _ (Nat.pow_le_pow_right (by decide) e2)
        _ = 2 ^ 53 := by rw [← Nat.pow_add]; congr 1; omega
    · have e1 : (place - last).toNat = 0 := by omega
      rw [e1, Nat.pow_zero, Nat.mul_one, ← Nat.pow_add]
      exact Nat.lt_of_lt_of_le hmag2 (Nat.pow_le_pow_right (by decide) (by omega))
  have hdp : 0 < 2 ^ drop := Nat.two_pow_pos _
  have hk53 : kept ≤ 2 ^ 53 := by
    have h := hcut.2
    generalize 2 ^ drop = g at *
    apply Nat.le_of_lt_succ
    apply Nat.lt_of_mul_lt_mul_right (a := g)
    have e : (2 ^ 53 + 1) * g = 2 ^ 53 * g + g := by rw [Nat.add_mul, Nat.one_mul]
    show kept * g < (2 ^ 53 + 1) * g
    rw [e]
    omega
  have hk52 : (last + 1074).toNat = 0 ∨ 2 ^ 52 ≤ kept := by
    by_cases hz : last = -1074
    · left; omega
    · right
      have hll : last = place + (mag.log2 : Int) - 52 := by omega
      have hnge : 2 ^ 52 * 2 ^ drop ≤ n := by
        rw [← hsh, Nat.shiftLeft_eq]
        by_cases hp : last ≤ place
        · have e1 : drop = 0 := by omega
          have e2 : (place - last).toNat = 52 - mag.log2 := by omega
          have e3 : mag.log2 ≤ 52 := by omega
          rw [e1, Nat.pow_zero, Nat.mul_one, e2]
          calc 2 ^ 52 = 2 ^ mag.log2 * 2 ^ (52 - mag.log2) := by rw [← Nat.pow_add]; congr 1; omega
            _ ≤ mag * 2 ^ (52 - mag.log2) := Nat.mul_le_mul_right _ hmag1
        · have e1 : (place - last).toNat = 0 := by omega
          rw [e1, Nat.pow_zero, Nat.mul_one, ← Nat.pow_add]
          exact Nat.le_trans (Nat.pow_le_pow_right (by decide) (by omega)) hmag1
      have h := hcut.1
      generalize 2 ^ drop = g at *
      apply Nat.le_of_lt_succ
      apply Nat.lt_of_mul_lt_mul_right (a := g)
      show 2 ^ 52 * g < (kept + 1) * g
      rw [Nat.add_mul, Nat.one_mul]
      omega
  have hrung : (last + 1074).toNat * 2 ^ 52 + kept < 2047 * 2 ^ 52 := by
    have hT : (last + 1074).toNat ≤ 1922 := by omega
    generalize (last + 1074).toNat = T at *
    have h1 : T * 2 ^ 52 ≤ 1922 * 2 ^ 52 := Nat.mul_le_mul_right _ hT
    generalize hq : (2 : Nat) ^ 52 = q at *
    have hq2 : (2 : Nat) ^ 53 = 2 * q := by rw [← hq]
    have hqp : 0 < q := by rw [← hq]; exact Nat.two_pow_pos _
    rw [hq2] at hk53
    omega
  have hw : double.nearest neg mag place = double.word neg ((last + 1074).toNat * 2 ^ 52 + kept) := by
    unfold Format.nearest
    rw [if_neg hm]
    simp only [c_least, c_binade, c_inf]
    have ef : ((double.fractionBits : Nat) : Int) = 52 := rfl
    rw [ef, hl, hsh, hdr, hkd]
    have e1 : (last - -1074).toNat = (last + 1074).toNat := by omega
    rw [e1, Nat.min_eq_left (by omega)]
  obtain ⟨h1, h2⟩ := read_word neg _ hrung
  rw [hw]
  refine ⟨h1, ?_, hb1, hb2⟩
  rw [h2, rv_kept _ _ hk52 hk53]
  have e : (-1074 + ((last + 1074).toNat : Int)) = last := by omega
  rw [e]
end Go.Proofs.Qxb6605538a.fl
