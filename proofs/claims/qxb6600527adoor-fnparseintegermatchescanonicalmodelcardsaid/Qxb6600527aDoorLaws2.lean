/-
  The plain laws behind 'zzClass': a digit string against a limit, digit by digit and as a number. No Go in sight.
-/
import Derived.Test.Qxb6600527aDoorLaws
namespace Go.Proofs.Qxb6600527aDoor.pl

/-- "9223372036854775807", "9223372036854775808" -/
def limPos : List UInt8 := [57, 50, 50, 51, 51, 55, 50, 48, 51, 54, 56, 53, 52, 55, 55, 53, 56, 48, 55]
def limNeg : List UInt8 := [57, 50, 50, 51, 51, 55, 50, 48, 51, 54, 56, 53, 52, 55, 55, 53, 56, 48, 56]
theorem val_limPos : val 0 limPos = 9223372036854775807 := by decide +kernel
theorem val_limNeg : val 0 limNeg = 9223372036854775808 := by decide +kernel
theorem dig_limPos : limPos.all isDig = true := by decide
theorem dig_limNeg : limNeg.all isDig = true := by decide

/-- equal up to k, then d's digit is the smaller: d spells the smaller number -/
theorem lex_lt {d e : List UInt8} {k : Nat} (hd : d.all isDig = true) (he : e.all isDig = true) (hl : d.length = e.length) (hk : k < d.length)
    (hp : d.take k = e.take k) (h : (d.getD k 0).toNat < (e.getD k 0).toNat) : val 0 d < val 0 e := by
  have ed : d = d.take k ++ d[k] :: d.drop (k + 1) := by rw [← List.drop_eq_getElem_cons, List.take_append_drop]
  have hke : k < e.length := by omega
  have ee : e = e.take k ++ e[k] :: e.drop (k + 1) := by rw [← List.drop_eq_getElem_cons, List.take_append_drop]
  have h' : d[k].toNat < e[k].toNat := by simpa [hk, hke] using h
  have hdk : 48 ≤ d[k].toNat ∧ d[k].toNat ≤ 57 := (isDig_iff _).1 (List.all_eq_true.1 hd _ (List.getElem_mem hk))
  have hek : 48 ≤ e[k].toNat ∧ e[k].toNat ≤ 57 := (isDig_iff _).1 (List.all_eq_true.1 he _ (List.getElem_mem hke))
  have hdr : (d.drop (k + 1)).all isDig = true := by
    rw [List.all_eq_true] at hd ⊢
    exact fun x hx => hd x (List.mem_of_mem_drop hx)
  have hv := val_lt _ hdr
  have hlen : (d.drop (k + 1)).length = (e.drop (k + 1)).length := by rw [List.length_drop, List.length_drop, hl]
  rw [ed, ee, val_append, val_append, val_cons, val_cons, hp, val_eq (d.drop (k + 1)), val_eq (e.drop (k + 1)), hlen]
  rw [hlen] at hv
  generalize 10 ^ (e.drop (k + 1)).length = p at *
  generalize val 0 (e.take k) = a at *
  generalize val 0 (e.drop (k + 1)) = y at *
  generalize val 0 (d.drop (k + 1)) = x at *
  have h1 : a * 10 + (d[k].toNat - 48) + 1 ≤ a * 10 + (e[k].toNat - 48) := by omega
  have h2 := Nat.mul_le_mul_right p h1
  rw [Nat.add_mul _ 1 p, Nat.one_mul] at h2
  omega

theorem short_small {d : List UInt8} (hd : d.all isDig = true) (hl : d.length < 19) : val 0 d < 9223372036854775807 := by
  have h1 := val_lt d hd
  have h2 : 10 ^ d.length ≤ 10 ^ 18 := Nat.pow_le_pow_right (by decide) (by omega)
  have h3 : (10 : Nat) ^ 18 = 1000000000000000000 := by decide
  omega

theorem long_great {d : List UInt8} {a : UInt8} {r : List UInt8} (e : d = a :: r) (ha : 49 ≤ a.toNat) (hl : 19 < d.length) : 9223372036854775808 < val 0 d := by
  subst e
  rw [val_cons, val_eq]
  have h2 : 10 ^ 19 ≤ 10 ^ r.length := Nat.pow_le_pow_right (by decide) (by simp at hl; omega)
  have h3 : (10 : Nat) ^ 19 = 10000000000000000000 := by decide
  have h4 : 1 * 10 ^ r.length ≤ (0 * 10 + (a.toNat - 48)) * 10 ^ r.length := Nat.mul_le_mul_right _ (by omega)
  omega

/-- zzClass -/
def CL (l : List UInt8) : Nat :=
  if badHead l || !(digitsOf l).all isDig then 0
  else if l.head? = some 45 then (if val 0 (digitsOf l) ≤ 9223372036854775808 then 3 else 2)
  else (if val 0 (digitsOf l) ≤ 9223372036854775807 then 3 else 1)

theorem CL_bad {l : List UInt8} (h : badHead l = true) : CL l = 0 := by unfold CL; rw [if_pos (by rw [h]; rfl)]
theorem CL_nodig {l : List UInt8} (h : (digitsOf l).all isDig = false) : CL l = 0 := by unfold CL; rw [if_pos (by rw [h]; simp)]
theorem CL_neg {l : List UInt8} (h : badHead l = false) (h2 : (digitsOf l).all isDig = true) (h3 : l.head? = some 45) : CL l = if val 0 (digitsOf l) ≤ 9223372036854775808 then 3 else 2 := by
  unfold CL; rw [if_neg (by rw [h, h2]; decide), if_pos h3]
theorem CL_pos {l : List UInt8} (h : badHead l = false) (h2 : (digitsOf l).all isDig = true) (h3 : ¬ l.head? = some 45) : CL l = if val 0 (digitsOf l) ≤ 9223372036854775807 then 3 else 1 := by
  unfold CL; rw [if_neg (by rw [h, h2]; decide), if_neg h3]

/-- THE LAW: ParseInteger against the class. -/
theorem PI_CL (l : List UInt8) :
    (CL l = 0 ∧ PI l = (0, false)) ∨ (CL l = 1 ∧ PI l = (9223372036854775807, false)) ∨ (CL l = 2 ∧ PI l = (-9223372036854775808, false)) ∨
    (CL l = 3 ∧ ∃ n : Int, -9223372036854775808 ≤ n ∧ n ≤ 9223372036854775807 ∧ PI l = (n, true) ∧ Lib.itoa n = l ∧ l ≠ []) := by
  by_cases hb : badHead l = true
  · exact .inl ⟨CL_bad hb, PI_bad hb⟩
  have hb' : badHead l = false := by simpa using hb
  cases hd : (digitsOf l).all isDig with
  | false => exact .inl ⟨CL_nodig hd, PI_nodig hb' hd⟩
  | true =>
  right
  cases l with
  | nil => simp [badHead, digitsOf] at hb
  | cons a r =>
    by_cases ha : a.toNat = 45
    · have ha' : a = 45 := uint8_ext ha
      subst ha'
      have hdig : digitsOf (45 :: r) = r := by rw [digitsOf, if_pos ha]
      rw [hdig] at hd
      have hr : r ≠ [] := by
        intro e
        rw [badHead, hdig, e] at hb'
        simp at hb'
      have hp := parse_neg ha hr hd
      have hc := CL_neg hb' (by rw [hdig]; exact hd) rfl
      rw [hdig] at hc
      by_cases hv : val 0 r ≤ 9223372036854775808
      · rw [if_pos hv] at hp hc
        refine .inr (.inr ⟨hc, -(val 0 r : Int), by omega, by omega, PI_ok hb' (by rw [hdig]; exact hd) hp, ?_, by simp⟩)
        have hz : ∀ c, r.head? = some c → c.toNat ≠ 48 := by
          intro c hc' e48
          rw [badHead, hdig, hc'] at hb'
          simp [e48] at hb'
        have hdec := dec_of_val r.length r rfl hr hd (.inr hz)
        have hpos : 1 ≤ val 0 r := by
          cases r with
          | nil => exact absurd rfl hr
          | cons b t =>
            have h1 := hz b rfl
            rw [List.all_cons, Bool.and_eq_true, isDig_iff] at hd
            have := val_le t (0 * 10 + (b.toNat - 48))
            rw [val_cons]
            omega
        unfold Lib.itoa
        rw [if_pos (by omega), show (-(val 0 r : Int)).natAbs = val 0 r by omega, hdec]
      · rw [if_neg hv] at hp hc
        refine .inr (.inl ⟨hc, ?_⟩)
        rw [PI_range hb' (by rw [hdig]; exact hd) hp]
        rfl
    · have hdig : digitsOf (a :: r) = a :: r := by rw [digitsOf, if_neg ha]
      rw [hdig] at hd
      have hh : ¬ (a :: r).head? = some 45 := by intro e; simp at e; subst e; exact ha rfl
      have hp := parse_pos (l := a :: r) rfl hd
      have hc := CL_pos hb' (by rw [hdig]; exact hd) hh
      rw [hdig] at hc
      by_cases hv : val 0 (a :: r) ≤ 9223372036854775807
      · rw [if_pos (by omega)] at hp
        rw [if_pos hv] at hc
        refine .inr (.inr ⟨hc, (val 0 (a :: r) : Int), by omega, by omega, PI_ok hb' (by rw [hdig]; exact hd) hp, ?_, by simp⟩)
        have hz : (a :: r).length = 1 ∨ ∀ c, (a :: r).head? = some c → c.toNat ≠ 48 := by
          by_cases h1 : (a :: r).length = 1
          · exact .inl h1
          · right
            intro c hc' e48
            rw [badHead, hdig, hc'] at hb'
            rw [List.length_cons] at h1
            simp [e48] at hb'
            exact h1 (by rw [hb']; rfl)
        have hdec := dec_of_val (a :: r).length (a :: r) rfl (by simp) hd hz
        unfold Lib.itoa
        rw [if_neg (by omega), Int.toNat_natCast, hdec]
      · rw [if_neg (by omega)] at hp
        rw [if_neg hv] at hc
        refine .inl ⟨hc, ?_⟩
        rw [PI_range hb' (by rw [hdig]; exact hd) hp]
        unfold Lib.intSat
        rw [if_neg (by intro e; simp at e; exact ha e)]
        rfl
end Go.Proofs.Qxb6600527aDoor.pl
