/-
  The plain laws: numerals and the numbers that they spell. No Go in sight.
-/
import Derived.Test.Qxb6600527aDoorPlain
namespace Go.Proofs.Qxb6600527aDoor.pl

/-- the number that the digits spell, behind 'acc' -/
def val (acc : Nat) (l : List UInt8) : Nat := l.foldl (fun a c => a * 10 + (c.toNat - 48)) acc
theorem val_nil (acc : Nat) : val acc [] = acc := by unfold val; rw [List.foldl_nil]
theorem val_cons (acc : Nat) (c : UInt8) (r : List UInt8) : val acc (c :: r) = val (acc * 10 + (c.toNat - 48)) r := by unfold val; rw [List.foldl_cons]

theorem isDig_iff (c : UInt8) : isDig c = true ↔ 48 ≤ c.toNat ∧ c.toNat ≤ 57 := by simp [isDig]

theorem val_append (a b : List UInt8) (acc : Nat) : val acc (a ++ b) = val (val acc a) b := by unfold val; rw [List.foldl_append]
theorem val_one (acc : Nat) (c : UInt8) : val acc [c] = acc * 10 + (c.toNat - 48) := by rw [val_cons, val_nil]

theorem arith (acc d p v : Nat) : (acc * 10 + d) * p + v = acc * (p * 10) + ((0 * 10 + d) * p + v) := by
  have h : (acc * 10 + d) * p = acc * (p * 10) + d * p := by rw [Nat.add_mul, Nat.mul_assoc, Nat.mul_comm 10 p]
  rw [h, Nat.zero_mul, Nat.zero_add, Nat.add_assoc]

theorem val_eq (l : List UInt8) : ∀ (acc : Nat), val acc l = acc * 10 ^ l.length + val 0 l := by
  induction l with
  | nil => intro acc; rw [val_nil, val_nil]; simp
  | cons c r ih =>
    intro acc
    rw [val_cons, val_cons, ih (acc * 10 + (c.toNat - 48)), ih (0 * 10 + (c.toNat - 48)), List.length_cons, Nat.pow_succ]
    exact arith acc (c.toNat - 48) (10 ^ r.length) (val 0 r)

theorem val_le (l : List UInt8) : ∀ (acc : Nat), acc ≤ val acc l := by
  induction l with
  | nil => intro acc; rw [val_nil]; exact Nat.le_refl _
  | cons c r ih =>
    intro acc
    have := ih (acc * 10 + (c.toNat - 48))
    rw [val_cons]
    omega

theorem val_lt (l : List UInt8) : l.all isDig = true → val 0 l < 10 ^ l.length := by
  induction l with
  | nil => intro _; rw [val_nil]; simp
  | cons c r ih =>
    intro h
    rw [List.all_cons, Bool.and_eq_true, isDig_iff] at h
    have h2 := ih h.2
    rw [val_cons, val_eq, List.length_cons, Nat.pow_succ]
    have : (0 * 10 + (c.toNat - 48)) * 10 ^ r.length ≤ 9 * 10 ^ r.length := Nat.mul_le_mul_right _ (by omega)
    omega

theorem parseM_ok (M : Nat) (hM : M ≤ 18446744073709551615) (l : List UInt8) : ∀ (acc : Nat), l.all isDig = true → val acc l ≤ M → Lib.parseUintM M acc l = .ok (val acc l) := by
  induction l with
  | nil => intro acc _ _; rw [Lib.parseUintM, val_nil]
  | cons c r ih =>
    intro acc h hv
    rw [List.all_cons, Bool.and_eq_true, isDig_iff] at h
    have h1 := val_le r (acc * 10 + (c.toNat - 48))
    rw [val_cons] at hv
    rw [Lib.parseUintM, if_pos h.1, if_neg (by omega), if_neg (by omega), ih _ h.2 hv, val_cons]

theorem parseM_range (M : Nat) (l : List UInt8) : ∀ (acc : Nat), l.all isDig = true → acc ≤ M → M < val acc l → Lib.parseUintM M acc l = .range := by
  induction l with
  | nil => intro acc _ ha hv; rw [val_nil] at hv; omega
  | cons c r ih =>
    intro acc h ha hv
    rw [List.all_cons, Bool.and_eq_true, isDig_iff] at h
    rw [val_cons] at hv
    rw [Lib.parseUintM, if_pos h.1]
    split
    · rfl
    · split
      · rfl
      · exact ih _ h.2 (by omega) hv

/-! ### Lib.decDigits -/

theorem dec_small {u : Nat} (h : u < 10) : Lib.decDigits u = [UInt8.ofNat (48 + u)] := by rw [Lib.decDigits, dif_pos h]
theorem dec_big {u : Nat} (h : ¬ u < 10) : Lib.decDigits u = Lib.decDigits (u / 10) ++ [UInt8.ofNat (48 + u % 10)] := by rw [Lib.decDigits, dif_neg h]

theorem ofNat_toNat {d : Nat} (h : d < 10) : (UInt8.ofNat (48 + d)).toNat = 48 + d := by
  rw [UInt8.toNat_ofNat_of_lt' (by have : UInt8.size = 256 := rfl; omega)]

theorem dec_all (u : Nat) : (Lib.decDigits u).all isDig = true := by
  induction u using Nat.strongRecOn with
  | _ u ih =>
    by_cases h : u < 10
    · rw [dec_small h, List.all_cons, List.all_nil, Bool.and_true, isDig_iff, ofNat_toNat h]
      omega
    · rw [dec_big h, List.all_append, ih (u / 10) (by omega), List.all_cons, List.all_nil, Bool.and_true, Bool.true_and, isDig_iff, ofNat_toNat (by omega)]
      omega

theorem dec_val (u : Nat) : val 0 (Lib.decDigits u) = u := by
  induction u using Nat.strongRecOn with
  | _ u ih =>
    by_cases h : u < 10
    · rw [dec_small h, val_one, ofNat_toNat h]
      omega
    · rw [dec_big h, val_append, ih (u / 10) (by omega), val_one, ofNat_toNat (by omega)]
      omega

theorem dec_head (u : Nat) (hu : 1 ≤ u) : ∃ c r, Lib.decDigits u = c :: r ∧ 49 ≤ c.toNat ∧ c.toNat ≤ 57 := by
  induction u using Nat.strongRecOn with
  | _ u ih =>
    by_cases h : u < 10
    · exact ⟨_, _, dec_small h, by rw [ofNat_toNat h]; omega, by rw [ofNat_toNat h]; omega⟩
    · obtain ⟨c, r, e, h1, h2⟩ := ih (u / 10) (by omega) (by omega)
      exact ⟨c, r ++ [UInt8.ofNat (48 + u % 10)], by rw [dec_big h, e]; rfl, h1, h2⟩

theorem uint8_ext {a b : UInt8} (h : a.toNat = b.toNat) : a = b := UInt8.toNat_inj.1 h

/-- a numeral without a leading zero is the numeral of its number -/
theorem dec_of_val : ∀ (n : Nat) (l : List UInt8), l.length = n → l ≠ [] → l.all isDig = true → (l.length = 1 ∨ ∀ c, l.head? = some c → c.toNat ≠ 48) → Lib.decDigits (val 0 l) = l := by
  intro n
  induction n with
  | zero => intro l hl hne; exact absurd (List.length_eq_zero_iff.1 hl) hne
  | succ n ih =>
    intro l hl hne hd hh
    obtain ⟨r, c, rfl⟩ : ∃ r c, l = r ++ [c] := ⟨l.dropLast, l.getLast hne, (List.dropLast_concat_getLast hne).symm⟩
    rw [List.all_append, Bool.and_eq_true, List.all_cons, List.all_nil, Bool.and_true, isDig_iff] at hd
    have hv : val 0 (r ++ [c]) = val 0 r * 10 + (c.toNat - 48) := by rw [val_append, val_one]
    rw [hv]
    by_cases hr : r = []
    · subst hr
      rw [val_nil, dec_small (by omega)]
      congr 1
      apply uint8_ext
      rw [ofNat_toNat (by omega)]
      omega
    · have hlr : 1 ≤ r.length := by
        cases r with
        | nil => exact absurd rfl hr
        | cons _ _ => simp
      have hhr : ∀ a, r.head? = some a → a.toNat ≠ 48 := by
        rcases hh with hh | hh
        · rw [List.length_append, List.length_singleton] at hh; omega
        · intro a ha
          refine hh a ?_
          rw [List.head?_append, ha]
          rfl
      have hpos : 1 ≤ val 0 r := by
        cases r with
        | nil => exact absurd rfl hr
        | cons a t =>
          have h1 := hhr a rfl
          rw [List.all_cons, Bool.and_eq_true, isDig_iff] at hd
          have := val_le t (0 * 10 + (a.toNat - 48))
          rw [val_cons]
          omega
      rw [dec_big (by omega)]
      have e1 : (val 0 r * 10 + (c.toNat - 48)) / 10 = val 0 r := by omega
      have e2 : (val 0 r * 10 + (c.toNat - 48)) % 10 = c.toNat - 48 := by omega
      rw [e1, e2, ih r (by simpa using hl) hr hd.1 (.inr hhr)]
      congr 2
      apply uint8_ext
      rw [ofNat_toNat (by omega)]
      omega

/-! ### ParseInteger reads back what zzDecimal writes -/

theorem parse_pos {l : List UInt8} {a : UInt8} {r : List UInt8} (e : l = a :: r) (hd : l.all isDig = true) :
    Lib.parseIntB 64 l = if val 0 l < 9223372036854775808 then .ok (val 0 l : Int) else .range := by
  have ha : 48 ≤ a.toNat ∧ a.toNat ≤ 57 := by
    rw [e, List.all_cons, Bool.and_eq_true, isDig_iff] at hd
    exact hd.1
  have hu : Lib.parseUintB 64 l = if val 0 l ≤ 18446744073709551615 then .ok (val 0 l) else .range := by
    unfold Lib.parseUintB
    rw [if_neg (by rw [e]; simp)]
    by_cases h : val 0 l ≤ 18446744073709551615
    · rw [if_pos h]; exact parseM_ok _ (by decide) l 0 hd (by simpa using h)
    · rw [if_neg h]; exact parseM_range _ l 0 hd (by omega) (by simp; omega)
  subst e
  unfold Lib.parseIntB
  simp only
  rw [if_neg (by omega), hu]
  by_cases h1 : val 0 (a :: r) < 9223372036854775808
  · rw [if_pos h1, if_pos (by omega)]
    simp only
    rw [if_neg (by intro h; have := h.2; have e2 : 2 ^ (64 - 1) = 9223372036854775808 := by decide
                   omega), if_neg (by omega), if_neg (by omega)]
  · rw [if_neg h1]
    by_cases h2 : val 0 (a :: r) ≤ 18446744073709551615
    · rw [if_pos h2]
      simp only
      rw [if_pos ⟨by omega, by have e2 : 2 ^ (64 - 1) = 9223372036854775808 := by decide
                               omega⟩]
    · rw [if_neg h2]

theorem parse_neg {r : List UInt8} {a : UInt8} (ha : a.toNat = 45) (hr : r ≠ []) (hd : r.all isDig = true) :
    Lib.parseIntB 64 (a :: r) = if val 0 r ≤ 9223372036854775808 then .ok (-(val 0 r : Int)) else .range := by
  have hu : Lib.parseUintB 64 r = if val 0 r ≤ 18446744073709551615 then .ok (val 0 r) else .range := by
    unfold Lib.parseUintB
    rw [if_neg hr]
    by_cases h : val 0 r ≤ 18446744073709551615
    · rw [if_pos h]; exact parseM_ok _ (by decide) r 0 hd (by simpa using h)
    · rw [if_neg h]; exact parseM_range _ r 0 hd (by omega) (by simp; omega)
  have e2 : 2 ^ (64 - 1) = 9223372036854775808 := by decide
  unfold Lib.parseIntB
  simp only
  rw [if_pos (.inr ha), hu]
  by_cases h1 : val 0 r ≤ 9223372036854775808
  · rw [if_pos h1, if_pos (by omega)]
    simp only
    rw [if_neg (by omega), if_neg (by omega), if_pos ha]
  · rw [if_neg h1]
    by_cases h2 : val 0 r ≤ 18446744073709551615
    · rw [if_pos h2]
      simp only
      rw [if_neg (by omega), if_pos (by omega)]
    · rw [if_neg h2]

theorem PI_itoa (n : Int) (h0 : -9223372036854775808 ≤ n) (h1 : n ≤ 9223372036854775807) : PI (Lib.itoa n) = (n, true) := by
  unfold Lib.itoa
  by_cases hn : n < 0
  · rw [if_pos hn]
    obtain ⟨c, r, e, hc1, hc2⟩ := dec_head n.natAbs (by omega)
    have hall := dec_all n.natAbs
    have hv := dec_val n.natAbs
    have hd : digitsOf (45 :: Lib.decDigits n.natAbs) = Lib.decDigits n.natAbs := by
      rw [digitsOf, if_pos (by decide)]
    have hp := parse_neg (a := 45) (r := Lib.decDigits n.natAbs) (by decide) (by rw [e]; simp) hall
    rw [hv, if_pos (by omega)] at hp
    have hb : badHead (45 :: Lib.decDigits n.natAbs) = false := by
      unfold badHead
      rw [hd, e]
      simp
      omega
    rw [PI_ok hb (by rw [hd]; exact hall) hp]
    congr 1
    omega
  · rw [if_neg hn]
    have hall := dec_all n.toNat
    have hv := dec_val n.toNat
    by_cases hz : n.toNat = 0
    · have e : n = 0 := by omega
      subst e
      have e0 : Lib.decDigits (Int.toNat 0) = [48] := dec_small (u := 0) (by decide)
      rw [e0]
      rfl
    · obtain ⟨c, r, e, hc1, hc2⟩ := dec_head n.toNat (by omega)
      have hd : digitsOf (Lib.decDigits n.toNat) = Lib.decDigits n.toNat := by
        rw [e, digitsOf, if_neg (by omega)]
      have hp := parse_pos (l := Lib.decDigits n.toNat) e hall
      rw [hv, if_pos (by omega)] at hp
      have hb : badHead (Lib.decDigits n.toNat) = false := by
        unfold badHead
        rw [hd, e]
        simp
        omega
      rw [PI_ok hb (by rw [hd]; exact hall) hp]
      congr 1
      omega
end Go.Proofs.Qxb6600527aDoor.pl
