/-
  What ParseInteger answers, as a plain function of the bytes: no Go in sight.
-/
import Derived.Lib.ParseIntB
import Derived.Lib.ItoaNum
namespace Go.Proofs.Qxb6600527aDoor.pl

def isDig (c : UInt8) : Bool := decide (48 ≤ c.toNat ∧ c.toNat ≤ 57)
/-- the text behind a leading '-' -/
def digitsOf : List UInt8 → List UInt8
  | [] => []
  | c :: r => if c.toNat = 45 then r else c :: r
/-- no digits, a leading zero, or -0 -/
def badHead (l : List UInt8) : Bool :=
  (digitsOf l).isEmpty || (decide ((digitsOf l).head?.map (·.toNat) = some 48) && decide ((digitsOf l).length < l.length ∨ 1 < (digitsOf l).length))
/-- ParseInteger -/
def PI (l : List UInt8) : Int × Bool :=
  if badHead l then (0, false)
  else if (digitsOf l).all isDig then
    match Lib.parseIntB 64 l with
    | .ok v => (v, true)
    | .range => (Lib.intSat 64 l, false)
    | _ => (0, false)
  else (0, false)

theorem PI_bad {l : List UInt8} (h : badHead l = true) : PI l = (0, false) := by unfold PI; rw [if_pos h]
theorem PI_nodig {l : List UInt8} (h : badHead l = false) (h2 : (digitsOf l).all isDig = false) : PI l = (0, false) := by
  unfold PI; rw [if_neg (by rw [h]; decide), if_neg (by rw [h2]; decide)]
theorem PI_ok {l : List UInt8} {v : Int} (h : badHead l = false) (h2 : (digitsOf l).all isDig = true) (h3 : Lib.parseIntB 64 l = .ok v) : PI l = (v, true) := by
  unfold PI; rw [if_neg (by rw [h]; decide), if_pos h2, h3]
theorem PI_range {l : List UInt8} (h : badHead l = false) (h2 : (digitsOf l).all isDig = true) (h3 : Lib.parseIntB 64 l = .range) : PI l = (Lib.intSat 64 l, false) := by
  unfold PI; rw [if_neg (by rw [h]; decide), if_pos h2, h3]
theorem no_syntaxM (M : Nat) : ∀ (l : List UInt8) (acc : Nat), l.all isDig = true → Lib.parseUintM M acc l ≠ Lib.NumEnd.syntax
  | [], acc, _ => by simp [Lib.parseUintM]
  | c :: r, acc, h => by
    rw [List.all_cons, Bool.and_eq_true] at h
    have hc : 48 ≤ c.toNat ∧ c.toNat ≤ 57 := by simpa [isDig] using h.1
    rw [Lib.parseUintM, if_pos hc]
    split
    · intro e; cases e
    · split
      · intro e; cases e
      · exact no_syntaxM M r _ h.2

theorem no_syntax {l : List UInt8} (h1 : badHead l = false) (h2 : (digitsOf l).all isDig = true) : Lib.parseIntB 64 l ≠ Lib.NumEnd.syntax := by
  cases l with
  | nil => simp [badHead, digitsOf] at h1
  | cons c r =>
    have hu : Lib.parseUintB 64 (if c.toNat = 43 ∨ c.toNat = 45 then r else c :: r) ≠ Lib.NumEnd.syntax := by
      have h43 : ¬ c.toNat = 43 := by
        intro e
        rw [digitsOf, if_neg (by omega), List.all_cons, Bool.and_eq_true] at h2
        have : 48 ≤ c.toNat ∧ c.toNat ≤ 57 := by simpa [isDig] using h2.1
        omega
      have he : (if c.toNat = 43 ∨ c.toNat = 45 then r else c :: r) = digitsOf (c :: r) := by
        rw [digitsOf]
        by_cases h : c.toNat = 45
        · rw [if_pos (.inr h), if_pos h]
        · rw [if_neg (by omega), if_neg h]
      rw [he]
      unfold Lib.parseUintB
      rw [if_neg (by intro e; rw [badHead, e] at h1; simp at h1)]
      exact no_syntaxM _ _ _ h2
    unfold Lib.parseIntB
    simp only
    split
    · exact fun _ => hu ‹_›
    · intro e; cases e
    · split
      · intro e; cases e
      · split
        · intro e; cases e
        · intro e; cases e
end Go.Proofs.Qxb6600527aDoor.pl
