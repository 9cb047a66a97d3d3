/-
  The law's own integer sums. No Go in sight.
-/
import Derived.Test.Qxb6605538aGa
namespace Go.Proofs.Qxb6605538a.fl
open Ieee

/-- the whole number that a word holds -/
def iv (b : Nat) : Int := (fv b).num
theorem iv_cast {b : Nat} (h : IsInt (fv b)) : ((iv b : Int) : Rat) = fv b := by
  obtain ⟨z, hz⟩ := h
  unfold iv
  rw [hz]
  rfl
theorem toInt_of {b : Nat} (hf : Fin b) (hi : IsInt (fv b)) (hb : ab (fv b) ≤ 2000) : floatToIntVal .f64 b .i64 = some (iv b) := by
  have e2000 : ((2000 : Nat) : Rat) = 2000 := by decide
  obtain ⟨k, hk, _, hj⟩ := toInt_ok hf 2000 (by omega) (by rw [e2000]; exact hb)
  rw [hk, hj (iv b) (iv_cast hi).symm]
theorem iv_le {b : Nat} (hi : IsInt (fv b)) {M : Nat} (hb : ab (fv b) ≤ (M : Rat)) : (iv b).natAbs ≤ M := by
  rw [← iv_cast hi] at hb
  exact int_nat hb

def Zs {α : Type} (f : α → Int) : List α → Int
  | [] => 0
  | a :: l => f a + Zs f l
theorem Zs_append {α : Type} (f : α → Int) (a b : List α) : Zs f (a ++ b) = Zs f a + Zs f b := by
  induction a with
  | nil => rw [List.nil_append]; show _ = 0 + _; omega
  | cons x l ih => rw [List.cons_append]; show f x + _ = (f x + _) + _; rw [ih]; omega
theorem Zs_take {α : Type} (f : α → Int) (l : List α) (k : Nat) (h : k < l.length) : Zs f (l.take (k + 1)) = Zs f (l.take k) + f l[k] := by
  rw [List.take_succ_eq_append_getElem h, Zs_append]
  show _ + (f l[k] + 0) = _
  omega
theorem Zs_cast {α : Type} (f : α → Int) (l : List α) : ((Zs f l : Int) : Rat) = Sm (fun a => (f a : Rat)) l := by
  induction l with
  | nil => rfl
  | cons a l ih => rw [Sm_cons, ← ih]; exact Rat.intCast_add _ _
theorem Zs_le {α : Type} {f : α → Int} {l : List α} {C : Nat} (h : ∀ a, a ∈ l → (f a).natAbs ≤ C) : (Zs f l).natAbs ≤ l.length * C := by
  induction l with
  | nil => exact Nat.zero_le _
  | cons a l ih =>
    have h1 := h a (by simp)
    have h2 := ih fun a ha => h a (by simp [ha])
    rw [List.length_cons, Nat.succ_mul]
    show (f a + Zs f l).natAbs ≤ _
    omega

def ix (p : Pt) : Int := iv p.1
def iy (p : Pt) : Int := iv p.2.1
def iw (p : Pt) : Int := iv p.2.2
def i1 (p : Pt) : Int := iw p * ix p
def i2 (p : Pt) : Int := iw p * iy p
def i3 (p : Pt) : Int := iw p * ix p * ix p
def i4 (p : Pt) : Int := iw p * ix p * iy p
theorem GPt.ints {p : Pt} (h : GPt p) : ((iw p : Int) : Rat) = pw p ∧ ((ix p : Int) : Rat) = px p ∧ ((iy p : Int) : Rat) = py p := by
  obtain ⟨f1, f2, f3, i1, i2, i3, b1, b2, w0, w1⟩ := h
  exact ⟨iv_cast i3, iv_cast i1, iv_cast i2⟩
theorem GPt.small {p : Pt} (h : GPt p) : (iw p).natAbs ≤ 256 ∧ (ix p).natAbs ≤ 1024 ∧ (iy p).natAbs ≤ 1024 := by
  obtain ⟨f1, f2, f3, i1, i2, i3, b1, b2, w0, w1⟩ := h
  have e1 : ((256 : Nat) : Rat) = 256 := by decide
  have e2 : ((1024 : Nat) : Rat) = 1024 := by decide
  refine ⟨iv_le i3 ?_, iv_le i1 ?_, iv_le i2 ?_⟩
  · have : fv p.2.2 = pw p := rfl
    rw [this, ab_of_nonneg w0, e1]; exact w1
  · rw [e2]; exact b1
  · rw [e2]; exact b2
theorem GPt.bounds {p : Pt} (h : GPt p) : (iw p).natAbs ≤ 256 ∧ (i1 p).natAbs ≤ 262144 ∧ (i2 p).natAbs ≤ 262144 ∧ (i3 p).natAbs ≤ 268435456 ∧ (i4 p).natAbs ≤ 268435456 := by
  obtain ⟨a, b, c⟩ := h.small
  have m1 : (i1 p).natAbs ≤ 256 * 1024 := by unfold i1; rw [Int.natAbs_mul]; exact Nat.mul_le_mul a b
  have m2 : (i2 p).natAbs ≤ 256 * 1024 := by unfold i2; rw [Int.natAbs_mul]; exact Nat.mul_le_mul a c
  have m3 : (i3 p).natAbs ≤ 256 * 1024 * 1024 := by unfold i3; rw [Int.natAbs_mul]; exact Nat.mul_le_mul m1 b
  have m4 : (i4 p).natAbs ≤ 256 * 1024 * 1024 := by unfold i4; rw [Int.natAbs_mul]; exact Nat.mul_le_mul m1 c
  exact ⟨a, m1, m2, m3, m4⟩
theorem sums_cast {ps : List Pt} (h : ∀ p, p ∈ ps → GPt p) : s0 pw ps = (Zs iw ps : Int) ∧ s1 pw px ps = (Zs i1 ps : Int) ∧ s1 pw py ps = (Zs i2 ps : Int) ∧ s2 pw px px ps = (Zs i3 ps : Int) ∧ s2 pw px py ps = (Zs i4 ps : Int) := by
  rw [Zs_cast, Zs_cast, Zs_cast, Zs_cast, Zs_cast]
  unfold s0 s1 s2
  refine ⟨Sm_congr fun p hp => (h p hp).ints.1.symm, Sm_congr fun p hp => ?_, Sm_congr fun p hp => ?_, Sm_congr fun p hp => ?_, Sm_congr fun p hp => ?_⟩
  · obtain ⟨a, b, c⟩ := (h p hp).ints
    unfold i1; rw [Rat.intCast_mul, a, b]
  · obtain ⟨a, b, c⟩ := (h p hp).ints
    unfold i2; rw [Rat.intCast_mul, a, c]
  · obtain ⟨a, b, c⟩ := (h p hp).ints
    unfold i3; rw [Rat.intCast_mul, Rat.intCast_mul, a, b]
  · obtain ⟨a, b, c⟩ := (h p hp).ints
    unfold i4; rw [Rat.intCast_mul, Rat.intCast_mul, a, b, c]
theorem line_of {ps : List Pt} (h : ∀ p, p ∈ ps → GPt p) (hl : ps.length ≤ 4096) : LineIn pw px py ps (Zs iw ps) (Zs i1 ps) (Zs i2 ps) (Zs i3 ps) (Zs i4 ps) := by
  obtain ⟨e0, e1, e2, e3, e4⟩ := sums_cast h
  exact ⟨fun p hp => (h p hp).2.2.2.2.2.2.2.2.1, fun p hp => (h p hp).2.2.2.2.2.1, fun p hp => (h p hp).2.2.2.1, fun p hp => (h p hp).2.2.2.2.2.2.1, fun p hp => (h p hp).2.2.2.2.2.2.2.1,
    s0_le hl fun p hp => (h p hp).2.2.2.2.2.2.2.2.2, e0, e1, e2, e3, e4⟩

/-- what a group is pooled at, as a whole number -/
def ic (g : Gr) : Int := g.c.num
theorem ic_cast {g : Gr} (h : GrOk g) : ((ic g : Int) : Rat) = g.c := by
  unfold ic
  rcases h.hc with e | e <;> rw [e] <;> rfl
def PZ (f : Pt → Int) (l : List Gr) : Int := Zs (fun g => ic g * Zs f g.ps) l
def tot_len (l : List Gr) : Nat := (l.map fun g => g.ps.length).sum
theorem PZ_cast {f : Pt → Int} {F : Pt → Rat} {l : List Gr} (h : ∀ g, g ∈ l → GrOk g) (hf : ∀ g, g ∈ l → Sm F g.ps = (Zs f g.ps : Int)) : ((PZ f l : Int) : Rat) = Sm (fun g => g.c * Sm F g.ps) l := by
  unfold PZ
  rw [Zs_cast]
  refine Sm_congr fun g hg => ?_
  rw [Rat.intCast_mul, ic_cast (h g hg), hf g hg]
theorem PZ_take (f : Pt → Int) (l : List Gr) (k : Nat) (h : k < l.length) : PZ f (l.take (k + 1)) = PZ f (l.take k) + ic l[k] * Zs f (l[k]).ps := Zs_take _ l k h
theorem PZ_le {f : Pt → Int} {l : List Gr} {C : Nat} (h : ∀ g, g ∈ l → GrOk g) (hf : ∀ g, g ∈ l → ∀ p, p ∈ g.ps → (f p).natAbs ≤ C) : (PZ f l).natAbs ≤ tot_len l * C := by
  unfold PZ tot_len
  induction l with
  | nil => exact Nat.zero_le _
  | cons g l ih =>
    have h2 := ih (fun g hg => h g (by simp [hg])) (fun g hg => hf g (by simp [hg]))
    have h1 := Zs_le (hf g (by simp))
    have h3 : (ic g * Zs f g.ps).natAbs ≤ g.ps.length * C := by
      unfold ic
      rcases (h g (by simp)).hc with e | e <;> rw [e]
      · rw [show (0 : Rat).num = 0 from rfl, Int.zero_mul]; exact Nat.zero_le _
      · rw [show (1 : Rat).num = 1 from rfl, Int.one_mul]; exact h1
    rw [List.map_cons, List.sum_cons, Nat.add_mul]
    show (ic g * Zs f g.ps + Zs (fun g => ic g * Zs f g.ps) l).natAbs ≤ _
    omega
theorem tot_take (l : List Gr) (k : Nat) : tot_len (l.take k) ≤ tot_len l := by
  unfold tot_len
  have e := List.take_append_drop k l
  have h : (l.map fun g => g.ps.length).sum = ((l.take k).map fun g => g.ps.length).sum + ((l.drop k).map fun g => g.ps.length).sum := by
    rw [← List.sum_append, ← List.map_append, e]
  omega
theorem PZ_bound {f : Pt → Int} {l : List Gr} {C : Nat} (h : ∀ g, g ∈ l → GrOk g) (hf : ∀ g, g ∈ l → ∀ p, p ∈ g.ps → (f p).natAbs ≤ C) (ht : tot_len l ≤ 4096) (k : Nat) : (PZ f (l.take k)).natAbs ≤ 4096 * C := by
  have h1 := PZ_le (l := l.take k) (fun g hg => h g (List.mem_of_mem_take hg)) (fun g hg => hf g (List.mem_of_mem_take hg))
  have h2 := tot_take l k
  have h3 : tot_len (l.take k) * C ≤ 4096 * C := Nat.mul_le_mul_right C (by omega)
  omega
theorem pool_line {gs : List Gr} (h : ∀ g, g ∈ gs → GrOk g) (hV : s0 qw (pool gs) ≤ 1048576) : LineIn qw qx qy (pool gs) (PZ iw gs) (PZ i1 gs) (PZ i2 gs) (PZ i3 gs) (PZ i4 gs) := by
  refine ⟨pool_w h, pool_wi h, pool_xi h, pool_xb h, pool_yb h, hV, ?_, ?_, ?_, ?_, ?_⟩
  · rw [pool_s0, PZ_cast (F := pw) h fun g hg => (sums_cast (h g hg).hp).1]; rfl
  · rw [PZ_cast (F := fun p => pw p * px p) h fun g hg => (sums_cast (h g hg).hp).2.1]; exact pool_s1 px gs
  · rw [PZ_cast (F := fun p => pw p * py p) h fun g hg => (sums_cast (h g hg).hp).2.2.1]; exact pool_s1 py gs
  · rw [PZ_cast (F := fun p => pw p * px p * px p) h fun g hg => (sums_cast (h g hg).hp).2.2.2.1, ← Sm_pool]
    exact Sm_congr fun a _ => by unfold qw qx; grind
  · rw [PZ_cast (F := fun p => pw p * px p * py p) h fun g hg => (sums_cast (h g hg).hp).2.2.2.2, ← Sm_pool]
    exact Sm_congr fun a _ => by unfold qw qx qy; grind
end Go.Proofs.Qxb6605538a.fl
