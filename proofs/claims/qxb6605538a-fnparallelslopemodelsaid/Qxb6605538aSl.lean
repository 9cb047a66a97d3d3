/-
  'psLine's quotients; the two slopes; the law's last lines. No Go in sight.
-/
import Derived.Test.Qxb6605538aFi
namespace Go.Proofs.Qxb6605538a.fl
open Ieee

theorem int_nat {k : Int} {M : Nat} (h : ab (k : Rat) ≤ (M : Rat)) : k.natAbs ≤ M := by
  rw [← abs_int k] at h
  exact Rat.natCast_le_natCast.1 h

/-- 'float64(n) / float64(d)', where the line's place is known -/
theorem quot_int {n d : Int} {Q S : Rat} (hn : n.natAbs ≤ 9223372036854775808) (hd0 : 0 < d) (hd : d.natAbs ≤ 1048576) (hQ : (d : Rat) * Q = n) (hS : S = 0 ∨ 1 / 2 ≤ S) (hQS : ab Q ≤ 4096 * S) :
    ∃ p, double.div (Go.floatOfInt Go.FloatKind.f64 n) (Go.floatOfInt Go.FloatKind.f64 d) = some p ∧ Fin p ∧ ab (fv p - Q) ≤ eta * S := by
  obtain ⟨fn, en, zn⟩ := ofInt_near n hn
  obtain ⟨fd, ed⟩ := ofInt_exact d (by omega)
  have hdr : (0 : Rat) < (d : Rat) := by
    have := Rat.intCast_lt_intCast.2 hd0
    exact this
  have hd1 : (1 : Rat) ≤ (d : Rat) := by
    have := Rat.intCast_le_intCast.2 (show (1 : Int) ≤ d by omega)
    exact this
  have hd2 : (d : Rat) ≤ 1048576 := by
    have := Rat.intCast_le_intCast.2 (show d ≤ (1048576 : Int) by omega)
    exact this
  have hu := uu_val
  have hth := th_le
  have ht0 := th_pos
  have he : eta = 1 / 16777216 := rfl
  have h900 := p900
  have hQ0 : 0 ≤ ab Q := ab_nonneg Q
  have hS0 : 0 ≤ S := by rcases hS with e | e <;> grind
  rcases hS with h0 | h0
  · have hQz : Q = 0 := by
      have a1 := ab_le Q
      have a2 := ab_neg_le Q
      grind
    have hnz : (n : Rat) = 0 := by rw [← hQ, hQz]; grind
    have hz := zn hnz
    obtain ⟨p, o, ⟨fp, _⟩, zp⟩ := div_ok fn fd (by rw [ed]; grind) (by
      rw [hz, show (0 : Rat) / fv (Go.floatOfInt Go.FloatKind.f64 d) = 0 by rw [Rat.div_def]; grind, ab_zero]; grind)
    refine ⟨p, o, fp, ?_⟩
    rw [zp hz, hQz, h0, show (0 : Rat) - 0 = 0 by grind, ab_zero]; grind
  · have hn' : ab (n : Rat) = (d : Rat) * ab Q := by rw [← hQ, ab_mul, ab_of_nonneg (Rat.le_of_lt hdr)]
    have hq := quot_dev (P := fv (Go.floatOfInt Go.FloatKind.f64 n)) (m := Q) (c := 1 / 4503599627370496 * (ab Q + 1)) hd1 (by
      rw [hQ]
      rw [hu, hn'] at en
      have m1 := Rat.mul_nonneg (Rat.le_of_lt hdr) hQ0
      grind)
    rw [← ed] at hq
    have hQle : ab Q ≤ 1 * ab ((n : Int) : Rat) := by
      rw [hn']
      have := Rat.mul_le_mul_of_nonneg_right hd1 hQ0
      grind
    have hnb : ab (n : Rat) ≤ 9223372036854775808 := by
      rw [← abs_int n]
      have := Rat.natCast_le_natCast.2 hn
      have e : ((9223372036854775808 : Nat) : Rat) = 9223372036854775808 := by decide
      grind
    have aq := ab_add (fv (Go.floatOfInt Go.FloatKind.f64 n) / fv (Go.floatOfInt Go.FloatKind.f64 d) - Q) Q
    rw [show fv (Go.floatOfInt Go.FloatKind.f64 n) / fv (Go.floatOfInt Go.FloatKind.f64 d) - Q + Q = fv (Go.floatOfInt Go.FloatKind.f64 n) / fv (Go.floatOfInt Go.FloatKind.f64 d) by grind] at aq
    obtain ⟨p, o, ⟨fp, np⟩, _⟩ := div_ok fn fd (by rw [ed]; grind) (by grind)
    refine ⟨p, o, fp, ?_⟩
    rw [hu] at np
    have a2 := ab_add (fv p - fv (Go.floatOfInt Go.FloatKind.f64 n) / fv (Go.floatOfInt Go.FloatKind.f64 d)) (fv (Go.floatOfInt Go.FloatKind.f64 n) / fv (Go.floatOfInt Go.FloatKind.f64 d) - Q)
    rw [show fv p - fv (Go.floatOfInt Go.FloatKind.f64 n) / fv (Go.floatOfInt Go.FloatKind.f64 d) + (fv (Go.floatOfInt Go.FloatKind.f64 n) / fv (Go.floatOfInt Go.FloatKind.f64 d) - Q) = fv p - Q by grind] at a2
    rw [he]
    grind

/-- what 'psLine' answers -/
structure LineOk {α : Type} (w x y : α → Rat) (l : List α) (p s : Nat) (b : Bool) : Prop where
  fp : Fin p
  fs : Fin s
  np : ab (fv p - Pl w x y l) ≤ eta * Pl w x x l
  ns : ab (fv s - Pl w x x l) ≤ eta * Pl w x x l
  hb : b = true ↔ 0 < Pl w x x l
/-- the sums of a line that 'psLine' is handed -/
structure LineIn {α : Type} (w x y : α → Rat) (l : List α) (sw sx sy sxx sxy : Int) : Prop where
  hw : ∀ a, a ∈ l → 0 ≤ w a
  hwi : ∀ a, a ∈ l → IsInt (w a)
  hxi : ∀ a, a ∈ l → IsInt (x a)
  hxb : ∀ a, a ∈ l → ab (x a) ≤ 1024
  hyb : ∀ a, a ∈ l → ab (y a) ≤ 1024
  hs : s0 w l ≤ 1048576
  e0 : s0 w l = sw
  e1 : s1 w x l = sx
  e2 : s1 w y l = sy
  e3 : s2 w x x l = sxx
  e4 : s2 w x y l = sxy
theorem ab_s2 {α : Type} {w x y : α → Rat} {l : List α} (hw : ∀ a, a ∈ l → 0 ≤ w a) (hx : ∀ a, a ∈ l → ab (x a) ≤ 1024) (hy : ∀ a, a ∈ l → ab (y a) ≤ 1024) : ab (s2 w x y l) ≤ s0 w l * 1048576 := by
  have := ab_s1 (w := w) (x := fun a => x a * y a) (l := l) (B := 1048576) hw (fun a ha => by
    have := ab_mul_le (hx a ha) (hy a ha)
    grind)
  unfold s1 at this
  unfold s2
  rw [Sm_congr (g := fun a => w a * (x a * y a)) (fun a _ => by grind)]
  exact this
theorem LineIn.bounds {α : Type} {w x y : α → Rat} {l : List α} {sw sx sy sxx sxy : Int} (h : LineIn w x y l sw sx sy sxx sxy) :
    0 ≤ sw ∧ sw.natAbs ≤ 1048576 ∧ sx.natAbs ≤ 1073741824 ∧ sy.natAbs ≤ 1073741824 ∧ sxx.natAbs ≤ 1099511627776 ∧ sxy.natAbs ≤ 1099511627776 := by
  have h0 := s0_nonneg h.hw
  have b1 := ab_s1 h.hw h.hxb
  have b2 := ab_s1 h.hw h.hyb
  have b3 := ab_s2 h.hw h.hxb h.hxb
  have b4 := ab_s2 h.hw h.hxb h.hyb
  have hs := h.hs
  have p1 : ((1048576 : Nat) : Rat) = 1048576 := by decide
  have p2 : ((1073741824 : Nat) : Rat) = 1073741824 := by decide
  have p3 : ((1099511627776 : Nat) : Rat) = 1099511627776 := by decide
  refine ⟨?_, int_nat ?_, int_nat ?_, int_nat ?_, int_nat ?_, int_nat ?_⟩
  · rw [h.e0] at h0
    exact Rat.intCast_le_intCast.1 h0
  · rw [← h.e0, ab_of_nonneg h0, p1]; exact hs
  · rw [← h.e1, p2]; grind
  · rw [← h.e2, p2]; grind
  · rw [← h.e3, p3]; grind
  · rw [← h.e4, p3]; grind
theorem LineIn.none {α : Type} {w x y : α → Rat} {l : List α} {sw sx sy sxx sxy : Int} (h : LineIn w x y l sw sx sy sxx sxy) (h0 : sw ≤ 0) : LineOk w x y l 0 0 false := by
  have hb := h.bounds
  have hz : s0 w l = 0 := by
    rw [h.e0, show sw = 0 by omega]; rfl
  have hz' := s0_zero h.hw hz
  have eS : Pl w x x l = 0 := by
    rw [Pl_self h.hw]
    exact zero_all fun a ha => by rw [hz' a ha]; grind
  have eP : Pl w x y l = 0 := by
    rw [Pl_self h.hw]
    exact zero_all fun a ha => by rw [hz' a ha]; grind
  refine ⟨fin_zero, fin_zero, ?_, ?_, ?_⟩
  · rw [fv_zero, eP, eS, show (0 : Rat) - 0 = 0 by grind, ab_zero]; grind
  · rw [fv_zero, eS, show (0 : Rat) - 0 = 0 by grind, ab_zero]; grind
  · rw [eS]; simp
theorem LineIn.some {α : Type} {w x y : α → Rat} {l : List α} {sw sx sy sxx sxy : Int} (h : LineIn w x y l sw sx sy sxx sxy) (h0 : 0 < sw) :
    ∃ p s, double.div (Go.floatOfInt Go.FloatKind.f64 (sw * sxy - sx * sy)) (Go.floatOfInt Go.FloatKind.f64 sw) = some p ∧
      double.div (Go.floatOfInt Go.FloatKind.f64 (sw * sxx - sx * sx)) (Go.floatOfInt Go.FloatKind.f64 sw) = some s ∧ LineOk w x y l p s (decide (0 < sw * sxx - sx * sx)) := by
  obtain ⟨_, b0, b1, b2, b3, b4⟩ := h.bounds
  have hP : (sw : Rat) * Pl w x y l = ((sw * sxy - sx * sy : Int) : Rat) := by
    rw [Pl_eq, Rat.intCast_sub, Rat.intCast_mul, Rat.intCast_mul, ← h.e0, ← h.e1, ← h.e2, ← h.e4]
    have := mean_mul (x := y) h.hw
    rw [← this]; grind
  have hS : (sw : Rat) * Pl w x x l = ((sw * sxx - sx * sx : Int) : Rat) := by
    rw [Pl_eq, Rat.intCast_sub, Rat.intCast_mul, Rat.intCast_mul, ← h.e0, ← h.e1, ← h.e3]
    have := mean_mul (x := x) h.hw
    rw [← this]; grind
  have m1 : (sw * sxy).natAbs ≤ 1048576 * 1099511627776 := by rw [Int.natAbs_mul]; exact Nat.mul_le_mul b0 b4
  have m2 : (sx * sy).natAbs ≤ 1073741824 * 1073741824 := by rw [Int.natAbs_mul]; exact Nat.mul_le_mul b1 b2
  have m3 : (sw * sxx).natAbs ≤ 1048576 * 1099511627776 := by rw [Int.natAbs_mul]; exact Nat.mul_le_mul b0 b3
  have m4 : (sx * sx).natAbs ≤ 1073741824 * 1073741824 := by rw [Int.natAbs_mul]; exact Nat.mul_le_mul b1 b1
  have hd := spread_half h.hw h.hwi h.hxi
  have hpl := prod_le h.hw h.hxi h.hyb
  have hn := Pl_nonneg (x := x) h.hw
  have hab := ab_of_nonneg hn
  obtain ⟨p, o1, f1, e1⟩ := quot_int (n := sw * sxy - sx * sy) (by omega) h0 b0 hP hd hpl
  obtain ⟨s, o2, f2, e2⟩ := quot_int (n := sw * sxx - sx * sx) (by omega) h0 b0 hS hd (by grind)
  refine ⟨p, s, o1, o2, f1, f2, e1, e2, ?_⟩
  rw [decide_eq_true_iff]
  have hsw : (0 : Rat) < (sw : Rat) := Rat.intCast_lt_intCast.2 h0
  constructor
  · intro hp
    have : (0 : Rat) < ((sw * sxx - sx * sx : Int) : Rat) := Rat.intCast_lt_intCast.2 hp
    rw [← hS] at this
    by_cases hc : Pl w x x l = 0
    · rw [hc] at this; grind
    · grind
  · intro hp
    have := Rat.mul_pos hsw hp
    rw [hS] at this
    exact Rat.intCast_lt_intCast.1 this

/-! ### The slopes -/
theorem slope_ok {pr sq : Nat} {P S A B C : Rat} (fp : Fin pr) (fs : Fin sq) (hS : 1 / 2 ≤ S) (hP : ab P ≤ 4096 * S) (h1 : ab (fv pr - P) ≤ A * S) (h2 : ab (fv sq - S) ≤ B * S)
    (hB : B ≤ 1 / 1000000) (hC : A + 4096 * B ≤ C * (1 - B)) (hC0 : 0 ≤ C) (hC1 : C ≤ 1) :
    0 < fv sq ∧ ab (P / S) ≤ 4096 ∧ ∃ r, double.div pr sq = some r ∧ Fin r ∧ ab (fv r - P / S) ≤ C + 1 / 1000000 := by
  have hSp : 0 < S := by grind
  have e0 := Rat.div_mul_cancel (a := P) (b := S) (by grind)
  have ht : ab (P / S) ≤ 4096 := by
    refine le_of_mul hSp ?_
    have : ab (P / S) * S = ab (P / S * S) := by rw [ab_mul, ab_of_nonneg (z := S) (by grind)]
    rw [this, e0]; exact hP
  have l1 := ab_le (fv sq - S)
  have l2 := ab_neg_le (fv sq - S)
  have hBS := Rat.mul_le_mul_of_nonneg_right hB (Rat.le_of_lt hSp)
  have hsq : 0 < fv sq := by grind
  refine ⟨hsq, ht, ?_⟩
  generalize hte : P / S = t at *
  have e1 := Rat.div_mul_cancel (a := fv pr) (b := fv sq) (by grind)
  generalize hre : fv pr / fv sq = ρ at *
  have k1 : (ρ - t) * fv sq = (fv pr - P) - t * (fv sq - S) := by rw [← e1, ← e0]; grind
  have k2 := ab_sub (fv pr - P) (t * (fv sq - S))
  have k3 := ab_mul_le ht h2
  rw [← k1, ab_mul, ab_of_nonneg (z := fv sq) (by grind)] at k2
  have k4 : ab (ρ - t) ≤ C := by
    refine le_of_mul hsq ?_
    have c1 := Rat.mul_le_mul_of_nonneg_right hC (Rat.le_of_lt hSp)
    have c2 := Rat.mul_le_mul_of_nonneg_left (show (1 - B) * S ≤ fv sq by grind) hC0
    grind
  have k5 := ab_add (ρ - t) t
  rw [show ρ - t + t = ρ by grind] at k5
  have h900 := p900
  have hu := uu_val
  have hth := th_le
  have ht0 := th_pos
  obtain ⟨r, o, ⟨fr, nr⟩, _⟩ := div_ok fp fs (by grind) (by rw [hre]; grind)
  refine ⟨r, o, fr, ?_⟩
  rw [hre, hu] at nr
  have k6 := ab_add (fv r - ρ) (ρ - t)
  rw [show fv r - ρ + (ρ - t) = fv r - t by grind] at k6
  grind

theorem fin_rel : Fin 4535124824762089472 := by unfold Fin; exact ⟨_, _, _, rfl⟩
theorem fv_rel : fv 4535124824762089472 = 1 / 65536 := by decide +kernel
theorem fin_tol : Fin 4580160821035794432 := by unfold Fin; exact ⟨_, _, _, rfl⟩
theorem fv_tol : fv 4580160821035794432 = 1 / 64 := by decide +kernel

/-- the law's last lines -/
theorem tail_ok {got m : Nat} {t : Rat} (fg : Fin got) (fm : Fin m) (ht : ab t ≤ 4096) (hg : ab (fv got - t) ≤ 8 / 1000) (hm : ab (fv m - t) ≤ 2 / 1000) :
    ∃ d, double.sub got m = some d ∧ Fin d ∧ ∀ am, Fin am → fv am = ab (fv m) → ∃ u tol, double.mul am 4535124824762089472 = some u ∧ double.add 4580160821035794432 u = some tol ∧ Fin tol ∧
      fv d ≤ fv tol ∧ -fv tol ≤ fv d := by
  have h900 := p900
  have h89 := p800_900
  have hu := uu_val
  have hth := th_le
  have ht0 := th_pos
  have k1 := ab_sub (fv got - t) (fv m - t)
  rw [show fv got - t - (fv m - t) = fv got - fv m by grind] at k1
  have km := ab_add (fv m - t) t
  rw [show fv m - t + t = fv m by grind] at km
  obtain ⟨d, o1, fd, nd, _⟩ := sub_ok fg fm (by grind)
  rw [hu] at nd
  have kd := ab_add (fv d - (fv got - fv m)) (fv got - fv m)
  rw [show fv d - (fv got - fv m) + (fv got - fv m) = fv d by grind] at kd
  refine ⟨d, o1, fd, fun am fam eam => ?_⟩
  have m0 := ab_nonneg (fv m)
  have hpu : ab (fv am * fv 4535124824762089472) = fv am * (1 / 65536) := by
    rw [fv_rel, ab_of_nonneg]
    rw [eam]; grind
  obtain ⟨u, o2, fu, nu, _⟩ := mul_ok fam fin_rel (by rw [hpu, eam]; grind)
  rw [hpu, fv_rel, hu] at nu
  have ku := ab_le (fv u - fv am * (1 / 65536))
  have ku2 := ab_neg_le (fv u - fv am * (1 / 65536))
  have ksum := ab_add (1 / 64) (fv u)
  have kab : ab (1 / 64 : Rat) = 1 / 64 := ab_of_nonneg (by decide +kernel)
  have kuab : ab (fv u) ≤ fv am * (1 / 65536) + 1 := by
    have a1 := ab_add (fv u - fv am * (1 / 65536)) (fv am * (1 / 65536))
    rw [show fv u - fv am * (1 / 65536) + fv am * (1 / 65536) = fv u by grind] at a1
    have a2 : ab (fv am * (1 / 65536)) = fv am * (1 / 65536) := ab_of_nonneg (by rw [eam]; grind)
    rw [eam] at nu a2 a1 ⊢
    grind
  obtain ⟨tol, o3, ft, nt, _⟩ := add_ok fin_tol fu (by rw [fv_tol]; rw [eam] at kuab; grind)
  rw [fv_tol, hu] at nt
  have kt := ab_neg_le (fv tol - (1 / 64 + fv u))
  have kt' := ab_le (fv tol - (1 / 64 + fv u))
  have kd1 := ab_le (fv d)
  have kd2 := ab_neg_le (fv d)
  refine ⟨u, tol, o2, o3, ft, ?_, ?_⟩
  · rw [eam] at *
    grind
  · rw [eam] at *
    grind
end Go.Proofs.Qxb6605538a.fl
