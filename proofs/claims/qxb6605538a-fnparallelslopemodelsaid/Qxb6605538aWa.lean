/-
  'psLine', 'onGrid': the walks.
-/
import Derived.Test.Qxb6605538aSl
import Derived.Test.Qxb6605538aRows
import Derived.WalkKit
import Derived.WalkSpells
import Derived.WalkLawsBesides
namespace Go.Proofs.Qxb6605538a.fl
open Go.RowKit


theorem run_op (op : BinOp) (x y r : Nat) (h : floatBits op .f64 x y = some r) : ∀ t w, (binOp op t (.float .f64 x) (.float .f64 y)).run Try.prog w = .ok (.float .f64 r) w :=
  fun t w => run_float_arith w op t .f64 x y r h
theorem run_toInt (x : Nat) (n : Int) (h : floatToIntVal .f64 x .i64 = some n) : ∀ w, (convert 24 2 (.float .f64 x)).run Try.prog w = .ok (.int .i64 n) w :=
  fun w => run_convert_float_int w 24 2 .f64 .i64 x n (by rw [Try.underlying24]; rfl) Try.underlying2 h

set_option maxHeartbeats 400000 in
theorem psLine_none (sw sx sy sxx sxy : Int) (w : World) (h : sw ≤ 0) :
    Calls Try.prog 16 #[.int .i64 sw, .int .i64 sx, .int .i64 sy, .int .i64 sxx, .int .i64 sxy] w fun e w' => e = .returned (.tuple #[.float .f64 0, .float .f64 0, .bool false]) ∧ w' = w := by
  go_enter Try.func16, Try.ntmps16
  go_wp2
  go_ret3
  exact ⟨rfl, rfl⟩

set_option maxHeartbeats 400000 in
theorem psLine_some (sw sx sy sxx sxy : Int) (p s : Nat) (w : World) (h : 0 < sw) (b0 : sw.natAbs ≤ 1048576) (b1 : sx.natAbs ≤ 1073741824) (b2 : sy.natAbs ≤ 1073741824) (b3 : sxx.natAbs ≤ 1099511627776) (b4 : sxy.natAbs ≤ 1099511627776)
    (hp : Ieee.double.div (floatOfInt .f64 (sw * sxy - sx * sy)) (floatOfInt .f64 sw) = some p) (hs : Ieee.double.div (floatOfInt .f64 (sw * sxx - sx * sx)) (floatOfInt .f64 sw) = some s) :
    Calls Try.prog 16 #[.int .i64 sw, .int .i64 sx, .int .i64 sy, .int .i64 sxx, .int .i64 sxy] w fun e w' => e = .returned (.tuple #[.float .f64 p, .float .f64 s, .bool (decide (sx * sx < sw * sxx))]) ∧ w' = w := by
  have o1 := run_op .quo _ _ p hp
  have o2 := run_op .quo _ _ s hs
  have m1 : (sw * sxy).natAbs ≤ 1048576 * 1099511627776 := by rw [Int.natAbs_mul]; exact Nat.mul_le_mul b0 b4
  have m2 : (sx * sy).natAbs ≤ 1073741824 * 1073741824 := by rw [Int.natAbs_mul]; exact Nat.mul_le_mul b1 b2
  have m3 : (sw * sxx).natAbs ≤ 1048576 * 1099511627776 := by rw [Int.natAbs_mul]; exact Nat.mul_le_mul b0 b3
  have m4 : (sx * sx).natAbs ≤ 1073741824 * 1073741824 := by rw [Int.natAbs_mul]; exact Nat.mul_le_mul b1 b1
  go_enter Try.func16, Try.ntmps16
  go_wp2_with (simp only [o1, o2])
  go_ret3
  exact ⟨rfl, rfl⟩

theorem psLine_ok {α : Type} {w x y : α → Rat} {l : List α} {sw sx sy sxx sxy : Int} (h : LineIn w x y l sw sx sy sxx sxy) (W : World) :
    Calls Try.prog 16 #[.int .i64 sw, .int .i64 sx, .int .i64 sy, .int .i64 sxx, .int .i64 sxy] W fun e W' => ∃ p s b, e = .returned (.tuple #[.float .f64 p, .float .f64 s, .bool b]) ∧ W' = W ∧ LineOk w x y l p s b := by
  by_cases h0 : sw ≤ 0
  · exact (psLine_none sw sx sy sxx sxy W h0).mono fun e W' ⟨he, hW⟩ => ⟨_, _, _, he, hW, h.none h0⟩
  · obtain ⟨_, b0, b1, b2, b3, b4⟩ := h.bounds
    obtain ⟨p, s, o1, o2, ho⟩ := h.some (by omega)
    refine (psLine_some sw sx sy sxx sxy p s W (by omega) b0 b1 b2 b3 b4 o1 o2).mono fun e W' ⟨he, hW⟩ => ⟨p, s, _, he, hW, ?_⟩
    have e : decide (sx * sx < sw * sxx) = decide (0 < sw * sxx - sx * sx) := by
      rw [decide_eq_decide]; omega
    rw [e]; exact ho


/-- how two numbers stand -/
theorem ord_lt {x y : Nat} (hx : Fin x) (hy : Fin y) (h : fv x < fv y) : FloatKind.f64.format.order x y = some Ordering.lt := by
  have := order_val hx hy
  rw [if_pos h] at this; exact this
theorem ord_eq {x y : Nat} (hx : Fin x) (hy : Fin y) (h : fv x = fv y) : FloatKind.f64.format.order x y = some Ordering.eq := by
  have := order_val hx hy
  rw [if_neg (by rw [h]; exact Rat.lt_irrefl), if_pos h] at this; exact this
theorem ord_gt {x y : Nat} (hx : Fin x) (hy : Fin y) (h : fv y < fv x) : FloatKind.f64.format.order x y = some Ordering.gt := by
  have := order_val hx hy
  rw [if_neg (by grind), if_neg (by grind)] at this; exact this
theorem tri (a b : Rat) : a < b ∨ a = b ∨ b < a := by grind

theorem onGrid_out (v lo hi : Nat) (w : World) (o1 o2 : Option Ordering) (h1 : FloatKind.f64.format.order v lo = o1) (h2 : FloatKind.f64.format.order v hi = o2)
    (h : ¬ ((o1 = some .gt ∨ o1 = some .eq) ∧ (o2 = some .lt ∨ o2 = some .eq))) :
    Calls Try.prog 9 #[.float .f64 v, .float .f64 lo, .float .f64 hi] w fun e w' => e = .returned (.bool false) ∧ w' = w := by
  have hb : ((o1 == some .gt || o1 == some .eq) && (o2 == some .lt || o2 == some .eq)) = false := by
    rcases o1 with _ | o1 <;> rcases o2 with _ | o2 <;> (try cases o1) <;> (try cases o2) <;> first | rfl | exact absurd (by simp) h
  rcases o1 with _ | _ | _ | _
  · go_enter Try.func9, Try.ntmps9
    go_wp2
    go_ret
    exact ⟨rfl, rfl⟩
  · go_enter Try.func9, Try.ntmps9
    go_wp2
    go_ret
    exact ⟨rfl, rfl⟩
  · rcases o2 with _ | _ | _ | _
    · go_enter Try.func9, Try.ntmps9
      go_wp2
      go_ret
      exact ⟨rfl, rfl⟩
    · cases hb
    · cases hb
    · go_enter Try.func9, Try.ntmps9
      go_wp2
      go_ret
      exact ⟨rfl, rfl⟩
  · rcases o2 with _ | _ | _ | _
    · go_enter Try.func9, Try.ntmps9
      go_wp2
      go_ret
      exact ⟨rfl, rfl⟩
    · cases hb
    · cases hb
    · go_enter Try.func9, Try.ntmps9
      go_wp2
      go_ret
      exact ⟨rfl, rfl⟩

theorem onGrid_in (v lo hi : Nat) (w : World) (k : Int) (o1 o2 o3 : Ordering) (h1 : FloatKind.f64.format.order v lo = some o1) (h2 : FloatKind.f64.format.order v hi = some o2)
    (g1 : o1 ≠ .lt) (g2 : o2 ≠ .gt) (hk : floatToIntVal .f64 v .i64 = some k) (h3 : FloatKind.f64.format.order (floatOfInt .f64 k) v = some o3) :
    Calls Try.prog 9 #[.float .f64 v, .float .f64 lo, .float .f64 hi] w fun e w' => e = .returned (.bool (decide (o3 = .eq))) ∧ w' = w := by
  have hc := run_toInt v k hk
  cases o1 with
  | lt => exact absurd rfl g1
  | eq =>
    cases o2 with
    | gt => exact absurd rfl g2
    | eq => cases o3 <;> (go_enter Try.func9, Try.ntmps9; go_wp2_with (simp only [hc]); go_ret; exact ⟨rfl, rfl⟩)
    | lt => cases o3 <;> (go_enter Try.func9, Try.ntmps9; go_wp2_with (simp only [hc]); go_ret; exact ⟨rfl, rfl⟩)
  | gt =>
    cases o2 with
    | gt => exact absurd rfl g2
    | eq => cases o3 <;> (go_enter Try.func9, Try.ntmps9; go_wp2_with (simp only [hc]); go_ret; exact ⟨rfl, rfl⟩)
    | lt => cases o3 <;> (go_enter Try.func9, Try.ntmps9; go_wp2_with (simp only [hc]); go_ret; exact ⟨rfl, rfl⟩)

/-- what 'onGrid' answers -/
theorem onGrid_ok (v lo hi : Nat) (w : World) (flo : Fin lo) (fh : Fin hi) (bl : ab (fv lo) ≤ 2000) (bh : ab (fv hi) ≤ 2000) :
    Calls Try.prog 9 #[.float .f64 v, .float .f64 lo, .float .f64 hi] w fun e w' => ∃ b, e = .returned (.bool b) ∧ w' = w ∧ (b = true → Fin v ∧ IsInt (fv v) ∧ fv lo ≤ fv v ∧ fv v ≤ fv hi) := by
  by_cases hg : (FloatKind.f64.format.order v lo = some .gt ∨ FloatKind.f64.format.order v lo = some .eq) ∧ (FloatKind.f64.format.order v hi = some .lt ∨ FloatKind.f64.format.order v hi = some .eq)
  · have fv_ : Fin v := by
      by_cases hf : Fin v
      · exact hf
      · exact absurd hg (order_notFin hf flo fh)
    have l1 : fv lo ≤ fv v := by
      rcases tri (fv v) (fv lo) with h | h | h
      · rw [ord_lt fv_ flo h] at hg; simp at hg
      · grind
      · grind
    have l2 : fv v ≤ fv hi := by
      rcases tri (fv v) (fv hi) with h | h | h
      · grind
      · grind
      · rw [ord_gt fv_ fh h] at hg; simp at hg
    have hv : ab (fv v) ≤ 2000 := ab_le_of (by have := ab_le (fv hi); grind) (by have := ab_neg_le (fv lo); grind)
    have e2000 : ((2000 : Nat) : Rat) = 2000 := by decide
    obtain ⟨k, hk, bk, hj⟩ := toInt_ok fv_ 2000 (by omega) (by rw [e2000]; exact hv)
    obtain ⟨fk, ek⟩ := ofInt_exact k (by omega)
    obtain ⟨o1, h1, g1⟩ : ∃ o, FloatKind.f64.format.order v lo = some o ∧ o ≠ .lt := by
      rcases hg.1 with h | h
      · exact ⟨_, h, by decide⟩
      · exact ⟨_, h, by decide⟩
    obtain ⟨o2, h2, g2⟩ : ∃ o, FloatKind.f64.format.order v hi = some o ∧ o ≠ .gt := by
      rcases hg.2 with h | h
      · exact ⟨_, h, by decide⟩
      · exact ⟨_, h, by decide⟩
    obtain ⟨o3, h3, g3⟩ : ∃ o, FloatKind.f64.format.order (floatOfInt .f64 k) v = some o ∧ (o = .eq → fv v = (k : Rat)) := by
      rcases tri (fv (floatOfInt .f64 k)) (fv v) with h | h | h
      · exact ⟨_, ord_lt fk fv_ h, fun h => by cases h⟩
      · exact ⟨_, ord_eq fk fv_ h, fun _ => by rw [← h, ek]⟩
      · exact ⟨_, ord_gt fk fv_ h, fun h => by cases h⟩
    refine (onGrid_in v lo hi w k o1 o2 o3 h1 h2 g1 g2 hk h3).mono fun e w' ⟨he, hw⟩ => ⟨_, he, hw, fun hb => ⟨fv_, ?_, l1, l2⟩⟩
    exact ⟨k, g3 (of_decide_eq_true hb)⟩
  · exact (onGrid_out v lo hi w _ _ rfl rfl hg).mono fun e w' ⟨he, hw⟩ => ⟨_, he, hw, fun h => by cases h⟩
end Go.Proofs.Qxb6605538a.fl
