/-
  Weighted lines through points of whole places: what the mean, the products and the squares are worth. No Go, no rounding.
-/
import Derived.Test.Qxb6605538aEs
namespace Go.Proofs.Qxb6605538a.fl

theorem tot (a b : Rat) : a ≤ b ∨ b ≤ a := Rat.le_total
/-! ### Whole numbers -/
def IsInt (q : Rat) : Prop := ∃ z : Int, q = (z : Rat)
theorem IsInt.of (z : Int) : IsInt (z : Rat) := ⟨z, rfl⟩
theorem IsInt.add {a b : Rat} (ha : IsInt a) (hb : IsInt b) : IsInt (a + b) := by
  obtain ⟨x, rfl⟩ := ha; obtain ⟨y, rfl⟩ := hb; exact ⟨x + y, (Rat.intCast_add x y).symm⟩
theorem IsInt.mul {a b : Rat} (ha : IsInt a) (hb : IsInt b) : IsInt (a * b) := by
  obtain ⟨x, rfl⟩ := ha; obtain ⟨y, rfl⟩ := hb; exact ⟨x * y, (Rat.intCast_mul x y).symm⟩
theorem IsInt.sub {a b : Rat} (ha : IsInt a) (hb : IsInt b) : IsInt (a - b) := by
  obtain ⟨x, rfl⟩ := ha; obtain ⟨y, rfl⟩ := hb; exact ⟨x - y, (Rat.intCast_sub x y).symm⟩
theorem IsInt.one : IsInt 1 := ⟨1, rfl⟩
theorem IsInt.zero : IsInt 0 := ⟨0, rfl⟩
theorem IsInt.ge_one {a : Rat} (ha : IsInt a) (h : 0 < a) : 1 ≤ a := by
  obtain ⟨x, rfl⟩ := ha
  have h1 : (0 : Int) < x := Rat.intCast_lt_intCast.1 h
  have h2 : (1 : Int) ≤ x := by omega
  have h3 := Rat.intCast_le_intCast.2 h2
  exact h3
theorem IsInt.sum {α : Type} {f : α → Rat} {l : List α} (h : ∀ a, a ∈ l → IsInt (f a)) : IsInt (Sm f l) := by
  induction l with
  | nil => exact IsInt.zero
  | cons x l ih => rw [Sm_cons]; exact (h x (by simp)).add (ih fun a ha => h a (by simp [ha]))

theorem sq_nonneg (a : Rat) : 0 ≤ a * a := by
  rcases tot 0 a with h | h
  · exact Rat.mul_nonneg h h
  · have : 0 ≤ (-a) * (-a) := Rat.mul_nonneg (by grind) (by grind)
    grind
theorem le_of_mul {a b c : Rat} (hc : 0 < c) (h : a * c ≤ b * c) : a ≤ b := by
  rcases tot a b with h1 | h1
  · exact h1
  · by_cases h2 : a = b
    · grind
    · have := Rat.mul_lt_mul_of_pos_right (show b < a by grind) hc
      grind

section line
variable {α : Type}
def s0 (w : α → Rat) (l : List α) : Rat := Sm w l
def s1 (w x : α → Rat) (l : List α) : Rat := Sm (fun a => w a * x a) l
def s2 (w x y : α → Rat) (l : List α) : Rat := Sm (fun a => w a * x a * y a) l
def mean (w x : α → Rat) (l : List α) : Rat := s1 w x l / s0 w l
def Pl (w x y : α → Rat) (l : List α) : Rat := s2 w x y l - s1 w x l * s1 w y l / s0 w l

theorem all_zero {f : α → Rat} {l : List α} (h : ∀ a, a ∈ l → 0 ≤ f a) (hz : Sm f l ≤ 0) : ∀ a, a ∈ l → f a = 0 := by
  induction l with
  | nil => intro a ha; cases ha
  | cons x l ih =>
    rw [Sm_cons] at hz
    have h1 := h x (by simp)
    have h2 := Sm_nonneg (f := f) (l := l) (fun a ha => h a (by simp [ha]))
    intro a ha
    rcases List.mem_cons.1 ha with e | e
    · rw [e]; grind
    · exact ih (fun a ha => h a (by simp [ha])) (by grind) a e
theorem zero_all {f : α → Rat} {l : List α} (h : ∀ a, a ∈ l → f a = 0) : Sm f l = 0 := by
  rw [Sm_congr (g := fun _ => 0) h, Sm_zero]

theorem s0_nonneg {w : α → Rat} {l : List α} (hw : ∀ a, a ∈ l → 0 ≤ w a) : 0 ≤ s0 w l := Sm_nonneg hw
theorem s0_zero {w : α → Rat} {l : List α} (hw : ∀ a, a ∈ l → 0 ≤ w a) (h : s0 w l = 0) : ∀ a, a ∈ l → w a = 0 :=
  all_zero hw (by unfold s0 at h; grind)

/-- the mean's weight times the mean: the sum of the weighted places, weights or none -/
theorem mean_mul {w x : α → Rat} {l : List α} (hw : ∀ a, a ∈ l → 0 ≤ w a) : s0 w l * mean w x l = s1 w x l := by
  by_cases h : s0 w l = 0
  · have hz := s0_zero hw h
    have : s1 w x l = 0 := zero_all fun a ha => by rw [hz a ha]; grind
    rw [h, this]; grind
  · unfold mean
    have := Rat.div_mul_cancel (a := s1 w x l) h
    grind
theorem Pl_eq {w x y : α → Rat} {l : List α} : Pl w x y l = s2 w x y l - s1 w x l * mean w y l := by
  unfold Pl mean
  rw [Rat.div_def, Rat.div_def]
  grind
theorem sum_dev (w x : α → Rat) (l : List α) (X : Rat) : Sm (fun a => w a * (x a - X)) l = s1 w x l - X * s0 w l := by
  unfold s1 s0
  rw [← Sm_mul]
  induction l with
  | nil => rw [Sm_nil, Sm_nil, Sm_nil]; grind
  | cons a l ih => rw [Sm_cons, Sm_cons, Sm_cons, ih]; grind
theorem sum_prod (w x y : α → Rat) (l : List α) (X Y : Rat) :
    Sm (fun a => w a * (x a - X) * (y a - Y)) l = s2 w x y l - X * s1 w y l - Y * s1 w x l + X * Y * s0 w l := by
  unfold s2 s1 s0
  induction l with
  | nil => rw [Sm_nil, Sm_nil, Sm_nil, Sm_nil, Sm_nil]; grind
  | cons a l ih => rw [Sm_cons, Sm_cons, Sm_cons, Sm_cons, Sm_cons, ih]; grind
theorem sum_at {w x y : α → Rat} {l : List α} (hw : ∀ a, a ∈ l → 0 ≤ w a) (X Y : Rat) :
    Sm (fun a => w a * (x a - X) * (y a - Y)) l = Pl w x y l + s0 w l * (mean w x l - X) * (mean w y l - Y) := by
  rw [sum_prod, Pl_eq]
  have h1 := mean_mul (x := x) hw
  have h2 := mean_mul (x := y) hw
  rw [← h1, ← h2]
  grind
theorem Pl_self {w x y : α → Rat} {l : List α} (hw : ∀ a, a ∈ l → 0 ≤ w a) :
    Pl w x y l = Sm (fun a => w a * (x a - mean w x l) * (y a - mean w y l)) l := by
  rw [sum_at hw]; grind
theorem Pl_nonneg {w x : α → Rat} {l : List α} (hw : ∀ a, a ∈ l → 0 ≤ w a) : 0 ≤ Pl w x x l := by
  rw [Pl_self hw]
  refine Sm_nonneg fun a ha => ?_
  have h1 := hw a ha
  have h2 := Rat.mul_nonneg h1 (sq_nonneg (x a - mean w x l))
  grind
theorem dev_zero {w x : α → Rat} {l : List α} (hw : ∀ a, a ∈ l → 0 ≤ w a) : Sm (fun a => w a * (x a - mean w x l)) l = 0 := by
  rw [sum_dev, ← mean_mul hw]; grind

theorem ab_s1 {w x : α → Rat} {l : List α} {B : Rat} (hw : ∀ a, a ∈ l → 0 ≤ w a) (hx : ∀ a, a ∈ l → ab (x a) ≤ B) : ab (s1 w x l) ≤ s0 w l * B := by
  unfold s1 s0
  have h1 := ab_Sm (fun a => w a * x a) l
  have h2 : Sm (fun a => ab (w a * x a)) l ≤ Sm (fun a => B * w a) l := Sm_le fun a ha => by
    rw [ab_mul, ab_of_nonneg (hw a ha)]
    have := Rat.mul_le_mul_of_nonneg_left (hx a ha) (hw a ha)
    grind
  rw [Sm_mul] at h2
  grind
theorem mean_bound {w x : α → Rat} {l : List α} {B : Rat} (hw : ∀ a, a ∈ l → 0 ≤ w a) (hx : ∀ a, a ∈ l → ab (x a) ≤ B) (hB : 0 ≤ B) : ab (mean w x l) ≤ B := by
  have h1 := ab_s1 hw hx
  have h2 := mean_mul (x := x) hw
  have h0 := s0_nonneg hw
  by_cases h : s0 w l = 0
  · unfold mean; rw [h]
    have : s1 w x l / 0 = 0 := by rw [Rat.div_def]; grind
    rw [this]
    have : ab 0 = 0 := by decide +kernel
    grind
  · have hp : 0 < s0 w l := by grind
    rw [← h2, ab_mul, ab_of_nonneg h0] at h1
    exact le_of_mul hp (by grind)

/-- a whole place's distance from the mean -/
theorem point_ineq {u f : Rat} (hu : IsInt u) (h0 : 0 ≤ f) (h1 : f < 1) : ab (u - f) ≤ 2 * ((u - f) * (u - f)) + (2 * f - 1) * (u - f) := by
  rcases tot 0 (u - f) with h | h
  · rw [ab_of_nonneg h]
    by_cases hu0 : u = 0
    · have : u - f = 0 := by grind
      rw [this]; grind
    · have h2 := hu.ge_one (by grind)
      have h3 := Rat.mul_nonneg h (show 0 ≤ u - 1 by grind)
      grind
  · have e : ab (u - f) = f - u := by
      have := ab_of_nonneg (z := f - u) (by grind)
      have h4 := ab_neg (u - f)
      have h5 : -(u - f) = f - u := by grind
      rw [h5] at h4
      grind
    rw [e]
    have h2 : u ≤ 0 := by
      rcases tot u 0 with h6 | h6
      · exact h6
      · by_cases h7 : u = 0
        · grind
        · have := hu.ge_one (by grind)
          grind
    have h3 := Rat.mul_nonneg (show 0 ≤ f - u by grind) (show 0 ≤ -u by grind)
    grind

theorem floor_facts (q : Rat) : ∃ k : Int, (k : Rat) ≤ q ∧ q < (k : Rat) + 1 := by
  refine ⟨q.floor, Rat.floor_le q, ?_⟩
  have := Rat.lt_floor_add_one q
  rw [Rat.intCast_add] at this
  exact this

/-- the sum of the distances is at most twice the sum of their squares -/
theorem dev_le {w x : α → Rat} {l : List α} (hw : ∀ a, a ∈ l → 0 ≤ w a) (hx : ∀ a, a ∈ l → IsInt (x a)) :
    Sm (fun a => w a * ab (x a - mean w x l)) l ≤ 2 * Pl w x x l := by
  obtain ⟨k, hk1, hk2⟩ := floor_facts (mean w x l)
  have h1 : Sm (fun a => w a * ab (x a - mean w x l)) l ≤
      Sm (fun a => 2 * (w a * (x a - mean w x l) * (x a - mean w x l)) + (2 * (mean w x l - k) - 1) * (w a * (x a - mean w x l))) l := Sm_le fun a ha => by
    have h2 := point_ineq (u := x a - k) (f := mean w x l - k) ((hx a ha).sub (IsInt.of k)) (by grind) (by grind)
    have e : x a - (k : Rat) - (mean w x l - k) = x a - mean w x l := by grind
    rw [e] at h2
    have h3 := Rat.mul_le_mul_of_nonneg_left h2 (hw a ha)
    grind
  rw [Sm_add, Sm_mul, Sm_mul, dev_zero hw, ← Pl_self hw] at h1
  grind

/-- the squares are nothing, or half a unit at least -/
theorem spread_half {w x : α → Rat} {l : List α} (hw : ∀ a, a ∈ l → 0 ≤ w a) (hwi : ∀ a, a ∈ l → IsInt (w a)) (hx : ∀ a, a ∈ l → IsInt (x a)) :
    Pl w x x l = 0 ∨ 1 / 2 ≤ Pl w x x l := by
  have h0 := s0_nonneg hw
  by_cases hz : s0 w l = 0
  · left
    have hz' := s0_zero hw hz
    rw [Pl_self hw]
    exact zero_all fun a ha => by rw [hz' a ha]; grind
  obtain ⟨k, hk1, hk2⟩ := floor_facts (mean w x l)
  have hm := mean_mul (x := x) hw
  have hpos : 0 < s0 w l := by grind
  have hwI : IsInt (s0 w l) := IsInt.sum hwi
  have hUI : IsInt (s1 w x l - k * s0 w l) := (IsInt.sum fun a ha => (hwi a ha).mul (hx a ha)).sub ((IsInt.of k).mul hwI)
  -- the whole part
  have hN : 0 ≤ Sm (fun a => w a * (x a - k) * (x a - (k + 1))) l := Sm_nonneg fun a ha => by
    have hi : IsInt (x a - k) := (hx a ha).sub (IsInt.of k)
    have hsq : 0 ≤ (x a - k) * (x a - (k + 1)) := by
      rcases tot (x a - k) 0 with h6 | h6
      · have := Rat.mul_nonneg (show 0 ≤ -(x a - k) by grind) (show 0 ≤ -(x a - (k + 1)) by grind)
        grind
      · by_cases h7 : x a - k = 0
        · rw [h7]; grind
        · have := hi.ge_one (by grind)
          exact Rat.mul_nonneg (by grind) (by grind)
    have := Rat.mul_nonneg (hw a ha) hsq
    grind
  have hNI : IsInt (Sm (fun a => w a * (x a - k) * (x a - (k + 1))) l) := IsInt.sum fun a ha =>
    ((hwi a ha).mul ((hx a ha).sub (IsInt.of k))).mul ((hx a ha).sub ((IsInt.of k).add IsInt.one))
  have hS := sum_at (x := x) (y := x) hw k (k + 1)
  generalize hNn : Sm (fun a => w a * (x a - k) * (x a - (k + 1))) l = N at *
  have hU1 : s1 w x l - k * s0 w l = s0 w l * (mean w x l - k) := by rw [← hm]; grind
  rw [hU1] at hUI
  by_cases hU : s0 w l * (mean w x l - k) = 0
  · have hf : mean w x l - k = 0 := by
      rcases Rat.mul_eq_zero.1 hU with h | h
      · exact absurd h hz
      · exact h
    rw [hf] at hS
    have : Pl w x x l = N := by grind
    rw [this]
    by_cases hN0 : N = 0
    · exact .inl hN0
    · right
      have := hNI.ge_one (by grind)
      grind
  · right
    have hf0 : 0 ≤ mean w x l - k := by grind
    have h1 : 1 ≤ s0 w l * (mean w x l - k) := hUI.ge_one (by
      have := Rat.mul_nonneg h0 hf0
      grind)
    have hV : 0 < s0 w l * (1 - (mean w x l - k)) := Rat.mul_pos hpos (by grind)
    have hVI : IsInt (s0 w l * (1 - (mean w x l - k))) := by
      have e : s0 w l * (1 - (mean w x l - k)) = s0 w l - s0 w l * (mean w x l - k) := by grind
      rw [e]; exact hwI.sub hUI
    have h2 := hVI.ge_one hV
    have h3 := Rat.mul_nonneg (show 0 ≤ s0 w l * (mean w x l - k) - 1 by grind) (show 0 ≤ s0 w l * (1 - (mean w x l - k)) - 1 by grind)
    generalize mean w x l - k = f at *
    have e : Pl w x x l = N + s0 w l * f * (1 - f) := by
      grind
    rw [e]
    have h4 : 1 / 2 * s0 w l ≤ (s0 w l * f * (1 - f)) * s0 w l := by grind
    have := le_of_mul hpos h4
    grind

/-- the products, against the squares -/
theorem prod_le {w x y : α → Rat} {l : List α} (hw : ∀ a, a ∈ l → 0 ≤ w a) (hx : ∀ a, a ∈ l → IsInt (x a)) (hy : ∀ a, a ∈ l → ab (y a) ≤ 1024) :
    ab (Pl w x y l) ≤ 4096 * Pl w x x l := by
  have hb := mean_bound hw hy (by decide)
  rw [Pl_self hw]
  have h1 := ab_Sm (fun a => w a * (x a - mean w x l) * (y a - mean w y l)) l
  have h2 : Sm (fun a => ab (w a * (x a - mean w x l) * (y a - mean w y l))) l ≤ Sm (fun a => 2048 * (w a * ab (x a - mean w x l))) l := Sm_le fun a ha => by
    rw [ab_mul, ab_mul, ab_of_nonneg (hw a ha)]
    have h3 := ab_sub (y a) (mean w y l)
    have h4 := hy a ha
    have h5 := Rat.mul_nonneg (hw a ha) (ab_nonneg (x a - mean w x l))
    have h6 := Rat.mul_le_mul_of_nonneg_left (show ab (y a - mean w y l) ≤ 2048 by grind) h5
    grind
  rw [Sm_mul] at h2
  have h3 := dev_le hw hx
  grind
end line
end Go.Proofs.Qxb6605538a.fl
