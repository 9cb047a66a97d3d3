/-
  'cloneFloats', 'zzPoints': the walks.
-/
import Derived.Test.Qxb6605538aWc
namespace Go.Proofs.Qxb6605538a.fl
open Go.ChangeShapes Go.WideShapes Go.RowKit
attribute [local go_sem] run_store_float

theorem info24 : (Try.prog.info? 24).map (fun i => (i.zero, i.size, i.bytes)) = some (some (.float .f64 0), 1, 8) := by kernel_rfl
/-- a slice of floats, in blocks below B -/
def FSrc (B : Nat) (w : World) (v : Value) (xs : List Nat) : Prop :=
  ∃ ad cap, v = .slice ad xs.length cap ∧ (ad = none → cap = 0 ∧ xs = []) ∧ (xs ≠ [] → ∃ b o, ad = some ⟨b, o, none⟩ ∧ b < B ∧ ∀ i (h : i < xs.length), w.cell? ⟨b, o + i, none⟩ = some (.float .f64 xs[i]))
def isNil (v : Value) : Bool := match v with
  | .slice none _ _ => true
  | _ => false
theorem FSrc.at {B : Nat} {w wr : World} {ad : Option Addr} {len cap : Nat} {xs : List Nat} (h : FSrc B w (.slice ad len cap) xs) (hb : Below B w wr) {k : Nat} (hk : k < xs.length) :
    ∃ b o, ad = some ⟨b, o, none⟩ ∧ b < B ∧ wr.cell? ⟨b, o + k, none⟩ = some (.float .f64 xs[k]) := by
  obtain ⟨ad', cap', e1, _, hc⟩ := h
  obtain ⟨b, o, rfl, hbw, hcell⟩ := hc (by intro e; rw [e] at hk; simp at hk)
  cases e1
  exact ⟨b, o, rfl, hbw, by rw [hb.cell (p := ⟨b, o + k, none⟩) hbw]; exact hcell k hk⟩
theorem FSrc.below {B B' : Nat} {w w' : World} {v : Value} {xs : List Nat} (h : FSrc B w v xs) (hb : Below B w w') (hB : B ≤ B') : FSrc B' w' v xs := by
  obtain ⟨ad, cap, e, hn, hc⟩ := h
  refine ⟨ad, cap, e, hn, fun hne => ?_⟩
  obtain ⟨b, o, e1, hbw, hcell⟩ := hc hne
  exact ⟨b, o, e1, by omega, fun i hi => by rw [hb.cell (p := ⟨b, o + i, none⟩) hbw]; exact hcell i hi⟩
theorem FSrc.len {B : Nat} {w : World} {ad : Option Addr} {len cap : Nat} {xs : List Nat} (h : FSrc B w (.slice ad len cap) xs) : len = xs.length := by
  obtain ⟨ad', cap', e1, _⟩ := h
  cases e1; rfl

def fcells (xs : List Nat) : List Value := xs.map fun b => Value.float .f64 b
def fpart (xs : List Nat) (k : Nat) : List Value := fcells (xs.take k) ++ List.replicate (xs.length - k) (Value.float .f64 0)
theorem fpart_zero (l : List Nat) : fpart l 0 = List.replicate l.length (Value.float .f64 0) := by simp [fpart, fcells]
theorem fpart_full (l : List Nat) : fpart l l.length = fcells l := by simp [fpart]
theorem fpart_set (l : List Nat) (k : Nat) (hk : k < l.length) : (fpart l k).set k (Value.float .f64 l[k]) = fpart l (k + 1) := by
  unfold fpart
  have h1 : (fcells (l.take k)).length = k := by simp [fcells]; omega
  rw [List.set_append_right _ _ (by omega), h1, Nat.sub_self, List.take_succ_eq_append_getElem hk]
  have h2 : fcells (l.take k ++ [l[k]]) = fcells (l.take k) ++ [Value.float .f64 l[k]] := by unfold fcells; rw [List.map_append]; rfl
  rw [h2, List.append_assoc]
  congr 1
  rw [show l.length - k = (l.length - (k + 1)) + 1 by omega, List.replicate_succ, List.set_cons_zero]
  rfl
theorem fsrc_of_owns {w : World} {g cap : Nat} {xs : List Nat} (h : w.ownsRow g 24 1 (.slice (some ⟨g, 0, none⟩) xs.length cap) xs.length (fcells xs)) (hg : g < w.heap.size) : FSrc w.heap.size w (.slice (some ⟨g, 0, none⟩) xs.length cap) xs := by
  refine ⟨_, _, rfl, (fun e => by cases e), fun _ => ⟨g, 0, rfl, hg, fun i hi => ?_⟩⟩
  have := h.cellAt i (by omega)
  rw [Nat.zero_add, this]
  simp [fcells, hi]

theorem clone_nil (w : World) : Calls Try.prog 10 #[.slice none 0 0] w fun e w' => e = .returned (.slice none 0 0) ∧ w' = w := by
  have hn := Lib.run_eql_slice_nil (P := Try.prog) w 22 24 none 0 0 0 0 Try.underlying22
  go_enter Try.func10, Try.ntmps10
  go_wp2
  go_ret
  exact ⟨rfl, rfl⟩

set_option maxHeartbeats 1000000 in
theorem clone_some (ad : Addr) (c : Nat) (l : List Nat) (w : World) (hlen : l.length ≤ 4096) (hs : FSrc w.heap.size w (.slice (some ad) l.length c) l) :
    Calls Try.prog 10 #[.slice (some ad) l.length c] w fun e w' => e = .returned (.slice (some ⟨w.heap.size, 0, none⟩) l.length l.length) ∧
      FSrc w'.heap.size w' (.slice (some ⟨w.heap.size, 0, none⟩) l.length l.length) l ∧ Below w.heap.size w w' := by
  obtain ⟨i0, hi, hz0, hz1, hz2⟩ := info_parts info24
  have hn := Lib.run_eql_slice_nil (P := Try.prog) w 22 24 (some ad) l.length c 0 0 Try.underlying22
  have HS := Lib.hid hs
  clear hs
  go_enter Try.func10, Try.ntmps10
  go_wp2_with (at_make; refine wpList_make_full _ rfl _ _ 22 rfl w.heap.size 24 i0 (.float .f64 0) 1 Try.underlying22 hi hz0 hz1 .i64 .i64 l.length l.length l.length rfl rfl rfl rfl (by rw [hz2]; omega) (by unfold maxLen; omega) (Nat.le_refl _) ?_; intro w1 hown1 hg1)
  have R0 : w1.ownsRow w.heap.size 24 1 (.slice (some ⟨w.heap.size, 0, none⟩) l.length l.length) l.length (fpart l 0) := by
    rw [fpart_zero]
    have e : (madeCells (Value.float .f64 0).cells (l.length * 1)).toList = List.replicate l.length (Value.float .f64 0) := by
      rw [Nat.mul_one]; exact toList_madeCells_one _ _
    rw [e] at hown1
    exact hown1
  have hb1 : Below w.heap.size w w1 := (Below.refl _ _).grown hg1 (Nat.le_refl _) (by simp)
  clear hown1 hg1 hn
  go_loopw [4] (fun i W => ∃ k : Nat, k ≤ l.length ∧ i = .int .i64 k ∧ W.ownsRow w.heap.size 24 1 (.slice (some ⟨w.heap.size, 0, none⟩) l.length l.length) l.length (fpart l k) ∧ Below w.heap.size w W) (fun i _ => l.length - (intOf i).toNat)
  case atStart => exact ⟨0, by omega, rfl, R0, hb1⟩
  case round =>
    obtain ⟨k, hk, rfl, hown, hb⟩ := hrel
    by_cases hlt : k < l.length
    · obtain ⟨b, o, eb, _, hc⟩ := HS.out.at hb hlt
      cases eb
      obtain ⟨x, hx⟩ : ∃ x, x = l[k] := ⟨_, rfl⟩
      obtain ⟨u0, hu0⟩ : ∃ u0, wr.cell? ⟨w.heap.size, k, none⟩ = some u0 := by
        rw [hown.cellAt k (by omega)]
        have : k < (fpart l k).length := by rw [hown.1]; omega
        exact ⟨_, List.getElem?_eq_getElem this⟩
      have hfz : wr.frozen? ⟨w.heap.size, k, none⟩ = false := hown.frozenAt k
      have hst := hown.stored k (Value.float .f64 l[k])
      rw [fpart_set l k hlt] at hst
      have R := hst.1
      have hb' : Below w.heap.size w (wr.setCell ⟨w.heap.size, k, none⟩ (Value.float .f64 l[k])) := hb.setCell (by simp) _
      rw [← hx] at hc R hb'
      have HR := Lib.hid R
      have HB := Lib.hid hb'
      clear hst hown R hb hb' HS hx
      go_wp2
      go_roundw
      case rel => exact ⟨k + 1, by omega, by go_num, HR.out, HB.out⟩
      case measure => simp [intOf]; omega
    · have hek : k = l.length := by omega
      subst hek
      rw [fpart_full] at hown
      have hF := fsrc_of_owns hown (by have := (hown.lt w.heap.size rfl).2; exact this)
      go_wp2
      go_ret
      exact ⟨rfl, hF, hb⟩

theorem clone_ok (ad : Option Addr) (c : Nat) (l : List Nat) (w : World) (hlen : l.length ≤ 4096) (hs : FSrc w.heap.size w (.slice ad l.length c) l) :
    Calls Try.prog 10 #[.slice ad l.length c] w fun e w' => ∃ ad' c', e = .returned (.slice ad' l.length c') ∧ FSrc w'.heap.size w' (.slice ad' l.length c') l ∧ (ad' = none ↔ ad = none) ∧ Below w.heap.size w w' := by
  cases ad with
  | none =>
    obtain ⟨ad', cap', e1, hn, _⟩ := hs
    cases e1
    obtain ⟨rfl, rfl⟩ := hn rfl
    refine (clone_nil w).mono fun e w' ⟨he, hw⟩ => ⟨none, 0, he, ?_, Iff.rfl, by rw [hw]; exact Below.refl _ _⟩
    exact ⟨none, 0, rfl, fun _ => ⟨rfl, rfl⟩, fun h => absurd rfl h⟩
  | some a => exact (clone_some a c l w hlen hs).mono fun e w' ⟨he, h1, h2⟩ => ⟨_, _, he, h1, by simp, h2⟩
end Go.Proofs.Qxb6605538a.fl
