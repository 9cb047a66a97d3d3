/-
  The units as data; how they lie in memory that came in; the counting of bytes.
-/
import Derived.Test.Qxb6600552aBa
namespace Go.Proofs.Qxb6600552a.kt
open Go.ChangeShapes Go.WideShapes Go.RowKit Go.Maps

/-- a unit -/
structure U where
  id : ByteArray
  place : ByteArray
  reads : List (ByteArray × ByteArray)
  writes : List ByteArray

/-- a slice of strings, in blocks below B -/
def SSrc (B : Nat) (w : World) (v : Value) (xs : List ByteArray) : Prop :=
  ∃ ad cap, v = .slice ad xs.length cap ∧ (ad = none → cap = 0 ∧ xs = []) ∧ (xs ≠ [] → ∃ b o, ad = some ⟨b, o, none⟩ ∧ b < B ∧ ∀ i (h : i < xs.length), w.cell? ⟨b, o + i, none⟩ = some (.string xs[i]))
/-- a slice of reads -/
def RSrc (B : Nat) (w : World) (v : Value) (xs : List (ByteArray × ByteArray)) : Prop :=
  ∃ ad cap, v = .slice ad xs.length cap ∧ (ad = none → cap = 0 ∧ xs = []) ∧ (xs ≠ [] → ∃ b o, ad = some ⟨b, o, none⟩ ∧ b < B ∧
    ∀ i (h : i < xs.length), w.cell? ⟨b, o + i * 2, none⟩ = some (.string (xs[i]).1) ∧ w.cell? ⟨b, o + i * 2 + 1, none⟩ = some (.string (xs[i]).2))
/-- the cells of a unit, its slices at hand -/
def UAt (B : Nat) (w : World) (u : U) (rv wv : Value) : Prop :=
  (∃ ra rc, rv = .slice ra u.reads.length rc) ∧ (∃ wa wc, wv = .slice wa u.writes.length wc) ∧ RSrc B w rv u.reads ∧ SSrc B w wv u.writes
/-- a slice of units -/
def USrc (B : Nat) (w : World) (v : Value) (us : List U) : Prop :=
  ∃ ad cap, v = .slice ad us.length cap ∧ (ad = none → cap = 0 ∧ us = []) ∧ (us ≠ [] → ∃ b o, ad = some ⟨b, o, none⟩ ∧ b < B ∧
    ∀ i (h : i < us.length), ∃ ra rc wa wc, w.cell? ⟨b, o + i * 4, none⟩ = some (.string (us[i]).id) ∧ w.cell? ⟨b, o + i * 4 + 1, none⟩ = some (.string (us[i]).place) ∧
      w.cell? ⟨b, o + i * 4 + 2, none⟩ = some (.slice ra (us[i]).reads.length rc) ∧ w.cell? ⟨b, o + i * 4 + 3, none⟩ = some (.slice wa (us[i]).writes.length wc) ∧
      RSrc B w (.slice ra (us[i]).reads.length rc) (us[i]).reads ∧ SSrc B w (.slice wa (us[i]).writes.length wc) (us[i]).writes)

theorem SSrc.at {B : Nat} {w wr : World} {ad : Option Addr} {len cap : Nat} {xs : List ByteArray} (h : SSrc B w (.slice ad len cap) xs) (hb : Below B w wr) {k : Nat} (hk : k < xs.length) :
    ∃ b o, ad = some ⟨b, o, none⟩ ∧ b < B ∧ wr.cell? ⟨b, o + k, none⟩ = some (.string xs[k]) := by
  obtain ⟨ad', cap', e1, _, hc⟩ := h
  obtain ⟨b, o, rfl, hbw, hcell⟩ := hc (by intro e; rw [e] at hk; simp at hk)
  cases e1
  exact ⟨b, o, rfl, hbw, by rw [hb.cell (p := ⟨b, o + k, none⟩) hbw]; exact hcell k hk⟩
theorem SSrc.below {B B' : Nat} {w w' : World} {v : Value} {xs : List ByteArray} (h : SSrc B w v xs) (hb : Below B w w') (hB : B ≤ B') : SSrc B' w' v xs := by
  obtain ⟨ad, cap, e, hn, hc⟩ := h
  refine ⟨ad, cap, e, hn, fun hne => ?_⟩
  obtain ⟨b, o, e1, hbw, hcell⟩ := hc hne
  exact ⟨b, o, e1, by omega, fun i hi => by rw [hb.cell (p := ⟨b, o + i, none⟩) hbw]; exact hcell i hi⟩
theorem RSrc.at {B : Nat} {w wr : World} {ad : Option Addr} {len cap : Nat} {xs : List (ByteArray × ByteArray)} (h : RSrc B w (.slice ad len cap) xs) (hb : Below B w wr) {k : Nat} (hk : k < xs.length) :
    ∃ b o, ad = some ⟨b, o, none⟩ ∧ b < B ∧ wr.cell? ⟨b, o + k * 2, none⟩ = some (.string (xs[k]).1) ∧ wr.cell? ⟨b, o + k * 2 + 1, none⟩ = some (.string (xs[k]).2) := by
  obtain ⟨ad', cap', e1, _, hc⟩ := h
  obtain ⟨b, o, rfl, hbw, hcell⟩ := hc (by intro e; rw [e] at hk; simp at hk)
  cases e1
  exact ⟨b, o, rfl, hbw, by rw [hb.cell (p := ⟨b, o + k * 2, none⟩) hbw]; exact (hcell k hk).1, by rw [hb.cell (p := ⟨b, o + k * 2 + 1, none⟩) hbw]; exact (hcell k hk).2⟩
theorem RSrc.below {B B' : Nat} {w w' : World} {v : Value} {xs : List (ByteArray × ByteArray)} (h : RSrc B w v xs) (hb : Below B w w') (hB : B ≤ B') : RSrc B' w' v xs := by
  obtain ⟨ad, cap, e, hn, hc⟩ := h
  refine ⟨ad, cap, e, hn, fun hne => ?_⟩
  obtain ⟨b, o, e1, hbw, hcell⟩ := hc hne
  exact ⟨b, o, e1, by omega, fun i hi => ⟨by rw [hb.cell (p := ⟨b, o + i * 2, none⟩) hbw]; exact (hcell i hi).1, by rw [hb.cell (p := ⟨b, o + i * 2 + 1, none⟩) hbw]; exact (hcell i hi).2⟩⟩
theorem USrc.at {B : Nat} {w wr : World} {ad : Option Addr} {len cap : Nat} {us : List U} (h : USrc B w (.slice ad len cap) us) (hb : Below B w wr) {k : Nat} (hk : k < us.length) :
    ∃ b o ra rc wa wc, ad = some ⟨b, o, none⟩ ∧ b < B ∧ wr.cell? ⟨b, o + k * 4, none⟩ = some (.string (us[k]).id) ∧ wr.cell? ⟨b, o + k * 4 + 1, none⟩ = some (.string (us[k]).place) ∧
      wr.cell? ⟨b, o + k * 4 + 2, none⟩ = some (.slice ra (us[k]).reads.length rc) ∧ wr.cell? ⟨b, o + k * 4 + 3, none⟩ = some (.slice wa (us[k]).writes.length wc) ∧
      RSrc B wr (.slice ra (us[k]).reads.length rc) (us[k]).reads ∧ SSrc B wr (.slice wa (us[k]).writes.length wc) (us[k]).writes := by
  obtain ⟨ad', cap', e1, _, hc⟩ := h
  obtain ⟨b, o, rfl, hbw, hcell⟩ := hc (by intro e; rw [e] at hk; simp at hk)
  cases e1
  obtain ⟨ra, rc, wa, wc, c0, c1, c2, c3, hr, hs⟩ := hcell k hk
  exact ⟨b, o, ra, rc, wa, wc, rfl, hbw, by rw [hb.cell (p := ⟨b, o + k * 4, none⟩) hbw]; exact c0, by rw [hb.cell (p := ⟨b, o + k * 4 + 1, none⟩) hbw]; exact c1,
    by rw [hb.cell (p := ⟨b, o + k * 4 + 2, none⟩) hbw]; exact c2, by rw [hb.cell (p := ⟨b, o + k * 4 + 3, none⟩) hbw]; exact c3, hr.below hb (Nat.le_refl _), hs.below hb (Nat.le_refl _)⟩
theorem USrc.below {B B' : Nat} {w w' : World} {v : Value} {us : List U} (h : USrc B w v us) (hb : Below B w w') (hB : B ≤ B') : USrc B' w' v us := by
  obtain ⟨ad, cap, e, hn, hc⟩ := h
  refine ⟨ad, cap, e, hn, fun hne => ?_⟩
  obtain ⟨b, o, e1, hbw, hcell⟩ := hc hne
  refine ⟨b, o, e1, by omega, fun i hi => ?_⟩
  obtain ⟨ra, rc, wa, wc, c0, c1, c2, c3, hr, hs⟩ := hcell i hi
  exact ⟨ra, rc, wa, wc, by rw [hb.cell (p := ⟨b, o + i * 4, none⟩) hbw]; exact c0, by rw [hb.cell (p := ⟨b, o + i * 4 + 1, none⟩) hbw]; exact c1,
    by rw [hb.cell (p := ⟨b, o + i * 4 + 2, none⟩) hbw]; exact c2, by rw [hb.cell (p := ⟨b, o + i * 4 + 3, none⟩) hbw]; exact c3, hr.below hb hB, hs.below hb hB⟩

/-- every length is a length -/
def Sz (u : U) : Prop := u.id.size ≤ 9223372036854775807 ∧ u.place.size ≤ 9223372036854775807 ∧ u.reads.length ≤ 9223372036854775807 ∧ u.writes.length ≤ 9223372036854775807 ∧
  (∀ r, r ∈ u.reads → r.1.size ≤ 9223372036854775807 ∧ r.2.size ≤ 9223372036854775807) ∧ ∀ k, k ∈ u.writes → k.size ≤ 9223372036854775807

set_option maxHeartbeats 1000000 in
theorem add_ok (t n p : Nat) (w : World) (ht : t ≤ 1048577) (hn : n ≤ 9223372036854775807) (hp : p = 1 ∨ p = 8) :
    Calls Try.prog 18 #[.int .i64 t, .int .i64 n, .int .i64 p] w fun e w' => ∃ r : Nat, e = .returned (.int .i64 r) ∧ w' = w ∧ r ≤ 1048577 ∧ (r ≤ 1048576 → t + n * p ≤ r) := by
  by_cases g1 : t ≤ 1048576
  case neg =>
    go_enter Try.func18, Try.ntmps18
    go_wp2
    go_ret
    exact ⟨1048577, rfl, rfl, by omega, by omega⟩
  rcases hp with rfl | rfl
  · by_cases g2 : n ≤ 1048576 - t
    · go_enter Try.func18, Try.ntmps18
      go_wp2
      go_ret
      exact ⟨t + n, by go_num, rfl, by omega, by omega⟩
    · go_enter Try.func18, Try.ntmps18
      go_wp2
      go_ret
      exact ⟨1048577, rfl, rfl, by omega, by omega⟩
  · by_cases g2 : n ≤ (1048576 - t) / 8
    · go_enter Try.func18, Try.ntmps18
      go_wp2
      go_ret
      exact ⟨t + n * 8, by go_num, rfl, by omega, by omega⟩
    · go_enter Try.func18, Try.ntmps18
      go_wp2
      go_ret
      exact ⟨1048577, rfl, rfl, by omega, by omega⟩

theorem info57s : (Try.prog.info? 57).map (·.size) = some 2 := by kernel_rfl
theorem ver_ok (a b : ByteArray) (w : World) : Calls Try.prog 20 #[.string a, .string b] w fun e w' => e = .returned (.agg #[.string a, .string b]) ∧ New w w' := by
  go_enter Try.func20, Try.ntmps20
  go_wp2
  (try simp only [Exit.inBlock, Exit.then])
  refine bodyPost_ret (results_cell_row rfl _ _ w.heap.size 57 #[.string a, .string b] (0, 0) _ rfl (heap_alloc_new _ _) Try.underlying57 rfl info57s) rfl ?_
  exact ⟨rfl, (Kp.refl _ _).alloc _⟩
end Go.Proofs.Qxb6600552a.kt
