/-
  'b1SameStrings', 'b1SameUnit' and what they call: the walks, where both sides are alike.
-/
import Derived.Test.Qxb6600552aKd
import Derived.Deep.QuietTactic
import Derived.Deep.RegionHeld3
set_option linter.unusedVariables false
set_option linter.unusedSimpArgs false
namespace Go.Proofs.Qxb6600552a.kt
open Go.ChangeShapes Go.WideShapes Go.RowKit Go.Maps

theorem bptr_ok (w : World) : Calls Try.prog 31 #[.pointer none, .pointer none] w fun e w' => e = .returned (.bool true) ∧ w' = w := by
  go_enter Try.func31, Try.ntmps31
  go_wp2
  go_ret
  exact ⟨rfl, rfl⟩
theorem iptr_ok (w : World) : Calls Try.prog 32 #[.pointer none, .pointer none] w fun e w' => e = .returned (.bool true) ∧ w' = w := by
  go_enter Try.func32, Try.ntmps32
  go_wp2
  go_ret
  exact ⟨rfl, rfl⟩
theorem own_str {w : World} {B : Nat} {a : Option Addr} {c : Nat} {ids : List ByteArray} (h : w.ownsRow B 9 1 (.slice a ids.length c) ids.length (ids.map Value.string)) {k : Nat} (hk : k < ids.length) :
    ∃ g, a = some ⟨g, 0, none⟩ ∧ g < w.heap.size ∧ w.cell? ⟨g, k, none⟩ = some (.string ids[k]) := by
  obtain ⟨g, cap, e, _⟩ := own_some h (by omega)
  cases e
  exact ⟨g, rfl, (h.lt _ rfl).2, by rw [h.cellAt _ (by omega), List.getElem?_map, List.getElem?_eq_getElem hk]; rfl⟩
set_option maxHeartbeats 2000000 in
theorem sstr_ok (B1 B2 c1 c2 : Nat) (a1 a2 : Option Addr) (ids : List ByteArray) (w : World) (h1 : w.ownsRow B1 9 1 (.slice a1 ids.length c1) ids.length (ids.map Value.string)) (h2 : w.ownsRow B2 9 1 (.slice a2 ids.length c2) ids.length (ids.map Value.string)) (hl : ids.length ≤ 1000000) :
    Calls Try.prog 28 #[.slice a1 ids.length c1, .slice a2 ids.length c2] w fun e w' => e = .returned (.bool true) ∧ New w w' := by
  have H1 := Lib.hid h1
  have H2 := Lib.hid h2
  clear h1 h2
  go_enter Try.func28, Try.ntmps28
  go_wp2_with fail
  go_loopw [5] (fun i W => ∃ k : Nat, k ≤ ids.length ∧ i = .int .i64 k ∧ Hid (New w W)) (fun i _ => ids.length - (intOf i).toNat)
  case atStart => exact ⟨0, by omega, rfl, Lib.hid (Kp.refl _ _)⟩
  case round =>
    obtain ⟨k, hk, rfl, HW⟩ := hrel
    by_cases hlt : k < ids.length
    · obtain ⟨g1, e1, l1, d1⟩ := own_str (ownsRow_kp H1.out HW.out (fun _ _ h => h)) hlt
      cases e1
      obtain ⟨g2, e2, l2, d2⟩ := own_str (ownsRow_kp H2.out HW.out (fun _ _ h => h)) hlt
      cases e2
      obtain ⟨s, hs⟩ : ∃ s, s = ids[k] := ⟨_, rfl⟩
      rw [← hs] at d1 d2
      clear hs l1 l2
      go_upto_region 6 with fail
      go_quiet (fail)
      go_wp2
      go_roundw
      case rel => exact ⟨k + 1, by omega, by go_num, Lib.hid (HW.out.drewN _)⟩
      case measure => simp [intOf]; omega
    · have hkk : k = ids.length := by omega
      subst hkk
      go_wp2
      go_ret
      exact ⟨rfl, HW.out⟩
/-- a unit handed over by value, in a block of its own -/
def BoxU (W : World) (g : Nat) (u : U) (ra wa : Option Addr) (rc wk : Nat) : Prop := W.heap[g]? = some (.cells #[.string u.id, e0, e0, e0, e0, .pointer none, .pointer none, .pointer none, .slice ra u.reads.length rc, .slice wa u.writes.length wk] 43 (0, 0))
theorem BoxU.kp {W W' : World} {g : Nat} {u : U} {ra wa : Option Addr} {rc wk : Nat} (h : BoxU W g u ra wa rc wk) (hk : New W W') : BoxU W' g u ra wa rc wk := by
  unfold BoxU
  rw [hk.block g (Array.getElem?_eq_some_iff.1 h).1 (fun h => h)]
  exact h
theorem BoxU.cell {W : World} {g : Nat} {u : U} {ra wa : Option Addr} {rc wk : Nat} (h : BoxU W g u ra wa rc wk) : W.cell? ⟨g, 0, none⟩ = some (.string u.id) ∧ W.cell? ⟨g, 1, none⟩ = some e0 ∧ W.cell? ⟨g, 2, none⟩ = some e0 ∧ W.cell? ⟨g, 3, none⟩ = some e0 ∧ W.cell? ⟨g, 4, none⟩ = some e0 ∧ W.cell? ⟨g, 5, none⟩ = some (.pointer none) ∧
    W.cell? ⟨g, 6, none⟩ = some (.pointer none) ∧ W.cell? ⟨g, 7, none⟩ = some (.pointer none) ∧ W.cell? ⟨g, 8, none⟩ = some (.slice ra u.reads.length rc) ∧ W.cell? ⟨g, 9, none⟩ = some (.slice wa u.writes.length wk) :=
  ⟨cell_of_row _ _ _ _ _ _ h, cell_of_row _ _ _ _ _ _ h, cell_of_row _ _ _ _ _ _ h, cell_of_row _ _ _ _ _ _ h, cell_of_row _ _ _ _ _ _ h, cell_of_row _ _ _ _ _ _ h, cell_of_row _ _ _ _ _ _ h, cell_of_row _ _ _ _ _ _ h, cell_of_row _ _ _ _ _ _ h, cell_of_row _ _ _ _ _ _ h⟩
set_option maxRecDepth 100000 in
set_option maxHeartbeats 8000000 in
theorem sunit_ok (B1 B2 : Nat) (u : U) (ra wa ra' wa' : Option Addr) (rc wk rc' wk' : Nat) (w : World) (hl1 : u.reads.length ≤ 1048576) (hl2 : u.writes.length ≤ 1048576)
    (h1 : w.ownsRow B1 65 2 (.slice ra u.reads.length rc) u.reads.length (rcells u.reads)) (h2 : w.ownsRow B1 63 3 (.slice wa u.writes.length wk) u.writes.length (wcells u.writes))
    (h3 : w.ownsRow B2 65 2 (.slice ra' u.reads.length rc') u.reads.length (rcells u.reads)) (h4 : w.ownsRow B2 63 3 (.slice wa' u.writes.length wk') u.writes.length (wcells u.writes)) :
    Calls Try.prog 27 #[.agg #[.string u.id, e0, e0, e0, e0, .pointer none, .pointer none, .pointer none, .slice ra u.reads.length rc, .slice wa u.writes.length wk], .agg #[.string u.id, e0, e0, e0, e0, .pointer none, .pointer none, .pointer none, .slice ra' u.reads.length rc', .slice wa' u.writes.length wk']] w fun e w' => e = .returned (.bool true) ∧ New w w' := by
  have H1 := Lib.hid h1
  have H2 := Lib.hid h2
  have H3 := Lib.hid h3
  have H4 := Lib.hid h4
  clear h1 h2 h3 h4
  go_enter Try.func27, Try.ntmps27
  go_upto_region 1 with fail
  obtain ⟨w1, hw1⟩ : ∃ X, X = (w.alloc (.cells #[.string u.id, e0, e0, e0, e0, .pointer none, .pointer none, .pointer none, .slice ra u.reads.length rc, .slice wa u.writes.length wk] 43)).alloc (.cells #[.string u.id, e0, e0, e0, e0, .pointer none, .pointer none, .pointer none, .slice ra' u.reads.length rc', .slice wa' u.writes.length wk'] 43) := ⟨_, rfl⟩
  rw [← hw1]
  obtain ⟨g1, hg1⟩ : ∃ g, g = w.heap.size := ⟨_, rfl⟩
  have hg2 : g1 + 1 = w.heap.size + 1 := by rw [hg1]
  rw [← hg1]
  obtain ⟨g2, hg2'⟩ : ∃ g, g = g1 + 1 := ⟨_, rfl⟩
  rw [← hg2']
  have HN1 : Hid (New w w1) := Lib.hid (by rw [hw1]; exact ((Kp.refl _ _).alloc _).alloc _)
  have HB1 : Hid (BoxU w1 g1 u ra wa rc wk) := Lib.hid (by rw [hw1, hg1]; exact heap_alloc2_old _ _ _)
  have HB2 : Hid (BoxU w1 g2 u ra' wa' rc' wk') := Lib.hid (by rw [hw1, hg2', hg1]; exact heap_alloc2_new _ _ _)
  clear hw1 hg1 hg2 hg2'
  obtain ⟨p0, p1, p2, p3, p4, p5, p6, p7, p8, p9⟩ := HB1.out.cell
  obtain ⟨q0, q1, q2, q3, q4, q5, q6, q7, q8, q9⟩ := HB2.out.cell
  go_wp2_with (first | (go_at_call 31; refine (bptr_ok _).mono ?_; rintro e w' ⟨rfl, hW⟩; replace hW := hW.symm; subst hW) | (go_at_call 32; refine (iptr_ok _).mono ?_; rintro e w' ⟨rfl, hW⟩; replace hW := hW.symm; subst hW) | fail)
  clear p0 p1 p2 p3 p4 p5 p6 p7 p8 p9 q0 q1 q2 q3 q4 q5 q6 q7 q8 q9
  go_loopw [5] (fun i W => ∃ k : Nat, k ≤ u.reads.length ∧ i = .int .i64 k ∧ Hid (New w1 W)) (fun i _ => u.reads.length - (intOf i).toNat)
  case atStart => exact ⟨0, by omega, rfl, Lib.hid (Kp.refl _ _)⟩
  case round =>
    obtain ⟨k, hk, rfl, HW⟩ := hrel
    obtain ⟨p0, p1, p2, p3, p4, p5, p6, p7, p8, p9⟩ := (HB1.out.kp HW.out).cell
    obtain ⟨q0, q1, q2, q3, q4, q5, q6, q7, q8, q9⟩ := (HB2.out.kp HW.out).cell
    clear p0 p1 p2 p3 p4 p5 p6 p7 p9 q0 q1 q2 q3 q4 q5 q6 q7 q9
    by_cases hlt : k < u.reads.length
    · obtain ⟨gr, e1, l1, d1, d2⟩ := own_read (ownsRow_kp H1.out (HN1.out.trans HW.out) (fun _ _ h => h)) hlt
      cases e1
      obtain ⟨gs, e2, l2, d3, d4⟩ := own_read (ownsRow_kp H3.out (HN1.out.trans HW.out) (fun _ _ h => h)) hlt
      cases e2
      obtain ⟨r, hr⟩ : ∃ r, r = u.reads[k] := ⟨_, rfl⟩
      rw [← hr] at d1 d2 d3 d4
      clear hr l1 l2
      go_upto_region 10 with fail
      go_quiet (fail)
      go_wp2
      go_roundw
      case rel => exact ⟨k + 1, by omega, by go_num, Lib.hid (HW.out.drewN _)⟩
      case measure => simp [intOf]; omega
    · go_wp2_with fail
      clear p8 q8
      go_loopw [6] (fun i W => ∃ k : Nat, k ≤ u.writes.length ∧ i = .int .i64 k ∧ Hid (New w1 W)) (fun i _ => u.writes.length - (intOf i).toNat)
      case atStart => exact ⟨0, by omega, rfl, HW⟩
      case round =>
        obtain ⟨k', hk', rfl, HW'⟩ := hrel
        obtain ⟨p0, p1, p2, p3, p4, p5, p6, p7, p8, p9⟩ := (HB1.out.kp HW'.out).cell
        obtain ⟨q0, q1, q2, q3, q4, q5, q6, q7, q8, q9⟩ := (HB2.out.kp HW'.out).cell
        clear p0 p1 p2 p3 p4 p5 p6 p7 p8 q0 q1 q2 q3 q4 q5 q6 q7 q8
        by_cases hlt' : k' < u.writes.length
        · obtain ⟨gr, e1, l1, d1, d2, d3⟩ := own_write (ownsRow_kp H2.out (HN1.out.trans HW'.out) (fun _ _ h => h)) hlt'
          cases e1
          obtain ⟨gs, e2, l2, d4, d5, d6⟩ := own_write (ownsRow_kp H4.out (HN1.out.trans HW'.out) (fun _ _ h => h)) hlt'
          cases e2
          obtain ⟨r, hr⟩ : ∃ r, r = u.writes[k'] := ⟨_, rfl⟩
          rw [← hr] at d1 d4
          clear hr l1 l2
          go_upto_region 15 with fail
          go_cut [164] (fun b W => b = .bool false ∧ Hid (New w1 W))
          case first =>
            have i1 : (0 : Int) ≤ (k' : Int) := by omega
            have i2 : (k' : Int) < (u.writes.length : Int) := by omega
            go_region_held3 (fun w' => w'.cell? ⟨g1, 9, none⟩ = some (.slice (some ⟨gr, 0, none⟩) u.writes.length wk) ∧ w'.cell? ⟨g2, 9, none⟩ = some (.slice (some ⟨gs, 0, none⟩) u.writes.length wk') ∧ w'.cell? ⟨gr, k' * 3, none⟩ = some (.string r) ∧ w'.cell? ⟨gr, k' * 3 + 1, none⟩ = some (.pointer none) ∧ w'.cell? ⟨gr, k' * 3 + 2, none⟩ = some (.pointer none) ∧ w'.cell? ⟨gs, k' * 3, none⟩ = some (.string r) ∧ w'.cell? ⟨gs, k' * 3 + 1, none⟩ = some (.pointer none) ∧ w'.cell? ⟨gs, k' * 3 + 2, none⟩ = some (.pointer none)) (go_keep)
              (first | (go_at_call 32; refine (iptr_ok _).mono ?_; rintro e w' ⟨rfl, rfl⟩))
            all_goals
              go_wp2_with fail
              go_meet
              exact ⟨rfl, Lib.hid (HW'.out.drew)⟩
          case rest =>
            obtain ⟨rfl, HWc⟩ := hcut
            clear p9 q9 d1 d2 d3 d4 d5 d6
            go_wp2
            go_roundw
            case rel => exact ⟨k' + 1, by omega, by go_num, HWc⟩
            case measure => simp [intOf]; omega
        · go_wp2
          go_ret
          exact ⟨rfl, HN1.out.trans HW'.out⟩
end Go.Proofs.Qxb6600552a.kt
