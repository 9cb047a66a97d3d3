/-
  'b1UnitBytes', 'b1FitsBytes': the walks.
-/
import Derived.Test.Qxb6600552aDa
namespace Go.Proofs.Qxb6600552a.kt
open Go.ChangeShapes Go.WideShapes Go.RowKit Go.Maps

/-- the block that holds a unit handed over by value -/
abbrev boxU (w : World) (u : U) (ra wa : Option Addr) (rc wc : Nat) : World := w.alloc (.cells #[.string u.id, .string u.place, .slice ra u.reads.length rc, .slice wa u.writes.length wc] 28)

set_option maxHeartbeats 2000000 in
theorem unit_ok (t : Nat) (u : U) (ra wa : Option Addr) (rc wc : Nat) (w : World) (ht : t ≤ 1048577) (hr : RSrc w.heap.size w (.slice ra u.reads.length rc) u.reads) (hs : SSrc w.heap.size w (.slice wa u.writes.length wc) u.writes) (hz : Sz u) :
    Calls Try.prog 19 #[.int .i64 t, .agg #[.string u.id, .string u.place, .slice ra u.reads.length rc, .slice wa u.writes.length wc]] w fun e w' => ∃ r : Nat, e = .returned (.int .i64 r) ∧ r ≤ 1048577 ∧ (r ≤ 1048576 → t + u.reads.length * 8 + u.writes.length * 8 ≤ r) ∧ New w w' := by
  have hN : New w (boxU w u ra wa rc wc) := (Kp.refl _ _).alloc _
  have HR := Lib.hid (hr.below hN.below (Nat.le_refl _))
  have HS := Lib.hid (hs.below hN.below (Nat.le_refl _))
  have HZ := Lib.hid hz
  have HN := Lib.hid hN
  have z1 := hz.1
  have z2 := hz.2.1
  have z3 := hz.2.2.1
  have z4 := hz.2.2.2.1
  clear hr hs hz hN
  go_enter Try.func19, Try.ntmps19
  go_wp2_with fail
  refine (add_ok t u.id.size 1 _ ht z1 (.inl rfl)).mono ?_
  rintro e w' ⟨r1, rfl, hW, b1, h1⟩
  replace hW := hW.symm
  subst hW
  go_wp2_with fail
  refine (add_ok r1 u.place.size 1 _ b1 z2 (.inl rfl)).mono ?_
  rintro e w' ⟨r2, rfl, hW, b2, h2⟩
  replace hW := hW.symm
  subst hW
  go_wp2_with fail
  refine (add_ok r2 u.writes.length 8 _ b2 z4 (.inr rfl)).mono ?_
  rintro e w' ⟨r3, rfl, hW, b3, h3⟩
  replace hW := hW.symm
  subst hW
  by_cases g3 : r3 ≤ 1048576
  case neg =>
    go_wp2
    go_ret
    exact ⟨r3, rfl, b3, by omega, HN.out⟩
  go_wp2_with fail
  go_loopw [0, 5] (fun s i W => ∃ m k : Nat, s = .int .i64 m ∧ i = .int .i64 k ∧ m ≤ 1048577 ∧ (m ≤ 1048576 → r3 ≤ m) ∧ k ≤ u.writes.length ∧ W = boxU w u ra wa rc wc) (fun _ i _ => u.writes.length - (intOf i).toNat)
  case atStart => exact ⟨r3, 0, rfl, rfl, b3, by omega, by omega, rfl⟩
  case round =>
    obtain ⟨m, k, rfl, rfl, hm, hm2, hk, hW⟩ := hrel
    subst hW
    by_cases hlt : k < u.writes.length
    · obtain ⟨b, o, eb, hb, d0⟩ := HS.out.at (Below.refl _ _) hlt
      cases eb
      have zk := HZ.out.2.2.2.2.2 _ (List.getElem_mem hlt)
      obtain ⟨s, hs⟩ : ∃ s, s = u.writes[k] := ⟨_, rfl⟩
      rw [← hs] at d0 zk
      clear hs
      go_wp2_with fail
      refine (add_ok m s.size 1 _ hm zk (.inl rfl)).mono ?_
      rintro e w' ⟨r4, rfl, hW, b4, h4⟩
      replace hW := hW.symm
      subst hW
      go_wp2
      go_roundw
      case rel => exact ⟨r4, k + 1, rfl, by go_num, b4, by omega, by omega, by trivial⟩
      case measure => simp [intOf]; omega
    · go_wp2_with fail
      refine (add_ok m u.reads.length 8 _ hm z3 (.inr rfl)).mono ?_
      rintro e w' ⟨r5, rfl, hW, b5, h5⟩
      replace hW := hW.symm
      subst hW
      by_cases g5 : r5 ≤ 1048576
      case neg =>
        go_wp2
        go_ret
        exact ⟨r5, rfl, b5, by omega, HN.out⟩
      go_wp2_with fail
      go_loopw [0, 6] (fun s i W => ∃ m k : Nat, s = .int .i64 m ∧ i = .int .i64 k ∧ m ≤ 1048577 ∧ (m ≤ 1048576 → r5 ≤ m) ∧ k ≤ u.reads.length ∧ W = boxU w u ra wa rc wc) (fun _ i _ => u.reads.length - (intOf i).toNat)
      case atStart => exact ⟨r5, 0, rfl, rfl, b5, by omega, by omega, rfl⟩
      case round =>
        obtain ⟨m', k', rfl, rfl, hm', hm2', hk', hW⟩ := hrel
        subst hW
        by_cases hlt' : k' < u.reads.length
        · obtain ⟨b, o, eb, hb, d0, d1⟩ := HR.out.at (Below.refl _ _) hlt'
          cases eb
          have zk := HZ.out.2.2.2.2.1 _ (List.getElem_mem hlt')
          obtain ⟨s, hs⟩ : ∃ s, s = u.reads[k'] := ⟨_, rfl⟩
          rw [← hs] at d0 d1 zk
          clear hs
          go_wp2_with fail
          refine (add_ok m' s.1.size 1 _ hm' zk.1 (.inl rfl)).mono ?_
          rintro e w' ⟨r6, rfl, hW, b6, h6⟩
          replace hW := hW.symm
          subst hW
          go_wp2_with fail
          refine (add_ok r6 s.2.size 1 _ b6 zk.2 (.inl rfl)).mono ?_
          rintro e w' ⟨r7, rfl, hW, b7, h7⟩
          replace hW := hW.symm
          subst hW
          go_wp2
          go_roundw
          case rel => exact ⟨r7, k' + 1, rfl, by go_num, b7, by omega, by omega, by trivial⟩
          case measure => simp [intOf]; omega
        · go_wp2
          go_ret
          exact ⟨m', rfl, hm', by omega, HN.out⟩

/-- how many reads and writes, eight bytes each -/
def cost (us : List U) : Nat := (us.map fun u => u.reads.length * 8 + u.writes.length * 8).sum
theorem cost_step {us : List U} {k : Nat} (h : k < us.length) : cost (us.take (k + 1)) = cost (us.take k) + ((us[k]).reads.length * 8 + (us[k]).writes.length * 8) := by
  unfold cost
  rw [List.take_succ_eq_append_getElem h, List.map_append, List.sum_append]
  simp
def noU : U := ⟨ByteArray.empty, ByteArray.empty, [], []⟩
set_option maxHeartbeats 2000000 in
theorem fits_ok (a : Option Addr) (c : Nat) (us : List U) (w : World) (hl : us.length ≤ 65536) (h : USrc w.heap.size w (.slice a us.length c) us) (hz : ∀ u, u ∈ us → Sz u) :
    Calls Try.prog 8 #[.slice a us.length c, .agg #[.string ByteArray.empty, .string ByteArray.empty, .slice none 0 0, .slice none 0 0]] w fun e w' => ∃ b, e = .returned (.bool b) ∧ (b = true → cost us ≤ 1048576) ∧ New w w' := by
  have HU := Lib.hid h
  have HZ := Lib.hid hz
  clear h hz
  go_enter Try.func8, Try.ntmps8
  go_wp2_with fail
  refine (add_ok 0 us.length 8 _ (by omega) (by omega) (.inr rfl)).mono ?_
  rintro e w' ⟨r1, rfl, hW, b1, h1⟩
  replace hW := hW.symm
  subst hW
  go_wp2_with fail
  refine (unit_ok r1 noU none none 0 0 _ b1 ⟨none, 0, rfl, fun _ => ⟨rfl, rfl⟩, fun h => absurd rfl h⟩ ⟨none, 0, rfl, fun _ => ⟨rfl, rfl⟩, fun h => absurd rfl h⟩ ⟨by decide, by decide, by decide, by decide, (fun r h => by cases h), (fun r h => by cases h)⟩).mono ?_
  rintro e w1 ⟨r2, rfl, b2, _, hN⟩
  have HN : Hid (New w w1) := Lib.hid (((Kp.refl _ _).alloc _).trans hN)
  clear hN h1
  go_wp2_with fail
  go_loopw [5, 6] (fun s i W => ∃ m k : Nat, s = .int .i64 m ∧ i = .int .i64 k ∧ m ≤ 1048577 ∧ (m ≤ 1048576 → cost (us.take k) ≤ m) ∧ k ≤ us.length ∧ Hid (New w W)) (fun _ i _ => us.length - (intOf i).toNat)
  case atStart => exact ⟨r2, 0, rfl, rfl, b2, (fun _ => by show cost [] ≤ _; exact Nat.zero_le _), by omega, HN⟩
  case round =>
    obtain ⟨m, k, rfl, rfl, hm, hm2, hk, HW⟩ := hrel
    by_cases hlt : k < us.length
    · by_cases g : m ≤ 1048576
      case neg =>
        go_wp2
        go_ret
        exact ⟨false, rfl, (fun h => by cases h), HW.out⟩
      obtain ⟨b, o, ra, rc, wa, wc, eb, hb, d0, d1, d2, d3, hr, hs⟩ := HU.out.at HW.out.below hlt
      cases eb
      have zk := HZ.out _ (List.getElem_mem hlt)
      have hst := cost_step hlt
      obtain ⟨u, hu⟩ : ∃ u, u = us[k] := ⟨_, rfl⟩
      rw [← hu] at d0 d1 d2 d3 hr hs zk hst
      have HRr := Lib.hid (hr.below (Below.refl _ _) HW.out.size)
      have HSs := Lib.hid (hs.below (Below.refl _ _) HW.out.size)
      have HST := Lib.hid hst
      have HZk := Lib.hid zk
      clear hu hr hs zk hst
      go_wp2_with fail
      refine (unit_ok m u ra wa rc wc _ hm HRr.out HSs.out HZk.out).mono ?_
      rintro e w2 ⟨r3, rfl, b3, h3, hN⟩
      have HN' : Hid (New w w2) := Lib.hid (HW.out.trans hN)
      clear hN HRr HSs HZk
      go_wp2
      go_roundw
      case rel => exact ⟨r3, k + 1, rfl, by go_num, b3, by have := HST.out; omega, by omega, HN'⟩
      case measure => simp [intOf]; omega
    · have hkk : k = us.length := by omega
      subst hkk
      rw [List.take_length] at hm2
      by_cases g : m ≤ 1048576
      · go_wp2
        go_ret
        exact ⟨_, rfl, (fun _ => by omega), HW.out⟩
      · go_wp2
        go_ret
        exact ⟨_, rfl, (fun h => by simp at h; omega), HW.out⟩
end Go.Proofs.Qxb6600552a.kt
