/-
  'zzBytes': the walk.
-/
import Derived.Test.Qxb6600552aDa
set_option linter.unusedVariables false
set_option linter.unusedSimpArgs false
namespace Go.Proofs.Qxb6600552a.kt
open Go.ChangeShapes Go.WideShapes Go.RowKit Go.Maps

set_option maxRecDepth 100000 in
set_option maxHeartbeats 8000000 in
theorem bytes_ok (a : Option Addr) (c : Nat) (us : List U) (na nc : Int) (w : World) (hl : us.length ≤ 9223372036854775807) (h : USrc w.heap.size w (.slice a us.length c) us) (hz : ∀ u, u ∈ us → Sz u) :
    Calls Try.prog 13 #[.slice a us.length c, .int .i64 na, .int .i64 nc] w fun e w' => ∃ b, e = .returned (.bool b) ∧ w' = w := by
  have HU := Lib.hid h
  have HZ := Lib.hid hz
  clear h hz
  go_enter Try.func13, Try.ntmps13
  by_cases g0 : us.length ≤ 1048576
  case neg =>
    go_wp2
    go_ret
    exact ⟨_, rfl, rfl⟩
  go_wp2_with fail
  go_loopw [7, 8] (fun z i W => ∃ m k : Nat, z = .int .i64 m ∧ i = .int .i64 k ∧ m ≤ 1048576 ∧ k ≤ us.length ∧ W = w) (fun _ i _ => us.length - (intOf i).toNat)
  case atStart => exact ⟨us.length, 0, rfl, rfl, g0, by omega, rfl⟩
  case round =>
    obtain ⟨m, k, rfl, rfl, hm, hk, hW⟩ := hrel
    replace hW := hW.symm
    subst hW
    by_cases hlt : k < us.length
    · obtain ⟨b, o, ra, rc, wa, wk, eb, hb, d0, d1, d2, d3, hr, hs⟩ := HU.out.at (Below.refl _ _) hlt
      cases eb
      have zk := HZ.out _ (List.getElem_mem hlt)
      obtain ⟨u, hu⟩ : ∃ u, u = us[k] := ⟨_, rfl⟩
      rw [← hu] at d0 d1 d2 d3 hr hs zk
      have HRr := Lib.hid hr
      have HSs := Lib.hid hs
      have HZk := Lib.hid zk
      have z1 := zk.1
      have z2 := zk.2.1
      have z3 := zk.2.2.1
      have z4 := zk.2.2.2.1
      clear hu hr hs zk
      by_cases x60 : u.id.size ≤ 1048576
      case neg =>
        go_wp2
        go_ret
        exact ⟨_, rfl, rfl⟩
      by_cases y60 : m + u.id.size ≤ 1048576
      case neg =>
        go_wp2
        go_ret
        exact ⟨_, rfl, rfl⟩
      by_cases x61 : u.place.size ≤ 1048576
      case neg =>
        go_wp2
        go_ret
        exact ⟨_, rfl, rfl⟩
      by_cases y61 : m + u.id.size + u.place.size ≤ 1048576
      case neg =>
        go_wp2
        go_ret
        exact ⟨_, rfl, rfl⟩
      by_cases x62 : u.reads.length ≤ 1048576
      case neg =>
        go_wp2
        go_ret
        exact ⟨_, rfl, rfl⟩
      by_cases y62 : m + u.id.size + u.place.size + u.reads.length ≤ 1048576
      case neg =>
        go_wp2
        go_ret
        exact ⟨_, rfl, rfl⟩
      go_wp2_with fail
      go_loopw [7, 9] (fun z i W => ∃ m2 k2 : Nat, z = .int .i64 m2 ∧ i = .int .i64 k2 ∧ m2 ≤ 1048576 ∧ k2 ≤ u.reads.length ∧ W = w) (fun _ i _ => u.reads.length - (intOf i).toNat)
      case atStart => exact ⟨m + u.id.size + u.place.size + u.reads.length, 0, by go_num, rfl, by omega, by omega, rfl⟩
      case round =>
        obtain ⟨m2, k2, rfl, rfl, hm2, hk2, hW⟩ := hrel
        replace hW := hW.symm
        subst hW
        by_cases hlt2 : k2 < u.reads.length
        · obtain ⟨b2, o2, eb, hb2, e1, e2⟩ := HRr.out.at (Below.refl _ _) hlt2
          cases eb
          have zr := HZk.out.2.2.2.2.1 _ (List.getElem_mem hlt2)
          obtain ⟨r, hr⟩ : ∃ r, r = u.reads[k2] := ⟨_, rfl⟩
          rw [← hr] at e1 e2 zr
          have zr1 := zr.1
          have zr2 := zr.2
          clear hr zr
          by_cases x100 : r.1.size ≤ 1048576
          case neg =>
            go_wp2
            go_ret
            exact ⟨_, rfl, rfl⟩
          by_cases y100 : m2 + r.1.size ≤ 1048576
          case neg =>
            go_wp2
            go_ret
            exact ⟨_, rfl, rfl⟩
          by_cases x101 : r.2.size ≤ 1048576
          case neg =>
            go_wp2
            go_ret
            exact ⟨_, rfl, rfl⟩
          by_cases y101 : m2 + r.1.size + r.2.size ≤ 1048576
          case neg =>
            go_wp2
            go_ret
            exact ⟨_, rfl, rfl⟩
          go_wp2
          go_roundw
          case rel => exact ⟨m2 + r.1.size + r.2.size, k2 + 1, by go_num, by go_num, by omega, by omega, by trivial⟩
          case measure => simp [intOf]; omega
        · skip
          by_cases x100 : u.writes.length ≤ 1048576
          case neg =>
            go_wp2
            go_ret
            exact ⟨_, rfl, rfl⟩
          by_cases y100 : m2 + u.writes.length ≤ 1048576
          case neg =>
            go_wp2
            go_ret
            exact ⟨_, rfl, rfl⟩
          go_wp2_with fail
          go_loopw [7, 10] (fun z i W => ∃ m3 k3 : Nat, z = .int .i64 m3 ∧ i = .int .i64 k3 ∧ m3 ≤ 1048576 ∧ k3 ≤ u.writes.length ∧ W = w) (fun _ i _ => u.writes.length - (intOf i).toNat)
          case atStart => exact ⟨m2 + u.writes.length, 0, by go_num, rfl, by omega, by omega, rfl⟩
          case round =>
            obtain ⟨m3, k3, rfl, rfl, hm3, hk3, hW⟩ := hrel
            replace hW := hW.symm
            subst hW
            by_cases hlt3 : k3 < u.writes.length
            · obtain ⟨b3, o3, eb, hb3, e3⟩ := HSs.out.at (Below.refl _ _) hlt3
              cases eb
              have zs := HZk.out.2.2.2.2.2 _ (List.getElem_mem hlt3)
              obtain ⟨s, hs⟩ : ∃ s, s = u.writes[k3] := ⟨_, rfl⟩
              rw [← hs] at e3 zs
              clear hs
              by_cases x140 : s.size ≤ 1048576
              case neg =>
                go_wp2
                go_ret
                exact ⟨_, rfl, rfl⟩
              by_cases y140 : m3 + s.size ≤ 1048576
              case neg =>
                go_wp2
                go_ret
                exact ⟨_, rfl, rfl⟩
              go_wp2
              go_roundw
              case rel => exact ⟨m3 + s.size, k3 + 1, by go_num, by go_num, by omega, by omega, by trivial⟩
              case measure => simp [intOf]; omega
            · go_wp2
              go_roundw
              case rel => exact ⟨m3, k + 1, rfl, by go_num, by omega, by omega, by trivial⟩
              case measure => simp [intOf]; omega
    · go_wp2
      go_ret
      exact ⟨_, rfl, rfl⟩
end Go.Proofs.Qxb6600552a.kt
