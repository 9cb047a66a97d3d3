/-
  'zzBytes_FnParallelSlopeModel': the walk: it answers a bool and turns nothing.
-/
import Derived.Test.Qxb6605538aWi
namespace Go.Proofs.Qxb6605538a.fl
open Go.ChangeShapes Go.WideShapes Go.RowKit

/-- the row's length, whatever lies in it -/
theorem NSrc.one {w : World} {ad : Option Addr} {len cap : Nat} {xss : List (List Nat)} (h : NSrc w.heap.size w (.slice ad len cap) xss) {k : Nat} (hk : k < xss.length) :
    ∃ b o a c m, ad = some ⟨b, o, none⟩ ∧ w.cell? ⟨b, o + k, none⟩ = some (.slice a m c) ∧ m = (xss[k]).length := by
  obtain ⟨b, o, a, c, e, _, h1, _⟩ := h.at (Below.refl _ _) hk
  exact ⟨b, o, a, c, _, e, h1, rfl⟩

set_option maxHeartbeats 4000000 in
theorem bytes_ok (a0 a1 a2 a3 : Option Addr) (c0 c1 c2 n3 c3 : Nat) (xss yss zss : List (List Nat)) (w : World)
    (h0 : NSrc w.heap.size w (.slice a0 xss.length c0) xss) (h1 : NSrc w.heap.size w (.slice a1 yss.length c1) yss) (h2 : NSrc w.heap.size w (.slice a2 zss.length c2) zss)
    (l0 : xss.length ≤ 9223372036854775807) (l1 : yss.length ≤ 9223372036854775807) (l2 : zss.length ≤ 9223372036854775807) (l3 : n3 ≤ 9223372036854775807)
    (m0 : ∀ l, l ∈ xss → l.length ≤ 9223372036854775807) (m1 : ∀ l, l ∈ yss → l.length ≤ 9223372036854775807) (m2 : ∀ l, l ∈ zss → l.length ≤ 9223372036854775807) :
    Calls Try.prog 14 #[.slice a0 xss.length c0, .slice a1 yss.length c1, .slice a2 zss.length c2, .slice a3 n3 c3] w fun e w' => ∃ b, e = .returned (.bool b) ∧ w' = w := by
  have H0 := Lib.hid h0
  have H1 := Lib.hid h1
  have H2 := Lib.hid h2
  have M0 := Lib.hid m0
  have M1 := Lib.hid m1
  have M2 := Lib.hid m2
  clear h0 h1 h2 m0 m1 m2
  go_enter Try.func14, Try.ntmps14
  by_cases g0 : xss.length ≤ 1048576
  case neg =>
    go_wp2
    go_ret
    exact ⟨_, rfl, rfl⟩
  go_wp2
  go_loopw [9, 10] (fun z i W => ∃ m k : Nat, z = .int .i64 m ∧ i = .int .i64 k ∧ m ≤ 1048576 ∧ k ≤ xss.length ∧ W = w) (fun _ i _ => xss.length - (intOf i).toNat)
  case atStart => exact ⟨xss.length, 0, rfl, rfl, g0, by omega, rfl⟩
  case round =>
    obtain ⟨m, k, rfl, rfl, hm, hk, hW⟩ := hrel
    replace hW := hW.symm
    subst hW
    by_cases hlt : k < xss.length
    · obtain ⟨b, o, a, c, q, eb, hc, hq⟩ := H0.out.one hlt
      cases eb
      have hq2 : q ≤ 9223372036854775807 := by rw [hq]; exact M0.out _ (List.getElem_mem hlt)
      clear hq
      by_cases k1 : q ≤ 1048576
      · by_cases k2 : m + q ≤ 1048576
        · go_wp2
          go_roundw
          case rel => exact ⟨m + q, k + 1, by go_num, by go_num, by omega, by omega, by trivial⟩
          case measure => simp [intOf]; omega
        · go_wp2
          go_ret
          exact ⟨_, rfl, rfl⟩
      · go_wp2
        go_ret
        exact ⟨_, rfl, rfl⟩
    · skip
      by_cases g : yss.length ≤ 1048576
      case neg =>
        go_wp2
        go_ret
        exact ⟨_, rfl, rfl⟩
      by_cases g' : m + yss.length ≤ 1048576
      case neg =>
        go_wp2
        go_ret
        exact ⟨_, rfl, rfl⟩
      go_wp2
      go_loopw [9, 11] (fun z i W => ∃ m k : Nat, z = .int .i64 m ∧ i = .int .i64 k ∧ m ≤ 1048576 ∧ k ≤ yss.length ∧ W = w) (fun _ i _ => yss.length - (intOf i).toNat)
      case atStart => exact ⟨m + yss.length, 0, by go_num, rfl, g', by omega, rfl⟩
      case round =>
        clear hlt hm hk g g'
        obtain ⟨m, k, rfl, rfl, hm, hk, hW⟩ := hrel
        replace hW := hW.symm
        subst hW
        by_cases hlt : k < yss.length
        · obtain ⟨b, o, a, c, q, eb, hc, hq⟩ := H1.out.one hlt
          cases eb
          have hq2 : q ≤ 9223372036854775807 := by rw [hq]; exact M1.out _ (List.getElem_mem hlt)
          clear hq
          by_cases k1 : q ≤ 1048576
          · by_cases k2 : m + q ≤ 1048576
            · go_wp2
              go_roundw
              case rel => exact ⟨m + q, k + 1, by go_num, by go_num, by omega, by omega, by trivial⟩
              case measure => simp [intOf]; omega
            · go_wp2
              go_ret
              exact ⟨_, rfl, rfl⟩
          · go_wp2
            go_ret
            exact ⟨_, rfl, rfl⟩
        · skip
          by_cases g : zss.length ≤ 1048576
          case neg =>
            go_wp2
            go_ret
            exact ⟨_, rfl, rfl⟩
          by_cases g' : m + zss.length ≤ 1048576
          case neg =>
            go_wp2
            go_ret
            exact ⟨_, rfl, rfl⟩
          go_wp2
          go_loopw [9, 12] (fun z i W => ∃ m k : Nat, z = .int .i64 m ∧ i = .int .i64 k ∧ m ≤ 1048576 ∧ k ≤ zss.length ∧ W = w) (fun _ i _ => zss.length - (intOf i).toNat)
          case atStart => exact ⟨m + zss.length, 0, by go_num, rfl, g', by omega, rfl⟩
          case round =>
            clear hlt hm hk g g'
            obtain ⟨m, k, rfl, rfl, hm, hk, hW⟩ := hrel
            replace hW := hW.symm
            subst hW
            by_cases hlt : k < zss.length
            · obtain ⟨b, o, a, c, q, eb, hc, hq⟩ := H2.out.one hlt
              cases eb
              have hq2 : q ≤ 9223372036854775807 := by rw [hq]; exact M2.out _ (List.getElem_mem hlt)
              clear hq
              by_cases k1 : q ≤ 1048576
              · by_cases k2 : m + q ≤ 1048576
                · go_wp2
                  go_roundw
                  case rel => exact ⟨m + q, k + 1, by go_num, by go_num, by omega, by omega, by trivial⟩
                  case measure => simp [intOf]; omega
                · go_wp2
                  go_ret
                  exact ⟨_, rfl, rfl⟩
              · go_wp2
                go_ret
                exact ⟨_, rfl, rfl⟩
            · skip
              by_cases g : n3 ≤ 1048576
              case neg =>
                go_wp2
                go_ret
                exact ⟨_, rfl, rfl⟩
              by_cases g' : m + n3 ≤ 1048576
              case neg =>
                go_wp2
                go_ret
                exact ⟨_, rfl, rfl⟩
              go_wp2
              go_ret
              exact ⟨_, rfl, rfl⟩
end Go.Proofs.Qxb6605538a.fl
