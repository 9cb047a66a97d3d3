/-
  'b1SameState': two builders that hold the same units.
-/
import Derived.Test.Qxb6600552aSa
import Derived.Test.Qxb6600552aSb
import Derived.Test.Qxb6600552aKe
set_option linter.unusedVariables false
set_option linter.unusedSimpArgs false
namespace Go.Proofs.Qxb6600552a.kt
open Go.ChangeShapes Go.WideShapes Go.RowKit Go.Maps

theorem sstr_n {n : Nat} (B1 B2 c1 c2 : Nat) (a1 a2 : Option Addr) (ids : List ByteArray) (w : World) (hn : ids.length = n) (h1 : w.ownsRow B1 9 1 (.slice a1 n c1) n (ids.map Value.string)) (h2 : w.ownsRow B2 9 1 (.slice a2 n c2) n (ids.map Value.string)) (hl : n ≤ 1000000) :
    Calls Try.prog 28 #[.slice a1 n c1, .slice a2 n c2] w fun e w' => e = .returned (.bool true) ∧ New w w' := by
  subst hn
  exact sstr_ok B1 B2 c1 c2 a1 a2 ids w h1 h2 hl
/-- both 'at's answer alike -/
theorem at_two {w : World} {b1 b2 n1 n2 : Nat} {vs : List U} (hd : Dist vs vs.length) (h1 : MV w 9 b1 n1 (Rat vs)) (h2 : MV w 9 b2 n2 (Rat vs)) {id : ByteArray} (hz : id.size ≤ maxLen) :
    ∃ z : Int, ∃ ok : Bool, (Instr.lookup 53 (.map (some b1)) (.string id) true).run Try.prog w = .ok (.tuple #[.int .i64 z, .bool ok]) w ∧ (Instr.lookup 53 (.map (some b2)) (.string id) true).run Try.prog w = .ok (.tuple #[.int .i64 z, .bool ok]) w := by
  rcases h1.look kS Try.underlying53 (zero3 _) ⟨_, key_str hz⟩ with ⟨v, ⟨i, hi, e1, rfl⟩, _, r1⟩ | ⟨hn, _, r1⟩ <;> rcases h2.look kS Try.underlying53 (zero3 _) ⟨_, key_str hz⟩ with ⟨v', ⟨j, hj, e2, rfl⟩, _, r2⟩ | ⟨hn', _, r2⟩
  · have e : i = j := hd.ne hi hj (by rw [e1] at e2; simpa using e2)
    subst e
    exact ⟨_, _, r1, r2⟩
  · exact absurd ⟨i, hi, e1, rfl⟩ (hn' _)
  · exact absurd ⟨j, hj, e2, rfl⟩ (hn _)
  · exact ⟨_, _, r1, r2⟩
theorem wr_two {w : World} {b1 b2 n1 n2 : Nat} {l : List (ByteArray × ByteArray)} (h1 : MV w 57 b1 n1 (Rwr l)) (h2 : MV w 57 b2 n2 (Rwr l)) {key : Value} (hk : ∃ q, keyOf Try.prog 57 key = some q) :
    ∃ z : Bool, ∃ ok : Bool, (Instr.lookup 54 (.map (some b1)) key true).run Try.prog w = .ok (.tuple #[.bool z, .bool ok]) w ∧ (Instr.lookup 54 (.map (some b2)) key true).run Try.prog w = .ok (.tuple #[.bool z, .bool ok]) w := by
  rcases h1.look kV Try.underlying54 (zero4 _) hk with ⟨v, ⟨rfl, p, hp, e1⟩, _, r1⟩ | ⟨hn, _, r1⟩ <;> rcases h2.look kV Try.underlying54 (zero4 _) hk with ⟨v', ⟨rfl, p', hp', e2⟩, _, r2⟩ | ⟨hn', _, r2⟩
  · exact ⟨_, _, r1, r2⟩
  · exact absurd ⟨rfl, p, hp, e1⟩ (hn' _)
  · exact absurd ⟨rfl, p', hp', e2⟩ (hn _)
  · exact ⟨_, _, r1, r2⟩
set_option maxRecDepth 100000 in
set_option maxHeartbeats 16000000 in
theorem sstate_ok (B1 B2 N1 N2 b1 b2 : Nat) (a : Option Addr) (c : Nat) (us vs : List U) (w : World) (hok : Ok us) (hv : Ok vs) (h1 : BS B1 N1 w b1 vs) (h2 : BS B2 N2 w b2 vs) (h : USrc w.heap.size w (.slice a us.length c) us) (hn1 : N1 ≤ 200000000) :
    Calls Try.prog 12 #[.pointer (some ⟨b1, 0, none⟩), .pointer (some ⟨b2, 0, none⟩), .slice a us.length c] w fun e w' => e = .returned (.bool true) ∧ New w w' := by
  obtain ⟨uv1, pv1, m1, m2, m3, xs1, blk1, cap1, hb1⟩ := h1
  obtain ⟨uv2, pv2, n1, n2, n3, xs2, blk2, cap2, hb2⟩ := h2
  obtain ⟨ua1, uc1, rfl⟩ := own_shape hb1.hu
  obtain ⟨pa1, pc1, rfl⟩ := own_shape hb1.hp
  obtain ⟨ua2, uc2, rfl⟩ := own_shape hb2.hu
  obtain ⟨pa2, pc2, rfl⟩ := own_shape hb2.hp
  have H1 := Lib.hid hb1
  have H2 := Lib.hid hb2
  have HU := Lib.hid h
  have HK := Lib.hid hok
  have HV := Lib.hid hv
  have hl := hok.len
  have hvl := hv.len
  have hmm := @run_makeMap Try.prog
  clear hb1 hb2 h
  go_enter Try.func12, Try.ntmps12
  go_wp2_with fail
  refine (fields_ok b1 ua1 pa1 vs.length vs.length uc1 pc1 m1 m2 m3 _ H1.out.cells).mono ?_
  rintro e w1 ⟨rfl, hN1⟩
  have HN1 := Lib.hid hN1
  clear hN1
  go_wp2_with fail
  refine (fields_ok b2 ua2 pa2 vs.length vs.length uc2 pc2 n1 n2 n3 _ (H2.out.new HN1.out).cells).mono ?_
  rintro e w2 ⟨rfl, hN2⟩
  have HN2 : Hid (New w w2) := Lib.hid (HN1.out.trans hN2)
  clear hN2 HN1
  go_wp2_with fail
  go_loopw [17] (fun i W => ∃ k : Nat, k ≤ vs.length ∧ i = .int .i64 k ∧ Hid (New w W)) (fun i _ => vs.length - (intOf i).toNat)
  case atStart => exact ⟨0, by omega, rfl, HN2⟩
  case round =>
    obtain ⟨k, hk, rfl, HW⟩ := hrel
    by_cases hlt : k < vs.length
    · have q1 := H1.out.new HW.out
      have q2 := H2.out.new HW.out
      obtain ⟨gu1, cu1, eu, _⟩ := own_some q1.hu (by omega)
      cases eu
      obtain ⟨gu2, cu2, eu, _⟩ := own_some q2.hu (by omega)
      cases eu
      obtain ⟨ra, rc, wa, wk, o1, o2, hc1, _, _⟩ := q1.ks.unit rfl hlt
      obtain ⟨ra', rc', wa', wk', o3, o4, hc2, _, _⟩ := q2.ks.unit rfl hlt
      have hcs := cost_step hlt
      have hct := cost_take vs (k + 1)
      have hcc := HV.out.cost
      obtain ⟨u, hu⟩ : ∃ u, u = vs[k] := ⟨_, rfl⟩
      rw [← hu] at o1 o2 o3 o4 hc1 hc2 hcs
      have l1 : u.reads.length ≤ 1048576 := by omega
      have l2 : u.writes.length ≤ 1048576 := by omega
      have HO := Lib.hid (And.intro o1 (And.intro o2 (And.intro o3 o4)))
      obtain ⟨x0, x1, x2, x3, x4, x5, x6, x7, x8, x9⟩ := ten_cells hc1
      obtain ⟨y0, y1, y2, y3, y4, y5, y6, y7, y8, y9⟩ := ten_cells hc2
      clear hu q1 q2 o1 o2 o3 o4 hc1 hc2 hcs hct hcc
      go_upto_region 8 with fail
      go_cut [81] (fun b W => b = .bool false ∧ Hid (New w W))
      case first =>
        go_region_with (go_at_call 27; refine (sunit_ok B1 B2 u ra wa ra' wa' rc wk rc' wk' _ l1 l2 ?_ ?_ ?_ ?_).mono ?_; exact HO.out.1; exact HO.out.2.1; exact HO.out.2.2.1; exact HO.out.2.2.2; rintro e w5 ⟨rfl, hN5⟩; replace hN5 := Lib.hid (Kp.undrew hN5))
        all_goals
          go_wp2_with fail
          go_meet
          exact ⟨rfl, Lib.hid (HW.out.trans hN5.out)⟩
      case rest =>
        obtain ⟨rfl, HWc⟩ := hcut
        clear x0 x1 x2 x3 x4 x5 x6 x7 x8 x9 y0 y1 y2 y3 y4 y5 y6 y7 y8 y9
        go_wp2
        go_roundw
        case rel => exact ⟨k + 1, by omega, by go_num, HWc⟩
        case measure => simp [intOf]; omega
    · clear hk
      have q1 := H1.out.new HW.out
      have q2 := H2.out.new HW.out
      have HP := Lib.hid (And.intro q1.hp q2.hp)
      clear q1 q2
      go_wp2_with fail
      refine (sstr_n B1 B2 pc1 pc2 pa1 pa2 (vs.map fun u => u.place) _ (by rw [List.length_map]) ?_ ?_ (by omega)).mono ?_
      · rw [List.map_map]; exact HP.out.1
      · rw [List.map_map]; exact HP.out.2
      rintro e w3 ⟨rfl, hN3⟩
      have HN3 : Hid (New w w3) := Lib.hid (HW.out.trans hN3)
      clear hN3 HP HW
      obtain ⟨t1, _, ht1⟩ := len_two kS (H1.out.new HN3.out).mat (H2.out.new HN3.out).mat Try.underlying53 (fun k => Iff.rfl)
      obtain ⟨t2, _, ht2⟩ := len_two kV (H1.out.new HN3.out).mwr (H2.out.new HN3.out).mwr Try.underlying54 (fun k => Iff.rfl)
      obtain ⟨t3, _, ht3⟩ := len_two kS (H1.out.new HN3.out).mrd.map (H2.out.new HN3.out).mrd.map Try.underlying55 (fun k => ⟨fun ⟨v, c, e1, e2, _⟩ => ⟨_, c, e1, e2, rfl⟩, fun ⟨v, c, e1, e2, _⟩ => ⟨_, c, e1, e2, rfl⟩⟩)
      have a1 := fun ty => (ht1 ty).1
      have a2 := fun ty => (ht1 ty).2
      have a3 := fun ty => (ht2 ty).1
      have a4 := fun ty => (ht2 ty).2
      have a5 := fun ty => (ht3 ty).1
      have a6 := fun ty => (ht3 ty).2
      clear ht1 ht2 ht3
      go_wp2_with fail
      clear a1 a2 a3 a4 a5 a6
      go_loopw [18] (fun i W => ∃ k : Nat, k ≤ us.length ∧ i = .int .i64 k ∧ Hid (New w W)) (fun i _ => us.length - (intOf i).toNat)
      case atStart => exact ⟨0, by omega, rfl, HN3⟩
      case round =>
        obtain ⟨i, hi, rfl, HWi⟩ := hrel
        by_cases hli : i < us.length
        · obtain ⟨b, o, ra, rc, wa, wk, eb, hb, d0, d1, d2, d3, hr, hs⟩ := HU.out.at (New.below HWi.out) hli
          cases eb
          have zk := HK.out.sz _ (List.getElem_mem hli)
          obtain ⟨u, hu⟩ : ∃ u, u = us[i] := ⟨_, rfl⟩
          rw [← hu] at d0 d1 d2 d3 hr hs zk
          have HUE := Lib.hid hu
          have HZ := Lib.hid zk
          have hwl : u.writes.length ≤ 9223372036854775807 := zk.2.2.2.1
          obtain ⟨z, ok, r1, r2⟩ := at_two HV.out.dist (H1.out.new HWi.out).mat (H2.out.new HWi.out).mat (show u.id.size ≤ maxLen from zk.1)
          clear hu hr hs zk d1 d2
          go_wp2_with fail
          clear r1 r2 d0 d3
          go_loopw [24] (fun s W => ∃ j : Nat, j ≤ u.writes.length ∧ s = .int .i64 j ∧ Hid (New w W)) (fun s _ => u.writes.length - (intOf s).toNat)
          case atStart => exact ⟨0, by omega, rfl, HWi⟩
          case round =>
            obtain ⟨j, hj, rfl, HWj⟩ := hrel
            obtain ⟨b, o, ra, rc, wa, wk, eb, hb, d0, d1, d2, d3, hr, hs⟩ := HU.out.at (New.below HWj.out) hli
            cases eb
            rw [← HUE.out] at d0 d1 d2 d3 hr hs
            by_cases hlj : j < u.writes.length
            · obtain ⟨b', o', eb, hb', e3⟩ := hs.at (Below.refl _ _) hlj
              cases eb
              have zs := HZ.out.2.2.2.2.2 _ (List.getElem_mem hlj)
              obtain ⟨s, hss⟩ : ∃ s, s = u.writes[j] := ⟨_, rfl⟩
              rw [← hss] at e3 zs
              have HKEY := Lib.hid (key_ver (a := u.id) (b := s) (show u.id.size ≤ maxLen from HZ.out.1) (show s.size ≤ maxLen from zs))
              clear hss zs hr hs d0 d1 d2
              go_upto_region 26 with (go_at_call 20; refine (ver_ok u.id s _).mono ?_; rintro e w5 ⟨rfl, hN5⟩; replace hN5 := Lib.hid hN5)
              obtain ⟨w6, hw6⟩ : ∃ X, X = w5.alloc (.cells #[.string u.id, .string s] 57) := ⟨_, rfl⟩
              rw [← hw6]
              obtain ⟨g6, hg6⟩ : ∃ g, g = w5.heap.size := ⟨_, rfl⟩
              rw [← hg6]
              have x0 : w6.cell? ⟨g6, 0, none⟩ = some (.string u.id) := by rw [hw6, hg6]; exact cell_of_row _ _ _ _ _ _ (heap_alloc_new _ _)
              have x1 : w6.cell? ⟨g6, 1, none⟩ = some (.string s) := by rw [hw6, hg6]; exact cell_of_row _ _ _ _ _ _ (heap_alloc_new _ _)
              have HW6 : Hid (New w w6) := Lib.hid ((HWj.out.trans hN5.out).trans (by rw [hw6]; exact (Kp.refl _ _).alloc _))
              obtain ⟨y, ok2, r3, r4⟩ := wr_two (H1.out.new HW6.out).mwr (H2.out.new HW6.out).mwr HKEY.out
              clear hw6 hg6 hN5 HKEY e3 d3
              go_wp2
              go_roundw
              case rel => exact ⟨j + 1, by omega, by go_num, HW6⟩
              case measure => simp [intOf]; omega
            · clear hr hs d0 d1 d2
              go_wp2
              go_roundw
              case rel => exact ⟨i + 1, by omega, by go_num, HWj⟩
              case measure => simp [intOf]; omega
        · clear hi
          go_wp2_with fail
          obtain ⟨ms, hms⟩ : ∃ g, g = wr.heap.size := ⟨_, rfl⟩
          rw [← hms]
          have HM0 : Hid (MV (wr.alloc (.map #[] 0)) 9 ms 0 (fun _ _ => False)) := Lib.hid (by rw [hms]; exact mv_made _ _)
          have HMS : Hid (w.heap.size ≤ ms) := Lib.hid (by rw [hms]; exact HWi.out.size)
          have HW0 : Hid (New w (wr.alloc (.map #[] 0))) := Lib.hid (HWi.out.alloc _)
          clear hms HWi
          go_loopw [31] (fun s W => ∃ i n : Nat, ∃ R, i ≤ us.length ∧ s = .int .i64 i ∧ Hid (n ≤ (cl (us.take i)).length) ∧ Hid (MV W 9 ms n R ∧ ∀ k v, R k v → v = .bool true) ∧ Hid (New w W)) (fun s _ => us.length - (intOf s).toNat)
          case atStart => exact ⟨0, 0, _, by omega, rfl, Lib.hid (Nat.zero_le _), Lib.hid ⟨HM0.out, fun _ _ h => h.elim⟩, HW0⟩
          case round =>
            obtain ⟨i, n, R, hi, rfl, HNn, HM, HWi⟩ := hrel
            clear HM0 HW0
            by_cases hli : i < us.length
            · have zk := HK.out.sz _ (List.getElem_mem hli)
              obtain ⟨u, hu⟩ : ∃ u, u = us[i] := ⟨_, rfl⟩
              rw [← hu] at zk
              have HUE := Lib.hid hu
              have HZ := Lib.hid zk
              have hrl : u.reads.length ≤ 9223372036854775807 := zk.2.2.1
              clear hu zk
              go_wp2_with fail
              go_loopw [32] (fun s W => ∃ j n : Nat, ∃ R, j ≤ u.reads.length ∧ s = .int .i64 j ∧ Hid (n ≤ (cl (us.take i)).length + j) ∧ Hid (MV W 9 ms n R ∧ ∀ k v, R k v → v = .bool true) ∧ Hid (New w W)) (fun s _ => u.reads.length - (intOf s).toNat)
              case atStart => exact ⟨0, n, R, by omega, rfl, HNn, HM, HWi⟩
              case round =>
                clear HNn HM HWi
                obtain ⟨j, n, R, hj, rfl, HNn, HM, HWj⟩ := hrel
                obtain ⟨b, o, ra, rc, wa, wk, eb, hb, d0, d1, d2, d3, hr, hs⟩ := HU.out.at (New.below HWj.out) hli
                cases eb
                rw [← HUE.out] at d0 d1 d2 d3 hr hs
                by_cases hlj : j < u.reads.length
                · obtain ⟨b', o', eb, hb', e3, e4⟩ := hr.at (Below.refl _ _) hlj
                  cases eb
                  have zs := (HZ.out.2.2.2.2.1 _ (List.getElem_mem hlj)).2
                  obtain ⟨s, hss⟩ : ∃ s, s = (u.reads[j]).2 := ⟨_, rfl⟩
                  rw [← hss] at e4 zs
                  have HNB : Hid (n < maxLen) := Lib.hid (by
                    have h1 := cl_len (us.take i)
                    have h2 := cost_lens (us.take i)
                    have h3 := cost_take us i
                    have h4 := HK.out.cost
                    have h5 := HNn.out
                    have h6 := cost_step hli
                    rw [← HUE.out] at h6
                    have h7 := cost_take us (i + 1)
                    unfold maxLen; omega)
                  clear hss hr hs d0 d1 d3 e3
                  rcases HM.out.1.look kS Try.underlying51 (zero4 _) ⟨_, key_str zs⟩ with ⟨v, hv, r1, _⟩ | ⟨hn, r1, _⟩
                  · have e := HM.out.2 _ _ hv
                    subst e
                    clear hv
                    go_wp2
                    go_roundw
                    case rel => exact ⟨j + 1, n, R, by omega, by go_num, Lib.hid (by have := HNn.out; omega), HM, HWj⟩
                    case measure => simp [intOf]; omega
                  · obtain ⟨w6, hst, hm6, ht6⟩ := HM.out.1.store kS Try.underlying51 HNB.out ⟨_, key_str zs⟩ (.bool true)
                    have HW6 : Hid (New w w6) := Lib.hid (HWj.out.turned ht6 (.inl HMS.out))
                    have HM6 : Hid (MV w6 9 ms (n + 1) (putR R (.string s) (.bool true)) ∧ ∀ k v, putR R (.string s) (.bool true) k v → v = .bool true) := Lib.hid ⟨hm6, fun k v h => by
                      rcases h with ⟨_, h⟩ | ⟨_, h⟩
                      · exact h
                      · exact HM.out.2 k v h⟩
                    obtain ⟨v1, k1, o1, _⟩ := rd_look (H1.out.new HW6.out).mrd zs
                    obtain ⟨v2, k2, o2, _⟩ := rd_look (H2.out.new HW6.out).mrd zs
                    have r2 := (k1 w6 (Kp.refl _ _)).2
                    have r3 := (k2 w6 (Kp.refl _ _)).2
                    obtain ⟨f1, g1, rfl⟩ := own_shape o1
                    obtain ⟨f2, g2, rfl⟩ := own_shape o2
                    have hll : (rd (pl vs) s).length ≤ 1000000 := by
                      have h1 : (rd (pl vs) s).length ≤ (pl vs).length := by unfold rd; rw [List.length_map]; exact List.length_filter_le _ _
                      have h2 := cost_lens vs
                      have h4 := HV.out.cost
                      omega
                    obtain ⟨qb, hqb⟩ : ∃ b, b = decide (rd (pl vs) s ≠ []) := ⟨_, rfl⟩
                    rw [← hqb] at r2 r3
                    obtain ⟨ids, hids⟩ : ∃ l, l = rd (pl vs) s := ⟨_, rfl⟩
                    rw [← hids] at r2 r3 o1 o2 hll
                    have HO := Lib.hid (And.intro o1 o2)
                    clear hids hqb o1 o2 k1 k2 hn hm6 ht6 HM HNB HWj
                    go_wp2_with fail
                    refine (sstr_n B1 B2 g1 g2 f1 f2 ids _ rfl HO.out.1 HO.out.2 hll).mono ?_
                    rintro e w7 ⟨rfl, hN7⟩
                    have HM7 := Lib.hid (And.intro (HM6.out.1.kp hN7 (fun h => h)) HM6.out.2)
                    have HW7 : Hid (New w w7) := Lib.hid (HW6.out.trans hN7)
                    clear hN7 HM6 HW6 HO r1 r2 r3 hst
                    go_wp2
                    go_roundw
                    case rel => exact ⟨j + 1, n + 1, _, by omega, by go_num, Lib.hid (by have := HNn.out; omega), HM7, HW7⟩
                    case measure => simp [intOf]; omega
                · have hjj : j = u.reads.length := by omega
                  have HNe : Hid (n ≤ (cl (us.take (i + 1))).length) := Lib.hid (by
                    rw [cl_snoc hli, ← HUE.out, List.length_append, List.length_map, ← hjj]
                    exact HNn.out)
                  clear hr hs d0 d1 d3 hjj
                  go_wp2
                  go_roundw
                  case rel => exact ⟨i + 1, n, R, by omega, by go_num, HNe, HM, HWj⟩
                  case measure => simp [intOf]; omega
            · go_wp2
              go_ret
              exact ⟨rfl, HWi.out⟩
end Go.Proofs.Qxb6600552a.kt
