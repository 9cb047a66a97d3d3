/-
  'b1Build': the walk.
-/
import Derived.Test.Qxb6600552aBu
import Derived.Deep.RegionLaw
import Derived.Deep.DrawnRows
set_option linter.unusedVariables false
set_option linter.unusedSimpArgs false
namespace Go.Proofs.Qxb6600552a.kt
open Go.ChangeShapes Go.WideShapes Go.RowKit Go.Maps

theorem info43 : (Try.prog.info? 43).map (fun i => (i.zero, i.size, i.bytes)) = some (some (.agg #[e0, e0, e0, e0, e0, .pointer none, .pointer none, .pointer none, .slice none 0 0, .slice none 0 0]), 10, 152) := by kernel_rfl
theorem info9 : (Try.prog.info? 9).map (fun i => (i.zero, i.size, i.bytes)) = some (some e0, 1, 16) := by kernel_rfl
theorem cost_lens (us : List U) : (wl us).length * 8 + (pl us).length * 8 = cost us := by
  unfold wl pl cost
  induction us with
  | nil => rfl
  | cons u l ih =>
    simp only [List.flatMap_cons, List.length_append, List.length_map, List.map_cons, List.sum_cons] at ih ⊢
    omega
theorem cost_take (us : List U) (k : Nat) : cost (us.take k) ≤ cost us := by
  have e := List.take_append_drop k us
  have h : cost us = cost (us.take k) + cost (us.drop k) := by
    unfold cost
    rw [← List.sum_append, ← List.map_append, e]
  omega
theorem New.ext {w a b : World} {S : Nat → Prop} (h : New w a) (hk : Kp S a b) (hs : ∀ k, S k → w.heap.size ≤ k) : New w b :=
  ⟨hk.os.trans h.os, hk.tape.trans h.tape, hk.output.trans h.output, Nat.le_trans h.size hk.size, fun j hj _ => by
    rw [hk.block j (Nat.lt_of_lt_of_le hj h.size) (fun e => by have := hs j e; omega)]
    exact h.block j hj (fun h => h)⟩
/-- what is looked up before a reader is laid -/
theorem rd_look {B m N : Nat} {w : World} {L : ByteArray → List ByteArray} {blk cap : ByteArray → Nat} (h : RdSt B w m N L blk cap) {c : ByteArray} (hc : c.size ≤ maxLen) :
    ∃ v, (∀ X, New w X → (Instr.lookup 55 (.map (some m)) (.string c) false).run Try.prog X = .ok v X ∧ (Instr.lookup 55 (.map (some m)) (.string c) true).run Try.prog X = .ok (.tuple #[v, .bool (decide (L c ≠ []))]) X) ∧
      w.ownsRow B 9 1 v (L c).length ((L c).map Value.string) ∧ ((L c ≠ [] ∧ v.ownBlock = some (blk c)) ∨ (L c = [] ∧ v = .slice none 0 0)) := by
  by_cases hL : L c = []
  · refine ⟨.slice none 0 0, fun X hX => ?_, by rw [hL]; exact World.ownsRow_nil _ _ _ _, .inr ⟨hL, rfl⟩⟩
    rcases (h.map.kp hX (fun h => h)).look kS Try.underlying55 (zero26 _) ⟨_, key_str hc⟩ with ⟨v, ⟨d, e1, e2, _⟩, _⟩ | ⟨_, r1, r2⟩
    · cases e1; exact absurd hL e2
    · simp only [hL, ne_eq, not_true_eq_false, decide_false]; exact ⟨r1, r2⟩
  · refine ⟨.slice (some ⟨blk c, 0, none⟩) (L c).length (cap c), fun X hX => ?_, h.row c hL, .inl ⟨hL, rfl⟩⟩
    rcases (h.map.kp hX (fun h => h)).look kS Try.underlying55 (zero26 _) ⟨_, key_str hc⟩ with ⟨v, ⟨d, e1, e2, e3⟩, r1, r2⟩ | ⟨hn, _⟩
    · cases e1; subst e3; simp only [ne_eq, hL, not_false_eq_true, decide_true]; exact ⟨r1, r2⟩
    · exact absurd ⟨c, rfl, hL, rfl⟩ (hn _)

theorem step_append_run (w : World) {ops : Array Oper} {o : Oper} {a : Act} {K : Act → World → Prop} {Q : Exit → Act → World → Prop} {E : Prop} (hgd : o.guard = none) (s x : Operand) (t ty : TypeId)
    (ho : o.op = .call { callee := .builtin .append, args := #[s, x], argTypes := #[t, t] }) (hty : o.type = ty) (v xv v' : Value) (w' : World) (hs : a.eval s = v) (hx : a.eval x = xv)
    (hr : (Builtin.append_ #[t, t] ty #[v, xv]).run Try.prog w = .ok v' w') (h : K (a.put o.dst v') w') :
    if Region.wanted o (yielded ops a.tmps) = true then Oper.wp Try.prog o a w K Q else E := by
  have hw : Region.wanted o (yielded ops a.tmps) = true := by simp [Region.wanted, hgd]
  rw [if_pos hw]
  subst hty
  unfold Oper.wp execOp
  simp only [ho, resolve, invoke, builtin, Sem.run_bind, Sem.run_pure, Result.andThen_ok, List.map_toArray, List.map_cons, List.map_nil, hs, hx, hr]
  exact h

set_option maxRecDepth 100000 in
set_option maxHeartbeats 8000000 in
theorem build_ok (a : Option Addr) (c : Nat) (us : List U) (w : World) (hok : Ok us) (h : USrc w.heap.size w (.slice a us.length c) us) :
    Calls Try.prog 10 #[.slice a us.length c] w fun e w' => ∃ bb, e = .returned (.pointer (some ⟨bb, 0, none⟩)) ∧ BS w.heap.size 1000000 w' bb us ∧ New w w' := by
  obtain ⟨i43, hi43, hz430, hz431, hz432⟩ := info_parts info43
  obtain ⟨i9, hi9, hz90, hz91, hz92⟩ := info_parts info9
  have HU := Lib.hid h
  have HK := Lib.hid hok
  have hl := hok.len
  have hmm := @run_makeMap Try.prog
  clear h hok
  go_enter Try.func10, Try.ntmps10
  go_upto_region 6 with (at_make; first
    | (refine wpList_make_full _ rfl _ _ 52 rfl w.heap.size 43 i43 (.agg #[e0, e0, e0, e0, e0, .pointer none, .pointer none, .pointer none, .slice none 0 0, .slice none 0 0]) 10 Try.underlying52 hi43 hz430 hz431 .i64 .i64 us.length us.length us.length rfl rfl rfl rfl (by rw [hz432]; omega) (by unfold maxLen; omega) (Nat.le_refl _) ?_; intro w1 hown1 hg1)
    | (refine wpList_make_full _ rfl _ _ 26 rfl w.heap.size 9 i9 e0 1 Try.underlying26 hi9 hz90 hz91 .i64 .i64 us.length us.length us.length rfl rfl rfl rfl (by rw [hz92]; omega) (by unfold maxLen; omega) (by have := hg1.size; omega) ?_; intro w2 hown2 hg2))
  have HB0 : Hid (BL w (((w2.alloc (.map #[] 0)).alloc (.map #[] 0)).alloc (.map #[] 0)) us 0 [] [] w.heap.size w1.heap.size w2.heap.size (w2.heap.size + 1) (w2.heap.size + 1 + 1) [] (fun _ => 0) (fun _ => 0)) := Lib.hid (by
    have b1 : w.heap.size < w1.heap.size := (hown1.lt _ rfl).2
    have b2 : w1.heap.size < w2.heap.size := (hown2.lt _ rfl).2
    have n1 : New w w1 := (Kp.refl _ _).grown hg1 (by simp)
    have n2 : New w1 w2 := (Kp.refl _ _).grown hg2 (by simp)
    have n3 : New w2 (((w2.alloc (.map #[] 0)).alloc (.map #[] 0)).alloc (.map #[] 0)) := (((Kp.refl _ _).alloc _).alloc _).alloc _
    have e1 : (w2.alloc (.map #[] 0)).heap.size = w2.heap.size + 1 := by simp
    have e2 : ((w2.alloc (.map #[] 0)).alloc (.map #[] 0)).heap.size = w2.heap.size + 1 + 1 := by simp
    have p1 := (mv_made w2 9).kp (S := fun _ => False) (((Kp.refl _ _).alloc (.map #[] 0)).alloc (.map #[] 0)) (fun h => h)
    have p2 := (mv_made (w2.alloc (.map #[] 0)) 57).kp (S := fun _ => False) ((Kp.refl _ _).alloc (.map #[] 0)) (fun h => h)
    have p3 := mv_made ((w2.alloc (.map #[] 0)).alloc (.map #[] 0)) 9
    rw [e1] at p2
    rw [e2] at p3
    exact ⟨⟨⟨Nat.le_refl _, by omega, by omega, by omega, by omega⟩, ⟨by omega, by omega, by omega, by omega, by omega, by omega, by omega, by omega, by omega, by omega⟩⟩, (n1.trans n2).trans n3, rfl,
      ⟨_, ownsRow_kp (ownsRow_kp hown1 n2 (fun _ _ h => h)) n3 (fun _ _ h => h)⟩, ⟨_, ownsRow_kp hown2 n3 (fun _ _ h => h)⟩, (fun x hx => by cases hx), p1.congr (fun k v => ⟨fun h => h.elim, fun ⟨i, hi, _⟩ => by simp at hi⟩),
      p2.congr (fun k v => ⟨fun h => h.elim, fun ⟨_, p, hp, _⟩ => by cases hp⟩), rd_made p3, (fun c hc => absurd rfl hc), (fun c hc => absurd rfl hc), (fun c hc => absurd rfl hc), (fun c hc => absurd rfl hc)⟩)
  clear hown1 hg1 hown2 hg2
  go_cut [3, 4, 5, 6, 7, 8] (fun su sp sa sw sr si W => ∃ bu bp m1 m2 m3 blk cap, si = .int .i64 0 ∧ su = .slice (some ⟨bu, 0, none⟩) us.length us.length ∧ sp = .slice (some ⟨bp, 0, none⟩) us.length us.length ∧ sa = .map (some m1) ∧ sw = .map (some m2) ∧ sr = .map (some m3) ∧ Hid (BL w W us 0 [] [] bu bp m1 m2 m3 [] blk cap))
  case first =>
    go_wp2_with fail
    go_meet
    exact ⟨_, _, _, _, _, _, _, rfl, rfl, rfl, rfl, rfl, rfl, HB0⟩
  case rest =>
  clear HB0
  obtain ⟨bu, bp, m1, m2, m3, blk0, cap0, rfl, rfl, rfl, rfl, rfl, rfl, HB1⟩ := hcut
  go_wp2_with fail
  go_loopw [8] (fun i W => ∃ k : Nat, k ≤ us.length ∧ i = .int .i64 k ∧ ∃ xs blk cap, Hid (BL w W us k (wl (us.take k)) (pl (us.take k)) bu bp m1 m2 m3 xs blk cap)) (fun i _ => us.length - (intOf i).toNat)
  case atStart => exact ⟨0, by omega, rfl, [], blk0, cap0, HB1⟩
  case round =>
    obtain ⟨k, hk, rfl, xs, blk, cap, HB⟩ := hrel
    by_cases hlt : k < us.length
    · obtain ⟨b, o, ra, rc, wa, wk, eb, hb, d0, d1, d2, d3, hr, hs⟩ := HU.out.at (New.below HB.out.new) hlt
      cases eb
      have zk := HK.out.sz _ (List.getElem_mem hlt)
      have hcs := cost_step hlt
      have hct := cost_take us (k + 1)
      have hcc := HK.out.cost
      obtain ⟨u, hu⟩ : ∃ u, u = us[k] := ⟨_, rfl⟩
      rw [← hu] at d0 d1 d2 d3 hr hs zk hcs
      have hl1 : u.reads.length ≤ 1048576 := by omega
      have hl2 : u.writes.length ≤ 1048576 := by omega
      have HUE : Hid (u = us[k]) := Lib.hid hu
      have HRr := Lib.hid (hr.below (Below.refl _ _) HB.out.new.size)
      have HSs := Lib.hid (hs.below (Below.refl _ _) HB.out.new.size)
      have HZ := Lib.hid zk
      have HXL : Hid ((ucells xs).length = k * 10) := Lib.hid (by
        have e := congrArg List.length HB.out.hxs
        rw [List.length_map, List.length_take] at e
        rw [ucells_len]; omega)
      clear hu hr hs zk hcs hct hcc
      -- units[i] = b1ToUnit(us[i])
      go_wp2_with fail
      refine (toUnit_ok u ra wa rc wk _ HRr.out HSs.out hl1 hl2).mono ?_
      rintro e w3 ⟨xa, xn, xc, ya, yn, yc, rfl, hx1, hx2, hN3⟩
      have HX1 := Lib.hid hx1
      have HX2 := Lib.hid hx2
      have HN3 := Lib.hid hN3
      have HP3 := Lib.hid (HB.out.hu.kp hN3 (fun _ _ h => h))
      clear hx1 hx2 hN3 d0 d1 d2 d3 HRr HSs
      go_upto_region 10 with (refine wpList_store_part _ rfl 43 (.tmp 34) (.tmp 33) rfl w.heap.size 43 10 us.length bu us.length k (ucells xs) #[.string u.id, e0, e0, e0, e0, .pointer none, .pointer none, .pointer none, .slice xa xn xc, .slice ya yn yc] rfl rfl info43s rfl (by simp [Value.oneCell']) HP3.out HXL.out hlt ?_; intro w4 hp4 hk4)
      have HP4 := Lib.hid hp4
      have HK4 := Lib.hid hk4
      have HN4 : Hid (New w w4) := Lib.hid (New.ext (HB.out.new.trans HN3.out) hk4 (fun j e => by rw [e]; exact HB.out.five.ge.1))
      obtain ⟨b, o, ra, rc, wa, wk, eb, hb, d0, d1, d2, d3, hr, hs⟩ := HU.out.at (New.below HN4.out) hlt
      cases eb
      rw [← HUE.out] at d0 d1
      have hq4 := ((HB.out.hp.kp HN3.out (fun _ _ h => h)).kp hk4 (fun g hg => by cases hg; exact HB.out.five.ne.1.symm)).next hlt 0 (by omega)
      obtain ⟨⟨v0, n0⟩, f0⟩ := hq4
      rw [Nat.mul_one, Nat.add_zero] at n0 f0
      clear hp4 hk4 HP3 d0 d2 d3 hr hs
      -- places[i] = us[i].Place
      go_upto_region 11 with fail
      obtain ⟨w5, hw5⟩ : ∃ X, X = w4.setCell ⟨bp, k, none⟩ (.string u.place) := ⟨_, rfl⟩
      rw [← hw5]
      have HN5 : Hid (New w w5) := Lib.hid (by rw [hw5]; exact HN4.out.setCell (.inl HB.out.five.ge.2.1) _)
      have hm5 : MV w5 9 m1 k (Rat (us.take k)) := by
        have h1 := (HB.out.mat.kp HN3.out (fun h => h)).kp HK4.out (fun e => HB.out.five.ne.2.1 e.symm)
        rw [hw5]
        exact h1.kp (Kp.setCell (S := fun j => j = bp) (Kp.refl _ _) (.inr rfl) _) (fun e => HB.out.five.ne.2.2.2.2.1 e.symm)
      obtain ⟨w6, hst, hm6, ht6⟩ := hm5.store kS Try.underlying53 (show k < maxLen by unfold maxLen; omega) ⟨_, key_str (show u.id.size ≤ maxLen from HZ.out.1)⟩ (.int .i64 k)
      have HB6 : Hid (BL w w6 us (k + 1) (wl (us.take k)) (pl (us.take k)) bu bp m1 m2 m3 (xs ++ [⟨u, .slice xa xn xc, .slice ya yn yc⟩]) blk cap) := Lib.hid (by
        refine HB.out.unit HK.out.dist hlt (x := ⟨u, .slice xa xn xc, .slice ya yn yc⟩) HUE.out HN3.out HX1.out HX2.out HK4.out HP4.out ?_ ?_
        · rw [← HUE.out, ← hw5]; exact ht6
        · rw [← HUE.out]; exact hm6)
      obtain ⟨b, o, ra, rc, wa, wk, eb, hb, d0, d1', d2, d3, hr, hs⟩ := HU.out.at (New.below HN5.out) hlt
      cases eb
      rw [← HUE.out] at d0
      clear hw5 hm5 hm6 ht6 d1 d1' d2 d3 hr hs HN3 HP4 HK4 HN4 HX1 HX2 n0 f0 HB HXL
      -- at[us[i].ID] = i
      go_wp2_with fail
      obtain ⟨x, hx⟩ : ∃ x, x = (⟨u, .slice xa xn xc, .slice ya yn yc⟩ : UV) := ⟨_, rfl⟩
      rw [← hx] at HB6
      clear hx
      go_loopw [9] (fun j W => ∃ q : Nat, q ≤ u.writes.length ∧ j = .int .i64 q ∧ Hid (BL w W us (k + 1) (wl (us.take k) ++ (u.writes.take q).map fun y => (u.id, y)) (pl (us.take k)) bu bp m1 m2 m3 (xs ++ [x]) blk cap)) (fun j _ => u.writes.length - (intOf j).toNat)
      case atStart => exact ⟨0, by omega, rfl, by rw [List.take_zero, List.map_nil, List.append_nil]; exact HB6⟩
      case round =>
        obtain ⟨q, hq, rfl, HB⟩ := hrel
        obtain ⟨b, o, ra, rc, wa, wk, eb, hb, d0, d1, d2, d3, hr, hs⟩ := HU.out.at (New.below HB.out.new) hlt
        cases eb
        rw [← HUE.out] at d0 d1 d2 d3 hr hs
        have hvn : (wl (us.take k) ++ (u.writes.take q).map fun y => (u.id, y)).length < maxLen := by
          have h1 := cost_lens (us.take k)
          have h2 := cost_take us k
          have h3 := HK.out.cost
          rw [List.length_append, List.length_map, List.length_take]
          unfold maxLen; omega
        have HVN := Lib.hid hvn
        clear hvn
        by_cases hlq : q < u.writes.length
        · obtain ⟨b', o', eb, hb', e0'⟩ := hs.at (Below.refl _ _) hlq
          cases eb
          have zq := HZ.out.2.2.2.2.2 _ (List.getElem_mem hlq)
          have hsn : (wl (us.take k) ++ (u.writes.take (q + 1)).map fun y => (u.id, y)) = (wl (us.take k) ++ (u.writes.take q).map fun y => (u.id, y)) ++ [(u.id, u.writes[q])] := by
            rw [List.take_succ_eq_append_getElem hlq, List.map_append, List.append_assoc]; rfl
          obtain ⟨s, hss⟩ : ∃ s, s = u.writes[q] := ⟨_, rfl⟩
          rw [← hss] at e0' zq hsn
          have HKEY := Lib.hid (key_ver (a := u.id) (b := s) (show u.id.size ≤ maxLen from HZ.out.1) (show s.size ≤ maxLen from zq))
          have HSN := Lib.hid hsn
          clear hss zq hsn d1 d2 hr hs HB6
          go_wp2_with fail
          go_region_with (go_at_call 20; refine (ver_ok u.id s _).mono ?_; rintro e w7 ⟨rfl, hN7⟩; replace hN7 := Lib.hid (Kp.undrew hN7); obtain ⟨w8, hst8, hm8, ht8⟩ := (HB.out.mwr.kp hN7.out (fun h => h)).store kV Try.underlying54 HVN.out HKEY.out (.bool true); replace hm8 := Lib.hid hm8; replace ht8 := Lib.hid ht8)
          all_goals
            have HB8 := Lib.hid ((HB.out.keep hN7.out).write (p := (u.id, s)) ht8.out hm8.out)
            rw [← HSN.out] at HB8
            clear hm8 ht8 hN7 HB
            go_wp2
            go_roundw
            case rel => exact ⟨q + 1, by omega, by go_num, HB8⟩
            case measure => simp [intOf]; omega
        · have hqq : q = u.writes.length := by omega
          subst hqq
          have HB7 : Hid (BL w wr us (k + 1) (wl (us.take (k + 1))) (pl (us.take k) ++ (u.reads.take 0).map fun r => (r.2, u.id)) bu bp m1 m2 m3 (xs ++ [x]) blk cap) := Lib.hid (by
            have h := HB.out
            rw [List.take_length] at h
            rw [wl_snoc hlt, ← HUE.out, List.take_zero, List.map_nil, List.append_nil]
            exact h)
          clear HB HB6 d0 d1 d2 hr hs
          go_wp2_with fail
          go_loopw [10] (fun j W => ∃ q : Nat, q ≤ u.reads.length ∧ j = .int .i64 q ∧ ∃ blk cap, Hid (BL w W us (k + 1) (wl (us.take (k + 1))) (pl (us.take k) ++ (u.reads.take q).map fun r => (r.2, u.id)) bu bp m1 m2 m3 (xs ++ [x]) blk cap)) (fun j _ => u.reads.length - (intOf j).toNat)
          case atStart => exact ⟨0, by omega, rfl, blk, cap, HB7⟩
          case round =>
            obtain ⟨q, hq, rfl, blk, cap, HB⟩ := hrel
            obtain ⟨b, o, ra, rc, wa, wk, eb, hb, d0, d1, d2, d3, hr, hs⟩ := HU.out.at (New.below HB.out.new) hlt
            cases eb
            rw [← HUE.out] at d0 d1 d2 d3 hr hs
            by_cases hlq : q < u.reads.length
            · obtain ⟨b', o', eb, hb', e0', e1'⟩ := hr.at (Below.refl _ _) hlq
              cases eb
              have zq := HZ.out.2.2.2.2.1 _ (List.getElem_mem hlq)
              have hsn : (pl (us.take k) ++ (u.reads.take (q + 1)).map fun r => (r.2, u.id)) = (pl (us.take k) ++ (u.reads.take q).map fun r => (r.2, u.id)) ++ [((u.reads[q]).2, u.id)] := by
                rw [List.take_succ_eq_append_getElem hlq, List.map_append, List.append_assoc]; rfl
              have hpn : (pl (us.take k) ++ (u.reads.take q).map fun r => (r.2, u.id)).length ≤ 1000000 := by
                have h1 := cost_lens (us.take k)
                have h2 := cost_take us k
                have h3 := HK.out.cost
                have h4 := cost_take us (k + 1)
                have h5 := cost_step hlt
                rw [← HUE.out] at h5
                rw [List.length_append, List.length_map, List.length_take]
                omega
              obtain ⟨ps, hps⟩ : ∃ ps, ps = pl (us.take k) ++ (u.reads.take q).map fun r => (r.2, u.id) := ⟨_, rfl⟩
              rw [← hps] at HB hsn hpn
              obtain ⟨s, hss⟩ : ∃ s, s = (u.reads[q]).2 := ⟨_, rfl⟩
              rw [← hss] at e1' hsn
              have hcz : s.size ≤ maxLen := by rw [hss]; exact zq.2
              have HSN := Lib.hid hsn
              obtain ⟨v, hlook, hvrow, hvb⟩ := rd_look HB.out.mrd hcz
              have hrl : (rd ps s).length ≤ ps.length := by unfold rd; rw [List.length_map]; exact List.length_filter_le _ _
              have hA := hvrow.alloc (.cells #[.string u.id] 9)
              obtain ⟨v', w7, hap, hown', hgrow, _, hloc⟩ := run_append_own_at (P := Try.prog) (wr.drew.alloc (.cells #[.string u.id] 9)) w.heap.size 26 26 9 i9 e0 1 16 Try.underlying26 hi9 hz90 hz91 hz92 rfl (by decide) v (rd ps s).length ((rd ps s).map Value.string) hA ⟨wr.heap.size, 0, none⟩ 1 1 [.string u.id] rfl
                (cell_one_new wr _ _) (by intro x hx; rw [List.mem_singleton] at hx; rw [hx]; rfl) (by unfold maxLen; omega) (by omega) (by have := HB.out.new.size; simp; omega)
              have hn1 : New wr (wr.drew.alloc (.cells #[.string u.id] 9)) := ((Kp.refl _ _).drew).alloc _
              have hk7 : Kp (fun j => rd ps s ≠ [] ∧ j = blk s) wr w7 := (New.any hn1 _).grown hgrow fun j hj => by
                rcases hvb with ⟨h1, h2⟩ | ⟨h1, rfl⟩
                · rw [h2] at hj; cases hj; exact .inr ⟨h1, rfl⟩
                · cases hj
              have hm7 := HB.out.mrd.map.kp hk7 (fun ⟨h1, h2⟩ => HB.out.mrd.ne s h1 h2.symm)
              obtain ⟨w8, hst8, hm8, ht8⟩ := hm7.store kS Try.underlying55 (show ps.length < maxLen by unfold maxLen; omega) ⟨_, key_str hcz⟩ v'
              obtain ⟨blk', cap', hB8⟩ := HB.out.read hvb hn1 hgrow hown' hloc ht8 hm8
              have HB8 := Lib.hid hB8
              rw [← HSN.out] at HB8
              have hk1 := (hlook wr.drew ((Kp.refl _ _).drew)).1
              have hk2 : (Instr.lookup 55 (.map (some m3)) (.string s) false).run Try.prog (wr.alloc (.cells #[.string u.id] 9)).drew = .ok v (wr.alloc (.cells #[.string u.id] 9)).drew := (hlook _ hn1).1
              replace hap : (Builtin.append_ #[26, 26] 26 #[v, .slice (some ⟨wr.heap.size, 0, none⟩) 1 1]).run Try.prog (wr.alloc (.cells #[.string u.id] 9)).drew = .ok v' w7 := hap
              clear hps hss zq hsn hpn hcz hlook hvrow hvb hrl hA hown' hgrow hloc hn1 hk7 hm7 hm8 ht8 hB8 HB HB7 HSN d1 d3 hr hs e0'
              go_wp2
              go_region_law ((refine step_append_run _ (by rfl) _ _ 26 26 (by rfl) (by rfl) v _ v' w7 (by rfl) (by rfl) hap ?_))
              all_goals
                go_wp2
                go_roundw
                case rel => exact ⟨q + 1, by omega, by go_num, blk', cap', HB8⟩
                case measure => simp [intOf]; omega
            · have hqq : q = u.reads.length := by omega
              subst hqq
              have HB9 : Hid (BL w wr us (k + 1) (wl (us.take (k + 1))) (pl (us.take (k + 1))) bu bp m1 m2 m3 (xs ++ [x]) blk cap) := Lib.hid (by
                have h := HB.out
                rw [List.take_length] at h
                rw [pl_snoc hlt, ← HUE.out]
                exact h)
              clear HB HB7 d0 d1 d3 hr hs
              go_wp2
              go_roundw
              case rel => exact ⟨k + 1, by omega, by go_num, xs ++ [x], blk, cap, HB9⟩
              case measure => simp [intOf]; omega
    · have hkk : k = us.length := by omega
      subst hkk
      have HB9 : Hid (BL w wr us us.length (wl us) (pl us) bu bp m1 m2 m3 xs blk cap) := Lib.hid (by
        have h := HB.out
        rw [List.take_length] at h
        exact h)
      clear HB
      go_wp2_with fail
      refine (newb_ok _ _ _ _ _ _ _ _ _ _).mono ?_
      rintro e w9 ⟨rfl, rfl⟩
      have HD : Hid (BS w.heap.size 1000000 _ wr.heap.size us) := Lib.hid (HB9.out.done (by omega) (by have := cost_lens us; have := HK.out.cost; omega) (by have := cost_lens us; have := HK.out.cost; omega))
      go_wp2
      go_ret
      exact ⟨_, rfl, HD.out, HB9.out.new.alloc _⟩
end Go.Proofs.Qxb6600552a.kt
