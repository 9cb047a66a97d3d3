/-
  'FnKeepTwiceKeepsTheShorterSuffix': the law's own walk.
-/
import Derived.Test.Qxb6600552aSc
import Derived.Test.Qxb6600552aDd
set_option linter.unusedVariables false
set_option linter.unusedSimpArgs false
namespace Go.Proofs.Qxb6600552a.kt
open Go.ChangeShapes Go.WideShapes Go.RowKit Go.Maps

theorem Ok.drop {us : List U} (h : Ok us) (d : Nat) : Ok (us.drop d) := by
  refine ⟨by rw [List.length_drop]; have := h.len; omega, ?_, fun i j hi hj hij hjk => ?_, fun u hu => h.sz u (List.mem_of_mem_drop hu)⟩
  · have e := List.take_append_drop d us
    have h2 : _root_.Go.Proofs.Qxb6600552a.kt.cost us = _root_.Go.Proofs.Qxb6600552a.kt.cost (us.take d) + _root_.Go.Proofs.Qxb6600552a.kt.cost (us.drop d) := by
      unfold _root_.Go.Proofs.Qxb6600552a.kt.cost
      rw [← List.sum_append, ← List.map_append, e]
    have := h.cost
    omega
  · rw [List.length_drop] at hi hj
    rw [List.getElem_drop, List.getElem_drop]
    exact h.dist (d + i) (d + j) (by omega) (by omega) (by omega) (by omega)
theorem KS.bst {B Bk N bb m1 m2 m3 : Nat} {W : World} {us : List U} {uv pv : Value} {xs : List UV} {blk cap : ByteArray → Nat} (h : KS B Bk W bb us uv pv m1 m2 m3 xs blk cap (_root_.Go.Proofs.Qxb6600552a.kt.rd (pl us)) (Rat us) (Rwr (wl us)) N N N) : BSt B N W bb us uv pv m1 m2 m3 xs blk cap :=
  ⟨h.cells, h.hxs, h.hu, h.hp, fun x hx => (h.hx x hx).imp fun g _ hg => hg.1, fun g hg => (h.iu g hg).1, fun g hg => (h.ip g hg).1, h.mat, h.mwr, h.mrd, h.ge, h.ne, h.fre⟩
/-- a builder stays what it is while newer blocks are written -/
theorem BS.below {B N bb : Nat} {w w' : World} {us : List U} (h : BS B N w bb us) (hb : Below w.heap.size w w') : BS B N w' bb us := by
  obtain ⟨uv, pv, m1, m2, m3, xs, blk, cap, hb1⟩ := h
  exact ⟨uv, pv, m1, m2, m3, xs, blk, cap, (hb1.ks.keep (Kp.of_below hb fun k _ h => h)).bst⟩
theorem drop_two (us : List U) (A C : Nat) : (us.drop (us.length - A)).drop ((us.drop (us.length - A)).length - C) = us.drop (us.length - min A C) := by
  rw [List.drop_drop, List.length_drop]
  congr 1
  omega
set_option maxHeartbeats 8000000 in
theorem law_ok (a : Option Addr) (c : Nat) (us : List U) (na nc : Int) (w : World) (hl : us.length ≤ 9223372036854775807) (hna : na ≤ 9223372036854775807) (hnc : nc ≤ 9223372036854775807) (h : USrc w.heap.size w (.slice a us.length c) us) (hz : ∀ u, u ∈ us → Sz u) :
    Calls Try.prog 4 #[.slice a us.length c, .int .i64 na, .int .i64 nc] w fun e w' => e = .returned (.bool true) ∧ Below w.heap.size w w' := by
  have HU := Lib.hid h
  have HZ := Lib.hid hz
  clear h hz
  go_enter Try.func4, Try.ntmps4
  go_wp2_with fail
  refine (bytes_ok a c us na nc w hl HU.out HZ.out).mono ?_
  rintro e w' ⟨b, rfl, hW⟩
  replace hW := hW.symm
  subst hW
  cases b with
  | false =>
    go_wp2
    go_ret
    exact ⟨rfl, Below.refl _ _⟩
  | true =>
  by_cases g0 : us.length ≤ 65536
  case neg =>
    go_wp2
    go_ret
    exact ⟨rfl, Below.refl _ _⟩
  go_wp2_with fail
  refine (fits_ok a c us w g0 HU.out HZ.out).mono ?_
  rintro e w1 ⟨b, rfl, hfit, hN1⟩
  have HN1 := Lib.hid hN1
  clear hN1
  cases b with
  | false =>
    clear hfit
    go_wp2
    go_ret
    exact ⟨rfl, New.below HN1.out⟩
  | true =>
  have HF := Lib.hid (hfit rfl)
  clear hfit
  by_cases ga : na < 0
  · go_wp2
    go_ret
    exact ⟨rfl, New.below HN1.out⟩
  by_cases gc : nc < 0
  · go_wp2
    go_ret
    exact ⟨rfl, New.below HN1.out⟩
  obtain ⟨A, rfl⟩ : ∃ A : Nat, na = (A : Int) := ⟨na.toNat, by omega⟩
  obtain ⟨C, rfl⟩ : ∃ C : Nat, nc = (C : Int) := ⟨nc.toNat, by omega⟩
  have HU1 := Lib.hid (HU.out.below (New.below HN1.out) HN1.out.size)
  go_wp2_with fail
  refine (dist_ok a c us w1 g0 HU1.out HZ.out).mono ?_
  rintro e w2 ⟨b, rfl, hdis, hN2⟩
  have HN2 : Hid (New w w2) := Lib.hid (HN1.out.trans hN2)
  clear hN2 HU1 HN1
  cases b with
  | false =>
    clear hdis
    go_wp2
    go_ret
    exact ⟨rfl, New.below HN2.out⟩
  | true =>
  have HOK : Hid (Ok us) := Lib.hid ⟨g0, HF.out, hdis rfl, HZ.out⟩
  clear hdis HF
  have HU2 := Lib.hid (HU.out.below (New.below HN2.out) HN2.out.size)
  go_wp2_with fail
  refine (build_ok a c us w2 HOK.out HU2.out).mono ?_
  rintro e w3 ⟨bb, rfl, hbs3, hN3⟩
  have HBS3 := Lib.hid hbs3
  have HB3 : Hid (Below w2.heap.size w2 w3) := Lib.hid (New.below hN3)
  clear hbs3 hN3
  go_wp2_with fail
  refine (keep_ok w2.heap.size 1000000 bb us A w3 HOK.out (by omega) (by omega) HBS3.out).mono ?_
  rintro e w4 ⟨rfl, hbs4, hb4⟩
  have HBS4 := Lib.hid hbs4
  have HB4 : Hid (Below w2.heap.size w2 w4) := Lib.hid (HB3.out.trans hb4)
  clear hbs4 hb4 HBS3 HB3
  go_wp2_with fail
  refine (keep_ok w2.heap.size 3000000 bb (us.drop (us.length - A)) C w4 (HOK.out.drop _) (by omega) (by omega) HBS4.out).mono ?_
  rintro e w5 ⟨rfl, hbs5, hb5⟩
  have HBS5 : Hid (BS w2.heap.size 5000000 w5 bb (us.drop (us.length - min A C))) := Lib.hid (by rw [← drop_two]; exact hbs5)
  have HB5 : Hid (Below w2.heap.size w2 w5) := Lib.hid (HB4.out.trans hb5)
  clear hbs5 hb5 HBS4 HB4
  have HU5 := Lib.hid (HU.out.below ((New.below HN2.out).trans (HB5.out.mono HN2.out.size)) (Nat.le_trans HN2.out.size HB5.out.size))
  by_cases gm : C < A
  · have hmin : Hid (min A C = C) := Lib.hid (by omega)
    go_wp2_with fail
    refine (build_ok a c us w5 HOK.out HU5.out).mono ?_
    rintro e w6 ⟨b2, rfl, hbs6, hN6⟩
    have HBS6 := Lib.hid hbs6
    have HB6 : Hid (Below w5.heap.size w5 w6) := Lib.hid (New.below hN6)
    clear hbs6 hN6
    go_wp2_with fail
    refine (keep_ok w5.heap.size 1000000 b2 us C w6 HOK.out (by omega) (by omega) HBS6.out).mono ?_
    rintro e w7 ⟨rfl, hbs7, hb7⟩
    have HBS7 : Hid (BS w5.heap.size 3000000 w7 b2 (us.drop (us.length - min A C))) := Lib.hid (by rw [hmin.out]; exact hbs7)
    have HB7 : Hid (Below w5.heap.size w5 w7) := Lib.hid (HB6.out.trans hb7)
    clear hbs7 hb7 HBS6 HB6
    have HA : Hid (BS w2.heap.size 5000000 w7 bb (us.drop (us.length - min A C))) := Lib.hid (HBS5.out.below HB7.out)
    have HB8 : Hid (Below w.heap.size w w7) := Lib.hid (((New.below HN2.out).trans (HB5.out.mono HN2.out.size)).trans (HB7.out.mono (Nat.le_trans HN2.out.size HB5.out.size)))
    have HU7 := Lib.hid (HU.out.below HB8.out HB8.out.size)
    go_wp2_with fail
    refine (sstate_ok w2.heap.size w5.heap.size 5000000 3000000 bb b2 a c us _ w7 HOK.out (HOK.out.drop _) HA.out HBS7.out HU7.out (by omega)).mono ?_
    rintro e w8 ⟨rfl, hN8⟩
    have HB9 : Hid (Below w.heap.size w w8) := Lib.hid (HB8.out.trans ((New.below hN8).mono HB8.out.size))
    clear hN8
    go_wp2
    go_ret
    exact ⟨rfl, HB9.out⟩
  · have hmin : Hid (min A C = A) := Lib.hid (by omega)
    go_wp2_with fail
    refine (build_ok a c us w5 HOK.out HU5.out).mono ?_
    rintro e w6 ⟨b2, rfl, hbs6, hN6⟩
    have HBS6 := Lib.hid hbs6
    have HB6 : Hid (Below w5.heap.size w5 w6) := Lib.hid (New.below hN6)
    clear hbs6 hN6
    go_wp2_with fail
    refine (keep_ok w5.heap.size 1000000 b2 us A w6 HOK.out (by omega) (by omega) HBS6.out).mono ?_
    rintro e w7 ⟨rfl, hbs7, hb7⟩
    have HBS7 : Hid (BS w5.heap.size 3000000 w7 b2 (us.drop (us.length - min A C))) := Lib.hid (by rw [hmin.out]; exact hbs7)
    have HB7 : Hid (Below w5.heap.size w5 w7) := Lib.hid (HB6.out.trans hb7)
    clear hbs7 hb7 HBS6 HB6
    have HA : Hid (BS w2.heap.size 5000000 w7 bb (us.drop (us.length - min A C))) := Lib.hid (HBS5.out.below HB7.out)
    have HB8 : Hid (Below w.heap.size w w7) := Lib.hid (((New.below HN2.out).trans (HB5.out.mono HN2.out.size)).trans (HB7.out.mono (Nat.le_trans HN2.out.size HB5.out.size)))
    have HU7 := Lib.hid (HU.out.below HB8.out HB8.out.size)
    go_wp2_with fail
    refine (sstate_ok w2.heap.size w5.heap.size 5000000 3000000 bb b2 a c us _ w7 HOK.out (HOK.out.drop _) HA.out HBS7.out HU7.out (by omega)).mono ?_
    rintro e w8 ⟨rfl, hN8⟩
    have HB9 : Hid (Below w.heap.size w w8) := Lib.hid (HB8.out.trans ((New.below hN8).mono HB8.out.size))
    clear hN8
    go_wp2
    go_ret
    exact ⟨rfl, HB9.out⟩
end Go.Proofs.Qxb6600552a.kt
