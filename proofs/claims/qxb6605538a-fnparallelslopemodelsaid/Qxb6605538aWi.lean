/-
  'ZZParallelSlope': the walk.
-/
import Derived.Test.Qxb6605538aWh
import Derived.Deep.RegionWith
namespace Go.Proofs.Qxb6605538a.fl
open Go.ChangeShapes Go.WideShapes Go.RowKit
attribute [local go_sem] run_store_float

theorem info43 : (Try.prog.info? 43).map (fun i => (i.zero, i.size, i.bytes)) = some (some (.slice none 0 0), 1, 24) := by kernel_rfl

/-- the groups built so far -/
def KeptP (L : Nat) (W : World) (vs : List Value) (pss : List (List Pt)) : Prop :=
  ∀ i (h : i < vs.length) (h' : i < pss.length), (∃ a c, vs[i] = .slice a (pss[i]).length c) ∧ PSrc W.heap.size W vs[i] pss[i] ∧ Hi L vs[i]
theorem KeptP.below {L : Nat} {W W' : World} {vs : List Value} {pss : List (List Pt)} (h : KeptP L W vs pss) (hb : Below W.heap.size W W') : KeptP L W' vs pss := fun i h1 h2 => by
  obtain ⟨a, b, c⟩ := h i h1 h2
  exact ⟨a, b.below hb hb.size, c⟩
theorem KeptP.setCell {L : Nat} {W : World} {vs : List Value} {pss : List (List Pt)} (h : KeptP L W vs pss) {a : Addr} (ha : a.block < L) (u : Value) : KeptP L (W.setCell a u) vs pss := fun i h1 h2 => by
  obtain ⟨p, b, c⟩ := h i h1 h2
  rw [World.size_setCell]
  exact ⟨p, b.setCell c ha u, c⟩
theorem KeptP.snoc {L : Nat} {W : World} {vs : List Value} {pss : List (List Pt)} (h : KeptP L W vs pss) {v : Value} (hk : vs.length < pss.length) (hv : (∃ a c, v = .slice a (pss[vs.length]).length c) ∧ PSrc W.heap.size W v pss[vs.length] ∧ Hi L v) : KeptP L W (vs ++ [v]) pss := fun i h1 h2 => by
  by_cases hi : i < vs.length
  · rw [List.getElem_append_left hi]; exact h i hi h2
  · have e : i = vs.length := by simp at h1; omega
    subst e
    rw [List.getElem_append_right (Nat.le_refl _)]
    simpa using hv

/-- the three rows of a group -/
structure Rows3 (B : Nat) (w : World) (v0 v1 v2 : Value) (xss yss zss : List (List Nat)) : Prop where
  h0 : NSrc B w v0 xss
  h1 : NSrc B w v1 yss
  h2 : NSrc B w v2 zss
  e1 : yss.length = xss.length
  e2 : zss.length = xss.length
  f1 : ∀ k (a : k < xss.length) (b : k < yss.length), (yss[k]).length = (xss[k]).length
  f2 : ∀ k (a : k < xss.length) (b : k < zss.length), (zss[k]).length = (xss[k]).length
  l0 : xss.length ≤ 4096
  l1 : ∀ k (a : k < xss.length), (xss[k]).length ≤ 4096
/-- the groups' points -/
def Pss (xss yss zss : List (List Nat)) (pss : List (List Pt)) : Prop :=
  pss.length = xss.length ∧ ∀ k (a : k < xss.length) (b : k < yss.length) (c : k < zss.length) (d : k < pss.length), pss[k] = z3 xss[k] yss[k] zss[k]

theorem below_undrew {B : Nat} {a w : World} (h : Below B a.drew w) : Below B a w := ⟨h.os, h.tape, h.output, h.size, h.block⟩
theorem slot_ok {wr w2 : World} {g n k : Nat} {e : TypeId} {xs : List Value} (h : wr.ownsRow g e 1 (.slice (some ⟨g, 0, none⟩) n n) n xs) (hb : Below wr.heap.size wr w2) (hk : k < n) :
    (∃ u0, w2.cell? ⟨g, k, none⟩ = some u0) ∧ w2.frozen? ⟨g, k, none⟩ = false := by
  have h2 := ownsRow_below h hb (fun j hj => by cases hj; exact (h.lt g rfl).2)
  refine ⟨?_, h2.frozenAt k⟩
  rw [h2.cellAt k (by omega)]
  have : k < xs.length := by rw [h2.1]; omega
  exact ⟨_, List.getElem?_eq_getElem this⟩

theorem zz_put {w wr w2 : World} {n k : Nat} {vs : List Value} {pss : List (List Pt)} {X Y Z : List Nat} {v : Value}
    (h : wr.ownsRow w.heap.size 43 1 (.slice (some ⟨w.heap.size, 0, none⟩) n n) n (npart vs n)) (hK : KeptP (w.heap.size + 1) wr vs pss) (hb : Below w.heap.size w wr) (hb2 : Below wr.heap.size wr w2)
    (hP : PSrc w2.heap.size w2 v (z3 X Y Z)) (hv : v = .slice (some ⟨wr.heap.size, 0, none⟩) X.length X.length) (hk : k = vs.length) (hlt : k < n) (kp : k < pss.length) (eP : pss[k] = z3 X Y Z) (eY : Y.length = X.length) (eZ : Z.length = X.length) :
    (w2.setCell ⟨w.heap.size, k, none⟩ v).ownsRow w.heap.size 43 1 (.slice (some ⟨w.heap.size, 0, none⟩) n n) n (npart (vs ++ [v]) n) ∧ KeptP (w.heap.size + 1) (w2.setCell ⟨w.heap.size, k, none⟩ v) (vs ++ [v]) pss ∧
    Below w.heap.size w (w2.setCell ⟨w.heap.size, k, none⟩ v) ∧ ((vs ++ [v]).length : Int) = (k : Int) + 1 := by
  have hsz : w.heap.size < wr.heap.size := (h.lt w.heap.size rfl).2
  have hown2 := ownsRow_below h hb2 (fun g hg => by cases hg; exact hsz)
  subst hk
  refine ⟨?_, ?_, (hb.trans (hb2.mono (by omega))).setCell (by simp) _, by simp⟩
  · rw [← npart_set vs n _ hlt]
    exact (hown2.stored vs.length v).1
  · refine ((hK.below hb2).setCell (by simp) _).snoc kp ?_
    have hhi : Hi (w.heap.size + 1) v := fun a _ _ e => by rw [hv] at e; cases e; exact hsz
    refine ⟨⟨_, _, by rw [eP, z3_len eY eZ]; exact hv⟩, ?_, hhi⟩
    rw [eP, World.size_setCell]
    exact hP.setCell hhi (by simp) _

set_option maxHeartbeats 4000000 in
theorem zz_ok (a0 a1 a2 : Option Addr) (c0 c1 c2 : Nat) (pv : Value) (xss yss zss : List (List Nat)) (pss : List (List Pt)) (qs : List Gk) (w : World)
    (hr : Rows3 w.heap.size w (.slice a0 xss.length c0) (.slice a1 xss.length c1) (.slice a2 xss.length c2) xss yss zss) (hp : Pss xss yss zss pss)
    (hcall : ∀ W ad cap, Below w.heap.size w W → GSrc W.heap.size W (.slice ad xss.length cap) pss → Calls Try.prog 23 #[.slice ad xss.length cap, pv] W fun e w' => ∃ r, e = .returned (.float .f64 r) ∧ SlopeRes qs r ∧ Below W.heap.size W w') :
    Calls Try.prog 17 #[.slice a0 xss.length c0, .slice a1 xss.length c1, .slice a2 xss.length c2, pv] w fun e w' => ∃ r, e = .returned (.float .f64 r) ∧ SlopeRes qs r ∧ Below w.heap.size w w' := by
  obtain ⟨i0, hi, hz0, hz1, hz2⟩ := info_parts info43
  have HR := Lib.hid hr
  have HP := Lib.hid hp
  have HC := Lib.hid hcall
  obtain ⟨n, hn⟩ : ∃ n, n = xss.length := ⟨_, rfl⟩
  have hnl : n ≤ 4096 := by rw [hn]; exact hr.l0
  rw [← hn]
  rw [← hn] at HR HC
  have HN := Lib.hid hn
  clear hr hp hcall hn
  go_enter Try.func17, Try.ntmps17
  go_wp2_with (at_make; refine wpList_make_full _ rfl _ _ 45 rfl w.heap.size 43 i0 (.slice none 0 0) 1 Try.underlying45 hi hz0 hz1 .i64 .i64 n n n rfl rfl rfl rfl (by rw [hz2]; omega) (by unfold maxLen; omega) (Nat.le_refl _) ?_; intro w1 hown1 hg1)
  have R0 : w1.ownsRow w.heap.size 43 1 (.slice (some ⟨w.heap.size, 0, none⟩) n n) n (npart [] n) := by
    have e : (madeCells (Value.slice none 0 0).cells (n * 1)).toList = npart [] n := by
      rw [Nat.mul_one]; exact toList_madeCells_one _ _
    rw [e] at hown1
    exact hown1
  have hb1 : Below w.heap.size w w1 := (Below.refl _ _).grown hg1 (Nat.le_refl _) (by simp)
  clear hown1 hg1
  go_loopw [10] (fun i W => ∃ vs : List Value, vs.length ≤ n ∧ i = .int .i64 vs.length ∧ Hid (W.ownsRow w.heap.size 43 1 (.slice (some ⟨w.heap.size, 0, none⟩) n n) n (npart vs n)) ∧
    Hid (KeptP (w.heap.size + 1) W vs pss) ∧ Below w.heap.size w W) (fun i _ => n - (intOf i).toNat)
  case atStart => exact ⟨[], by simp, rfl, Lib.hid R0, Lib.hid (fun i h => by simp at h), hb1⟩
  case round =>
    obtain ⟨vs, hk, rfl, HO, HK, hb⟩ := hrel
    obtain ⟨k, hkk⟩ : ∃ k, k = vs.length := ⟨_, rfl⟩
    have HKK := Lib.hid hkk
    rw [← hkk] at hk ⊢
    by_cases hlt : k < n
    · have hr := HR.out
      have hN := HN.out
      have kx : k < xss.length := by omega
      have ky : k < yss.length := by rw [hr.e1]; omega
      have kz : k < zss.length := by rw [hr.e2]; omega
      have kp : k < pss.length := by rw [HP.out.1]; omega
      obtain ⟨b0, o0, x0, y0, eb, _, hc0, hf0⟩ := hr.h0.at hb kx
      cases eb
      obtain ⟨b1, o1, x1, y1, eb, _, hc1, hf1⟩ := hr.h1.at hb ky
      cases eb
      obtain ⟨b2, o2, x2, y2, eb, _, hc2, hf2⟩ := hr.h2.at hb kz
      cases eb
      rw [hr.f1 k kx ky] at hc1 hf1
      rw [hr.f2 k kx kz] at hc2 hf2
      have hll := hr.l1 k kx
      obtain ⟨X, hX⟩ : ∃ l, l = xss[k] := ⟨_, rfl⟩
      obtain ⟨Y, hY⟩ : ∃ l, l = yss[k] := ⟨_, rfl⟩
      obtain ⟨Z, hZ⟩ : ∃ l, l = zss[k] := ⟨_, rfl⟩
      have eY : Y.length = X.length := by rw [hX, hY]; exact hr.f1 k kx ky
      have eZ : Z.length = X.length := by rw [hX, hZ]; exact hr.f2 k kx kz
      have eP : pss[k] = z3 X Y Z := by rw [hX, hY, hZ]; exact HP.out.2 k kx ky kz kp
      rw [← hX] at hc0 hf0 hc1 hf1 hc2 hf2 hll
      rw [← hY] at hf1
      rw [← hZ] at hf2
      have F0 := Lib.hid (hf0.below (Below.refl w.heap.size wr) hb.size)
      have F1 := Lib.hid (hf1.below (Below.refl w.heap.size wr) hb.size)
      have F2 := Lib.hid (hf2.below (Below.refl w.heap.size wr) hb.size)
      have EY := Lib.hid eY
      have EZ := Lib.hid eZ
      have EP := Lib.hid eP
      have hsz : w.heap.size < wr.heap.size := (HO.out.lt w.heap.size rfl).2
      clear hr hN hX hY hZ eY eZ eP hf0 hf1 hf2 hkk kx ky kz
      go_wp2_with fail
      go_region_with (go_at_call 22; refine (points_ok x0 x1 x2 y0 y1 y2 X Y Z _ hll EY.out EZ.out ?_ ?_ ?_).mono ?_; exact F0.out; exact F1.out; exact F2.out; rintro e w2 ⟨rfl, hP2, hb2⟩; replace hb2 := Lib.hid (below_undrew hb2); replace hP2 := Lib.hid hP2; obtain ⟨⟨u0, hu0⟩, hfz⟩ := slot_ok HO.out hb2.out hlt)
      all_goals
        obtain ⟨p1, p2, p3, p4⟩ := zz_put HO.out HK.out hb hb2.out hP2.out rfl HKK.out hlt kp EP.out EY.out EZ.out
        replace p1 := Lib.hid p1
        replace p2 := Lib.hid p2
        replace p3 := Lib.hid p3
        replace p4 := Lib.hid p4
        clear HO HK hb hb2 hP2
        go_wp2
        go_roundw
        case rel => exact ⟨_, by have := p4.out; omega, by rw [p4.out]; try go_num, p1, p2, p3.out⟩
        case measure => simp [intOf]; omega
    · have hek : k = n := by omega
      have hG : GSrc wr.heap.size wr (.slice (some ⟨w.heap.size, 0, none⟩) n n) pss := by
        have hpl : pss.length = n := by rw [HP.out.1, ← HN.out]
        refine ⟨_, n, by rw [hpl], fun _ => ⟨w.heap.size, 0, rfl, (HO.out.lt w.heap.size rfl).2, fun i hi => ?_⟩⟩
        have hiv : i < vs.length := by rw [← HKK.out, hek, ← hpl]; exact hi
        obtain ⟨⟨a, c', e⟩, h2, _⟩ := HK.out i hiv hi
        refine ⟨a, c', ?_, by rw [← e]; exact h2⟩
        rw [Nat.zero_add, HO.out.cellAt i (by omega)]
        unfold npart
        rw [List.getElem?_append_left hiv, List.getElem?_eq_getElem hiv, e]
      have HG := Lib.hid hG
      clear hG HO HK hkk
      subst hek
      go_wp2_with fail
      refine (HC.out wr _ _ hb HG.out).mono ?_
      rintro e w2 ⟨r, rfl, hr, hb2⟩
      have HR2 := Lib.hid hr
      have hb3 : Below w.heap.size w w2 := hb.trans (hb2.mono hb.size)
      clear hr hb2 hb
      go_wp2
      go_ret
      exact ⟨r, rfl, HR2.out, hb3⟩
end Go.Proofs.Qxb6605538a.fl
