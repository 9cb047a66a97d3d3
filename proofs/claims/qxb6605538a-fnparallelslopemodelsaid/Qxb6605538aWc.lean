/-
  'weightedMean': the walk.
-/
import Derived.Test.Qxb6605538aWb
namespace Go.Proofs.Qxb6605538a.fl
open Go.ChangeShapes Go.WideShapes Go.RowKit
attribute [local go_sem] run_store_float

theorem below_drewN {B : Nat} {a w : World} (h : Below B a w) (n : Nat) : Below B a (w.drewN n) := ⟨h.os, h.tape, h.output, h.size, h.block⟩
def Box (w : World) (g : Nat) (p : Pt) : Prop := w.heap[g]? = some (.cells #[.float .f64 p.1, .float .f64 p.2.1, .float .f64 p.2.2] 48 (0, 0))
theorem Box.cells {w : World} {g : Nat} {p : Pt} (h : Box w g p) : w.cell? ⟨g, 0, none⟩ = some (.float .f64 p.1) ∧ w.cell? ⟨g, 1, none⟩ = some (.float .f64 p.2.1) ∧ w.cell? ⟨g, 2, none⟩ = some (.float .f64 p.2.2) ∧
    (∀ i, w.frozen? ⟨g, i, none⟩ = false) ∧ g < w.heap.size := by
  unfold Box at h
  refine ⟨by simp [World.cell?, h], by simp [World.cell?, h], by simp [World.cell?, h], fun i => by simp [World.frozen?, h], ?_⟩
  exact (Array.getElem?_eq_some_iff.1 h).1
theorem Box.put {w : World} {g : Nat} {p : Pt} (h : Box w g p) (q : Pt) : Box (((w.setCell ⟨g, 0, none⟩ (.float .f64 q.1)).setCell ⟨g, 1, none⟩ (.float .f64 q.2.1)).setCell ⟨g, 2, none⟩ (.float .f64 q.2.2)) g q := by
  unfold Box at *
  rw [heap_setCell_same _ _ _ _ _ _ (heap_setCell_same _ _ _ _ _ _ (heap_setCell_same _ _ _ _ _ _ h))]
  rfl
theorem Box.alloc {w : World} {g : Nat} {p : Pt} (h : Box w g p) (o : Obj) : Box (w.alloc o) g p := by
  unfold Box at *
  rw [Below.heap_alloc w o g (Array.getElem?_eq_some_iff.1 h).1]; exact h
theorem Box.new (w : World) (p : Pt) : Box (w.alloc (.cells #[.float .f64 p.1, .float .f64 p.2.1, .float .f64 p.2.2] 48)) w.heap.size p := by
  unfold Box World.alloc
  simp

/-- what a slice of points holds at a place, in a later world -/
theorem PSrc.at {w wr : World} {ad : Option Addr} {cap : Nat} {ps : List Pt} (h : PSrc w.heap.size w (.slice ad ps.length cap) ps) (hb : Below w.heap.size w wr) {k : Nat} (hk : k < ps.length) :
    ∃ b o, ad = some ⟨b, o, none⟩ ∧ b < w.heap.size ∧ wr.cell? ⟨b, o + k * 3, none⟩ = some (.float .f64 (ps[k]).1) ∧ wr.cell? ⟨b, o + k * 3 + 1, none⟩ = some (.float .f64 (ps[k]).2.1) ∧ wr.cell? ⟨b, o + k * 3 + 2, none⟩ = some (.float .f64 (ps[k]).2.2) := by
  obtain ⟨ad', cap', e1, hc⟩ := h
  obtain ⟨b, o, rfl, hbw, hcell⟩ := hc (by intro e; rw [e] at hk; simp at hk)
  cases e1
  obtain ⟨c1, c2, c3⟩ := hcell k hk
  exact ⟨b, o, rfl, hbw, by rw [hb.cell (p := ⟨b, o + k * 3, none⟩) hbw]; exact c1, by rw [hb.cell (p := ⟨b, o + k * 3 + 1, none⟩) hbw]; exact c2, by rw [hb.cell (p := ⟨b, o + k * 3 + 2, none⟩) hbw]; exact c3⟩

/-- the heaviest of the first k -/
def Hv (ps : List Pt) (k : Nat) (h : Pt) : Prop := h ∈ ps ∧ ∀ j (hj : j < ps.length), j < k → pw ps[j] ≤ pw h
theorem Hv.heavy {ps : List Pt} {h : Pt} (hh : Hv ps ps.length h) : Heavy ps h :=
  ⟨hh.1, fun p hp => by
    obtain ⟨j, hj, rfl⟩ := List.getElem_of_mem hp
    exact hh.2 j hj hj⟩
theorem Hv.keep {ps : List Pt} {k : Nat} {h : Pt} (hh : Hv ps k h) (hk : k < ps.length) (hle : pw ps[k] ≤ pw h) : Hv ps (k + 1) h :=
  ⟨hh.1, fun j hj hjk => by
    by_cases e : j = k
    · subst e; exact hle
    · exact hh.2 j hj (by omega)⟩
theorem Hv.take {ps : List Pt} {k : Nat} {h : Pt} (hh : Hv ps k h) (hk : k < ps.length) (hle : pw h < pw ps[k]) : Hv ps (k + 1) ps[k] :=
  ⟨List.getElem_mem hk, fun j hj hjk => by
    by_cases e : j = k
    · subst e; exact Rat.le_refl
    · have := hh.2 j hj (by omega)
      grind⟩

set_option maxHeartbeats 1000000 in
theorem wmean_none (ad : Option Addr) (cap : Nat) (w : World) :
    Calls Try.prog 21 #[.slice ad 0 cap] w fun e w' => e = .returned (.tuple #[.float .f64 0, .float .f64 0, .float .f64 0]) ∧ w' = w := by
  go_enter Try.func21, Try.ntmps21
  go_wp2
  go_ret3
  exact ⟨rfl, rfl⟩

set_option maxHeartbeats 2000000 in
theorem wmean_some (ad : Option Addr) (cap : Nat) (ps : List Pt) (R : Nat → Nat → Nat → Prop) (w : World) (hs : PSrc w.heap.size w (.slice ad ps.length cap) ps)
    (hl : ps.length ≤ 4096) (hne : 0 < ps.length) (hR : WmSpec ps R) :
    Calls Try.prog 21 #[.slice ad ps.length cap] w fun e w' => ∃ X Y W, e = .returned (.tuple #[.float .f64 X, .float .f64 Y, .float .f64 W]) ∧ R X Y W ∧ Below w.heap.size w w' := by
  obtain ⟨hfw, _, hsp⟩ := hR
  have HS := Lib.hid hs
  have HW := Lib.hid hfw
  have HP := Lib.hid hsp
  obtain ⟨b, o, rfl, hbw, c1, c2, c3⟩ := hs.at (Below.refl _ _) hne
  obtain ⟨x, hx⟩ : ∃ x, x = (ps[0]).1 := ⟨_, rfl⟩
  obtain ⟨y, hy⟩ : ∃ x, x = (ps[0]).2.1 := ⟨_, rfl⟩
  obtain ⟨z, hz⟩ : ∃ x, x = (ps[0]).2.2 := ⟨_, rfl⟩
  rw [← hx] at c1
  rw [← hy] at c2
  rw [← hz] at c3
  have e0 : ps[0] = (x, y, z) := by rw [hx, hy, hz]
  have H0 := Lib.hid (show Hv ps 0 (x, y, z) from ⟨by rw [← e0]; exact List.getElem_mem hne, fun j hj h => by omega⟩)
  have B0 := Lib.hid (Box.new w (x, y, z))
  simp only [Nat.zero_mul, Nat.add_zero] at c1 c2 c3
  clear hs hfw hsp hx hy hz e0
  go_enter Try.func21, Try.ntmps21
  go_wp2
  go_loopw [20] (fun i W => ∃ k : Nat, ∃ h : Pt, k ≤ ps.length ∧ i = .int .i64 k ∧ Hid (Hv ps k h) ∧ Hid (Box W w.heap.size h) ∧ Below w.heap.size w W) (fun i _ => ps.length - (intOf i).toNat)
  case atStart => exact ⟨0, (x, y, z), by omega, rfl, H0, B0, (Below.refl _ _).alloc (Nat.le_refl _) _⟩
  case round =>
    obtain ⟨k, h, hk, rfl, HH, HB, hb⟩ := hrel
    obtain ⟨g1, g2, g3, gf, glt⟩ := HB.out.cells
    by_cases hlt : k < ps.length
    · obtain ⟨b', o', eb, _, d1, d2, d3⟩ := HS.out.at hb hlt
      cases eb
      have fk : Fin (ps[k]).2.2 := HW.out _ (List.getElem_mem hlt)
      have fh : Fin h.2.2 := HW.out _ HH.out.1
      obtain ⟨p, hp⟩ : ∃ p, p = ps[k] := ⟨_, rfl⟩
      rw [← hp] at d1 d2 d3 fk
      have HP' := Lib.hid hp
      have hsz : w.heap.size < wr.heap.size := glt
      have f0 := gf 0
      have f1 := gf 1
      have f2 := gf 2
      rcases tri (fv p.2.2) (fv h.2.2) with ho | ho | ho
      · have hord := ord_lt fk fh ho
        have HV := Lib.hid (HH.out.keep hlt (by rw [← hp]; exact Rat.le_of_lt ho))
        clear HS hp fk fh ho gf
        go_wp2
        go_roundw
        case rel => exact ⟨k + 1, h, by omega, by go_num, HV, Lib.hid (HB.out.alloc _), hb.alloc (by omega) _⟩
        case measure => simp [intOf]; omega
      · have hord := ord_eq fk fh ho
        have HV := Lib.hid (HH.out.keep hlt (by rw [← hp]; show fv p.2.2 ≤ fv h.2.2; rw [ho]; exact Rat.le_refl))
        clear HS hp fk fh ho gf
        go_wp2
        go_roundw
        case rel => exact ⟨k + 1, h, by omega, by go_num, HV, Lib.hid (HB.out.alloc _), hb.alloc (by omega) _⟩
        case measure => simp [intOf]; omega
      · have hord := ord_gt fk fh ho
        have HV := Lib.hid (HH.out.take hlt (by rw [← hp]; exact ho))
        rw [← hp] at HV
        clear HS hp fk fh ho gf
        go_wp2
        go_roundw
        case rel => 
          refine ⟨k + 1, p, by omega, by go_num, HV, Lib.hid ((HB.out.put p).alloc _), ?_⟩
          exact (((hb.setCell (by simp) _).setCell (by simp) _).setCell (by simp) _).alloc (by simp; omega) _
        case measure => simp [intOf]; omega
    · have hek : k = ps.length := by omega
      subst hek
      obtain ⟨I, hI0, hstep, hend⟩ := HP.out h HH.out.heavy
      have HI0 := Lib.hid hI0
      have HST := Lib.hid hstep
      have HE := Lib.hid hend
      clear hI0 hstep hend g1 g2 g3 gf H0 B0 c1 c2 c3 HP
      go_wp2
      go_loopw [4, 8, 9, 33] (fun a p v i W => ∃ k A P V : Nat, k ≤ ps.length ∧ a = .float .f64 A ∧ p = .float .f64 P ∧ v = .float .f64 V ∧ i = .int .i64 k ∧ Hid (I k A P V) ∧ Hid (Box W w.heap.size h) ∧ Below w.heap.size w W) (fun _ _ _ i _ => ps.length - (intOf i).toNat)
      case atStart => exact ⟨0, 0, 0, 0, by omega, rfl, rfl, rfl, rfl, HI0, HB, hb⟩
      case round =>
        obtain ⟨k, A, P, V, hk, rfl, rfl, rfl, rfl, HI, HB', hb'⟩ := hrel
        obtain ⟨g1, g2, g3, gf, glt⟩ := HB'.out.cells
        by_cases hlt : k < ps.length
        · obtain ⟨b', o', eb, _, d1, d2, d3⟩ := HS.out.at hb' hlt
          cases eb
          obtain ⟨A', d, t, P', u, V', q1, q2, q3, q4, q5, q6, hI'⟩ := HST.out k hlt A P V HI.out
          have HI' := Lib.hid hI'
          obtain ⟨p, hp⟩ : ∃ p, p = ps[k] := ⟨_, rfl⟩
          rw [← hp] at d1 d2 d3 q1 q2 q3 q5
          have o1 := run_op .add _ _ A' q1
          have o2 := run_op .sub _ _ d q2
          have o3 := run_op .mul _ _ t q3
          have o4 := run_op .add _ _ P' q4
          have o5 := run_op .mul _ _ u q5
          have o6 := run_op .add _ _ V' q6
          clear q1 q2 q3 q4 q5 q6 hI' hp HS gf
          go_wp2_with (simp only [o1, o2, o3, o4, o5, o6])
          go_roundw
          case rel => exact ⟨k + 1, A', P', V', by omega, rfl, rfl, rfl, by go_num, HI', Lib.hid (HB'.out.alloc _), hb'.alloc (by omega) _⟩
          case measure => simp [intOf]; omega
        · have hek : k = ps.length := by omega
          subst hek
          obtain ⟨fA, hz, hnz⟩ := HE.out A P V HI.out
          by_cases h0 : fv A = 0
          · have hord := ord_eq fA fin_zero (by rw [h0, fv_zero])
            have HR := Lib.hid (hz h0)
            clear hz hnz gf fA h0
            go_wp2
            go_quiet (fail)
            go_wp2
            go_ret3
            exact ⟨_, _, _, rfl, HR.out, below_drewN hb' _⟩
          · obtain ⟨q, X, Y, q1, q2, q3, hR⟩ := hnz h0
            have HR := Lib.hid hR
            have o1 := run_op .quo _ _ q q1
            have o2 := run_op .add _ _ X q2
            have o3 := run_op .quo _ _ Y q3
            rcases tri (fv A) (fv 0) with ho | ho | ho
            · have hord := ord_lt fA fin_zero ho
              clear hz hnz gf fA h0 ho q1 q2 q3 hR
              go_wp2_with (simp only [o1, o2, o3])
              go_ret3
              exact ⟨_, _, _, rfl, HR.out, hb'⟩
            · exact absurd (by rw [ho, fv_zero]) h0
            · have hord := ord_gt fA fin_zero ho
              clear hz hnz gf fA h0 ho q1 q2 q3 hR
              go_wp2_with (simp only [o1, o2, o3])
              go_ret3
              exact ⟨_, _, _, rfl, HR.out, hb'⟩

theorem wmean_ok (ad : Option Addr) (cap : Nat) (ps : List Pt) (R : Nat → Nat → Nat → Prop) (w : World) (hs : PSrc w.heap.size w (.slice ad ps.length cap) ps) (hl : ps.length ≤ 4096) (hR : WmSpec ps R) :
    Calls Try.prog 21 #[.slice ad ps.length cap] w fun e w' => ∃ X Y W, e = .returned (.tuple #[.float .f64 X, .float .f64 Y, .float .f64 W]) ∧ R X Y W ∧ Below w.heap.size w w' := by
  rcases Nat.eq_zero_or_pos ps.length with h0 | h0
  · have e : ps = [] := List.length_eq_zero_iff.1 h0
    rw [h0]
    exact (wmean_none ad cap w).mono fun e' w' ⟨he, hw⟩ => ⟨0, 0, 0, he, hR.2.1 e, by rw [hw]; exact Below.refl _ _⟩
  · exact wmean_some ad cap ps R w hs hl h0 hR
end Go.Proofs.Qxb6605538a.fl
