/-
  'zzPoints': the walk.
-/
import Derived.Test.Qxb6605538aWd
namespace Go.Proofs.Qxb6605538a.fl
open Go.ChangeShapes Go.WideShapes Go.RowKit
attribute [local go_sem] run_store_float

theorem info48 : (Try.prog.info? 48).map (fun i => (i.zero, i.size, i.bytes)) = some (some (.agg #[.float .f64 0, .float .f64 0, .float .f64 0]), 3, 24) := by kernel_rfl

theorem made3 (n : Nat) : (madeCells (Value.agg #[.float .f64 0, .float .f64 0, .float .f64 0]).cells n).toList = List.replicate n (Value.float .f64 0) := by
  apply List.ext_getElem?
  intro j
  by_cases hj : j < n
  · have h3 : j % 3 = 0 ∨ j % 3 = 1 ∨ j % 3 = 2 := by omega
    have e : (Value.agg #[Value.float .f64 0, .float .f64 0, .float .f64 0]).cells = #[Value.float .f64 0, .float .f64 0, .float .f64 0] := rfl
    rcases h3 with h | h | h <;> simp [madeCells, hj, e, h]
  · simp [madeCells, hj]

def pcell (p : Pt) : List Value := [.float .f64 p.1, .float .f64 p.2.1, .float .f64 p.2.2]
def pcells (ps : List Pt) : List Value := ps.flatMap pcell
def ppart (ps : List Pt) (k : Nat) : List Value := pcells (ps.take k) ++ List.replicate ((ps.length - k) * 3) (Value.float .f64 0)
theorem pcells_len (ps : List Pt) : (pcells ps).length = ps.length * 3 := by
  unfold pcells
  induction ps with
  | nil => rfl
  | cons a l ih => rw [List.flatMap_cons, List.length_append, ih, List.length_cons]; simp [pcell]; omega
theorem pcells_get (ps : List Pt) (k : Nat) (hk : k < ps.length) : (pcells ps)[k * 3]? = some (.float .f64 (ps[k]).1) ∧ (pcells ps)[k * 3 + 1]? = some (.float .f64 (ps[k]).2.1) ∧ (pcells ps)[k * 3 + 2]? = some (.float .f64 (ps[k]).2.2) := by
  unfold pcells
  induction ps generalizing k with
  | nil => simp at hk
  | cons a l ih =>
    rw [List.flatMap_cons]
    cases k with
    | zero => simp [pcell]
    | succ k =>
      have h := ih k (by simpa using hk)
      have e1 : (k + 1) * 3 = k * 3 + 3 := by omega
      have hl : (pcell a).length = 3 := rfl
      rw [e1, List.getElem?_append_right (by omega), List.getElem?_append_right (by omega), List.getElem?_append_right (by omega), hl]
      have e2 : k * 3 + 3 - 3 = k * 3 := by omega
      have e3 : k * 3 + 3 + 1 - 3 = k * 3 + 1 := by omega
      have e4 : k * 3 + 3 + 2 - 3 = k * 3 + 2 := by omega
      rw [e2, e3, e4, List.getElem_cons_succ]
      exact h
theorem ppart_zero (ps : List Pt) : ppart ps 0 = List.replicate (ps.length * 3) (Value.float .f64 0) := by simp [ppart, pcells]
theorem ppart_full (ps : List Pt) : ppart ps ps.length = pcells ps := by simp [ppart]
theorem ppart_set (ps : List Pt) (k : Nat) (hk : k < ps.length) : (((ppart ps k).set (k * 3) (.float .f64 (ps[k]).1)).set (k * 3 + 1) (.float .f64 (ps[k]).2.1)).set (k * 3 + 2) (.float .f64 (ps[k]).2.2) = ppart ps (k + 1) := by
  unfold ppart
  have h1 : (pcells (ps.take k)).length = k * 3 := by rw [pcells_len, List.length_take]; omega
  have h2 : pcells (ps.take (k + 1)) = pcells (ps.take k) ++ pcell ps[k] := by
    rw [List.take_succ_eq_append_getElem hk]; unfold pcells; rw [List.flatMap_append]; simp
  have h3 : (ps.length - k) * 3 = (ps.length - (k + 1)) * 3 + 3 := by omega
  have h4 : List.replicate ((ps.length - k) * 3) (Value.float .f64 0) = .float .f64 0 :: .float .f64 0 :: .float .f64 0 :: List.replicate ((ps.length - (k + 1)) * 3) (Value.float .f64 0) := by
    rw [h3, List.replicate_succ, List.replicate_succ, List.replicate_succ]
  rw [h2, h4, List.set_append_right _ _ (by omega), List.set_append_right _ _ (by omega), List.set_append_right _ _ (by omega), h1]
  have e1 : k * 3 - k * 3 = 0 := by omega
  have e2 : k * 3 + 1 - k * 3 = 1 := by omega
  have e3 : k * 3 + 2 - k * 3 = 2 := by omega
  rw [e1, e2, e3, List.append_assoc]
  rfl
theorem psrc_of_owns {w : World} {g cap : Nat} {ps : List Pt} (h : w.ownsRow g 48 3 (.slice (some ⟨g, 0, none⟩) ps.length cap) ps.length (pcells ps)) (hg : g < w.heap.size) : PSrc w.heap.size w (.slice (some ⟨g, 0, none⟩) ps.length cap) ps := by
  refine ⟨_, _, rfl, fun _ => ⟨g, 0, rfl, hg, fun i hi => ?_⟩⟩
  obtain ⟨a1, a2, a3⟩ := pcells_get ps i hi
  rw [Nat.zero_add]
  exact ⟨by rw [h.cellAt _ (by omega)]; exact a1, by rw [h.cellAt _ (by omega)]; exact a2, by rw [h.cellAt _ (by omega)]; exact a3⟩

def z3 (xs ys zs : List Nat) : List Pt := xs.zip (ys.zip zs)
theorem z3_len {xs ys zs : List Nat} (h1 : ys.length = xs.length) (h2 : zs.length = xs.length) : (z3 xs ys zs).length = xs.length := by
  unfold z3; rw [List.length_zip, List.length_zip, h1, h2]; omega
theorem z3_get {xs ys zs : List Nat} {k : Nat} (hk : k < (z3 xs ys zs).length) (h0 : k < xs.length) (h1 : k < ys.length) (h2 : k < zs.length) : (z3 xs ys zs)[k] = (xs[k], ys[k], zs[k]) := by
  have : (xs.zip (ys.zip zs))[k]? = some (xs[k], ys[k], zs[k]) := by rw [List.getElem?_zip_eq_some]; exact ⟨List.getElem?_eq_getElem h0, by rw [List.getElem?_zip_eq_some]; exact ⟨List.getElem?_eq_getElem h1, List.getElem?_eq_getElem h2⟩⟩
  have h3 : (z3 xs ys zs)[k]? = some (xs[k], ys[k], zs[k]) := this
  rw [List.getElem?_eq_getElem hk] at h3
  exact Option.some.inj h3


theorem z3_maps {xs ys zs : List Nat} (h1 : ys.length = xs.length) (h2 : zs.length = xs.length) :
    (z3 xs ys zs).map (fun p => p.1) = xs ∧ (z3 xs ys zs).map (fun p => p.2.1) = ys ∧ (z3 xs ys zs).map (fun p => p.2.2) = zs := by
  have hl := z3_len h1 h2
  refine ⟨List.ext_getElem (by rw [List.length_map, hl]) fun i a b => ?_, List.ext_getElem (by rw [List.length_map, hl, h1]) fun i a b => ?_, List.ext_getElem (by rw [List.length_map, hl, h2]) fun i a b => ?_⟩
  · rw [List.getElem_map, z3_get (by rw [List.length_map] at a; exact a) b (by omega) (by omega)]
  · rw [List.getElem_map, z3_get (by rw [List.length_map] at a; exact a) (by omega) b (by omega)]
  · rw [List.getElem_map, z3_get (by rw [List.length_map] at a; exact a) (by omega) (by omega) b]

set_option maxHeartbeats 2000000 in
theorem points_ps (a0 a1 a2 : Option Addr) (c0 c1 c2 : Nat) (ps : List Pt) (w : World) (hlen : ps.length ≤ 4096)
    (h0 : FSrc w.heap.size w (.slice a0 ps.length c0) (ps.map fun p => p.1)) (h1 : FSrc w.heap.size w (.slice a1 ps.length c1) (ps.map fun p => p.2.1)) (h2 : FSrc w.heap.size w (.slice a2 ps.length c2) (ps.map fun p => p.2.2)) :
    Calls Try.prog 22 #[.slice a0 ps.length c0, .slice a1 ps.length c1, .slice a2 ps.length c2] w fun e w' => e = .returned (.slice (some ⟨w.heap.size, 0, none⟩) ps.length ps.length) ∧
      PSrc w'.heap.size w' (.slice (some ⟨w.heap.size, 0, none⟩) ps.length ps.length) ps ∧ Below w.heap.size w w' := by
  obtain ⟨i0, hi, hz0, hz1, hz2⟩ := info_parts info48
  have H0 := Lib.hid h0
  have H1 := Lib.hid h1
  have H2 := Lib.hid h2
  clear h0 h1 h2
  go_enter Try.func22, Try.ntmps22
  go_wp2_with (at_make; refine wpList_make_full _ rfl _ _ 43 rfl w.heap.size 48 i0 (.agg #[.float .f64 0, .float .f64 0, .float .f64 0]) 3 Try.underlying43 hi hz0 hz1 .i64 .i64 ps.length ps.length ps.length rfl rfl rfl rfl (by rw [hz2]; omega) (by unfold maxLen; omega) (Nat.le_refl _) ?_; intro w1 hown1 hg1)
  have R0 : w1.ownsRow w.heap.size 48 3 (.slice (some ⟨w.heap.size, 0, none⟩) ps.length ps.length) ps.length (ppart ps 0) := by
    rw [ppart_zero]
    have e : (madeCells (Value.agg #[.float .f64 0, .float .f64 0, .float .f64 0]).cells (ps.length * 3)).toList = List.replicate (ps.length * 3) (Value.float .f64 0) := made3 _
    rw [e] at hown1
    exact hown1
  have hb1 : Below w.heap.size w w1 := (Below.refl _ _).grown hg1 (Nat.le_refl _) (by simp)
  clear hown1 hg1
  go_loopw [8] (fun i W => ∃ k : Nat, k ≤ ps.length ∧ i = .int .i64 k ∧ W.ownsRow w.heap.size 48 3 (.slice (some ⟨w.heap.size, 0, none⟩) ps.length ps.length) ps.length (ppart ps k) ∧ Below w.heap.size w W) (fun i _ => ps.length - (intOf i).toNat)
  case atStart => exact ⟨0, by omega, rfl, R0, hb1⟩
  case round =>
    obtain ⟨k, hk, rfl, hown, hb⟩ := hrel
    by_cases hlt : k < ps.length
    · obtain ⟨b0, o0, eb, _, d0⟩ := H0.out.at hb (k := k) (by rw [List.length_map]; exact hlt)
      cases eb
      obtain ⟨b1, o1, eb, _, d1⟩ := H1.out.at hb (k := k) (by rw [List.length_map]; exact hlt)
      cases eb
      obtain ⟨b2, o2, eb, _, d2⟩ := H2.out.at hb (k := k) (by rw [List.length_map]; exact hlt)
      cases eb
      rw [List.getElem_map] at d0 d1 d2
      obtain ⟨p, hp⟩ : ∃ p, p = ps[k] := ⟨_, rfl⟩
      have hex : ∀ j, j < 3 → ∃ u0, wr.cell? ⟨w.heap.size, k * 3 + j, none⟩ = some u0 := fun j hj => by
        rw [hown.cellAt (k * 3 + j) (by omega)]
        have : k * 3 + j < (ppart ps k).length := by rw [hown.1]; omega
        exact ⟨_, List.getElem?_eq_getElem this⟩
      obtain ⟨u0, hu0⟩ := hex 0 (by omega)
      obtain ⟨u1, hu1⟩ := hex 1 (by omega)
      obtain ⟨u2, hu2⟩ := hex 2 (by omega)
      rw [Nat.add_zero] at hu0
      have hf0 : wr.frozen? ⟨w.heap.size, k * 3, none⟩ = false := hown.frozenAt _
      have hf1 : wr.frozen? ⟨w.heap.size, k * 3 + 1, none⟩ = false := hown.frozenAt _
      have hf2 : wr.frozen? ⟨w.heap.size, k * 3 + 2, none⟩ = false := hown.frozenAt _
      have s1 := hown.stored (k * 3) (Value.float .f64 (ps[k]).1)
      have s2 := s1.1.stored (k * 3 + 1) (Value.float .f64 (ps[k]).2.1)
      have s3 := s2.1.stored (k * 3 + 2) (Value.float .f64 (ps[k]).2.2)
      rw [ppart_set ps k hlt] at s3
      have R := s3.1
      have hb' : Below w.heap.size w (((wr.setCell ⟨w.heap.size, k * 3, none⟩ (Value.float .f64 (ps[k]).1)).setCell ⟨w.heap.size, k * 3 + 1, none⟩ (Value.float .f64 (ps[k]).2.1)).setCell ⟨w.heap.size, k * 3 + 2, none⟩ (Value.float .f64 (ps[k]).2.2)) := ((hb.setCell (by simp) _).setCell (by simp) _).setCell (by simp) _
      rw [← hp] at d0 d1 d2 R hb'
      have HR := Lib.hid R
      have HB := Lib.hid hb'
      clear s1 s2 s3 hown R hb hb' H0 H1 H2 hp hex
      go_wp2
      go_region
      all_goals
        go_wp2
        go_roundw
        case rel => exact ⟨k + 1, by omega, by go_num, HR.out, below_drewN HB.out _⟩
        case measure => simp [intOf]; omega
    · have hek : k = ps.length := by omega
      subst hek
      rw [ppart_full] at hown
      have hF := psrc_of_owns hown (by have := (hown.lt w.heap.size rfl).2; exact this)
      go_wp2
      go_ret
      exact ⟨rfl, hF, hb⟩

theorem points_ok (a0 a1 a2 : Option Addr) (c0 c1 c2 : Nat) (xs ys zs : List Nat) (w : World) (hlen : xs.length ≤ 4096) (e1 : ys.length = xs.length) (e2 : zs.length = xs.length)
    (h0 : FSrc w.heap.size w (.slice a0 xs.length c0) xs) (h1 : FSrc w.heap.size w (.slice a1 xs.length c1) ys) (h2 : FSrc w.heap.size w (.slice a2 xs.length c2) zs) :
    Calls Try.prog 22 #[.slice a0 xs.length c0, .slice a1 xs.length c1, .slice a2 xs.length c2] w fun e w' => e = .returned (.slice (some ⟨w.heap.size, 0, none⟩) xs.length xs.length) ∧
      PSrc w'.heap.size w' (.slice (some ⟨w.heap.size, 0, none⟩) xs.length xs.length) (z3 xs ys zs) ∧ Below w.heap.size w w' := by
  obtain ⟨m1, m2, m3⟩ := z3_maps e1 e2
  have hl := z3_len e1 e2
  have h := points_ps a0 a1 a2 c0 c1 c2 (z3 xs ys zs) w (by omega) (by rw [m1, hl]; exact h0) (by rw [m2, hl]; exact h1) (by rw [m3, hl]; exact h2)
  rw [hl] at h
  exact h
end Go.Proofs.Qxb6605538a.fl
