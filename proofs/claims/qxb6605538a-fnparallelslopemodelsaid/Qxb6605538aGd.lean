/-
  'FnParallelSlopeModel': what the law has in hand behind its clones.
-/
import Derived.Test.Qxb6605538aWl
import Derived.Test.Qxb6605538aGc
namespace Go.Proofs.Qxb6605538a.fl
open Go.ChangeShapes Go.WideShapes Go.RowKit

/-- what the law has looked at -/
structure Seen (xss yss zss : List (List Nat)) (cs : List Nat) (nil : Prop) : Prop where
  tot : (xss.map List.length).sum ≤ 4096
  cl : cs.length ≤ 4096
  po : ¬ nil → xss.length ≤ cs.length ∧ ∀ k (_ : k < xss.length) (b : k < cs.length), Fin cs[k] ∧ (fv cs[k] = 0 ∨ fv cs[k] = 1)
  gp : ∀ k (a : k < xss.length) (b : k < yss.length) (c : k < zss.length), ∀ p, p ∈ z3 xss[k] yss[k] zss[k] → GPt p

theorem behind_clones {xss yss zss : List (List Nat)} {cs : List Nat} {d0 d1 d2 d3 : Option Addr} {e0 e1 e2 e3 : Nat} {w : World}
    (hr : Rows3 w.heap.size w (.slice d0 xss.length e0) (.slice d1 xss.length e1) (.slice d2 xss.length e2) xss yss zss) (hf : FSrc w.heap.size w (.slice d3 cs.length e3) cs)
    (hs : Seen xss yss zss cs (d3 = none)) :
    ∃ gs : List Gr, xss.length = gs.length ∧ (∀ k (a : k < xss.length) (b : k < yss.length) (c : k < zss.length) (d : k < gs.length), (gs[k]).ps = z3 xss[k] yss[k] zss[k]) ∧
      Pooled w d3 e3 cs gs ∧ (∀ g, g ∈ gs → GrOk g) ∧ tot_len gs ≤ 4096 ∧ Sm (fun q => q.1 * s0 pw q.2) (gs.map key) ≤ 1048576 ∧
      (Calls Try.prog 17 #[.slice d0 xss.length e0, .slice d1 xss.length e1, .slice d2 xss.length e2, .slice d3 cs.length e3] w fun e w' => ∃ r, e = .returned (.float .f64 r) ∧ SlopeRes (gs.map key) r ∧ Below w.heap.size w w') := by
  cases d3 with
  | none =>
    obtain ⟨ad, cap, q1, q2, _⟩ := hf
    cases q1
    obtain ⟨rfl, rfl⟩ := q2 rfl
    obtain ⟨gs, h1, h2, h3, h4, h5, h6⟩ := groups (cl := List.replicate xss.length 0) hr.e1 hr.e2 (by simp) hr.f1 hr.f2 hr.l1 hs.tot (fun k a => .inl (by simp)) hs.gp
    have hz : ∀ g, g ∈ gs → g.c = 0 := by
      intro g hg
      obtain ⟨k, hk, rfl⟩ := List.mem_iff_getElem.1 hg
      have hkx : k < (List.replicate xss.length (0 : Rat)).length := by rw [List.length_replicate]; omega
      rw [h4 k hkx hk]
      simp
    have hpl : (gs.map fun g => g.ps).length = xss.length := by rw [List.length_map, h2]
    have hqe : ((gs.map fun g => g.ps).map fun ps => ((0 : Rat), ps)) = gs.map key := by
      rw [List.map_map]
      refine List.map_congr_left fun g hg => ?_
      show ((0 : Rat), g.ps) = (g.c, g.ps)
      rw [hz g hg]
    refine ⟨gs, h2.symm, h3, .inl ⟨rfl, hz⟩, h1, h5, h6, ?_⟩
    refine zz_ok d0 d1 d2 e0 e1 e2 _ xss yss zss (gs.map fun g => g.ps) (gs.map key) w hr ⟨hpl, fun k a b c d => ?_⟩ fun W ad cap hb hG => ?_
    · rw [List.getElem_map]; exact h3 k a b c (by rw [List.length_map] at d; exact d)
    · have h := slope_nil ad cap (gs.map fun g => g.ps) W (by rw [hpl]; exact hG) (by rw [hpl]; exact hr.l0) (fun ps hps => by
        obtain ⟨g, hg, rfl⟩ := List.mem_map.1 hps
        exact ⟨(h1 g hg).hp, (h1 g hg).hl, .inl rfl⟩)
      rw [hpl, hqe] at h
      exact h
  | some a =>
    obtain ⟨hp1, hp2⟩ := hs.po (fun e => by cases e)
    have hcl : ((cs.take xss.length).map fv).length = xss.length := by rw [List.length_map, List.length_take]; omega
    have hck : ∀ k (p : k < ((cs.take xss.length).map fv).length) (q : k < cs.length), ((cs.take xss.length).map fv)[k] = fv cs[k] := by
      intro k p q
      rw [List.getElem_map, List.getElem_take]
    obtain ⟨gs, h1, h2, h3, h4, h5, h6⟩ := groups (cl := (cs.take xss.length).map fv) hr.e1 hr.e2 hcl hr.f1 hr.f2 hr.l1 hs.tot (fun k p => by rw [hck k p (by omega)]; exact (hp2 k (by omega) (by omega)).2) hs.gp
    have hpl : (gs.map fun g => g.ps).length = xss.length := by rw [List.length_map, h2]
    have hgc : ∀ k (h : k < gs.length) (h' : k < cs.length), Fin cs[k] ∧ (gs[k]).c = fv cs[k] := by
      intro k h h'
      refine ⟨(hp2 k (by omega) h').1, ?_⟩
      rw [h4 k (by omega) h, hck k (by omega) h']
    refine ⟨gs, h2.symm, h3, .inr ⟨a, rfl, hf, by omega, hgc⟩, h1, h5, h6, ?_⟩
    refine zz_ok d0 d1 d2 e0 e1 e2 _ xss yss zss (gs.map fun g => g.ps) (gs.map key) w hr ⟨hpl, fun k a b c d => ?_⟩ fun W ad cap hb hG => ?_
    · rw [List.getElem_map]; exact h3 k a b c (by rw [List.length_map] at d; exact d)
    · have h := slope_some ad cap a e3 cs (gs.map fun g => g.ps) (gs.map key) W (by rw [hpl]; exact hG) (by rw [hpl]; exact hr.l0) (hf.below hb hb.size) (by rw [hpl]; exact hp1) (by rw [List.length_map, List.length_map])
        (fun k p q r => by
          rw [List.length_map] at p
          obtain ⟨g1, g2⟩ := hgc k p q
          rw [List.getElem_map, List.getElem_map]
          refine ⟨?_, g1⟩
          show ((gs[k]).c, (gs[k]).ps) = _
          rw [g2])
        (fun q hq => by
          obtain ⟨g, hg, rfl⟩ := List.mem_map.1 hq
          exact ⟨(h1 g hg).hp, (h1 g hg).hl, (h1 g hg).hc⟩) h6
      rw [hpl] at h
      exact h
end Go.Proofs.Qxb6605538a.fl
