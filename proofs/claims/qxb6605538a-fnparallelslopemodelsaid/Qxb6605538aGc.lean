/-
  The groups that the law speaks of. No Go in sight.
-/
import Derived.Test.Qxb6605538aGb
import Derived.Test.Qxb6605538aWe
namespace Go.Proofs.Qxb6605538a.fl

theorem s0_len {ps : List Pt} (h : ∀ p, p ∈ ps → GPt p) : s0 pw ps ≤ 256 * (ps.length : Rat) := by
  unfold s0
  induction ps with
  | nil => rw [Sm_nil]; decide +kernel
  | cons p l ih =>
    have h1 := (h p (by simp)).2.2.2.2.2.2.2.2.2
    have h2 := ih fun p hp => h p (by simp [hp])
    have e : (((p :: l).length : Nat) : Rat) = (l.length : Rat) + 1 := by rw [List.length_cons]; exact Rat.natCast_add _ _
    rw [Sm_cons, e]
    grind
theorem hV_of {gs : List Gr} (h : ∀ g, g ∈ gs → GrOk g) : Sm (fun q => q.1 * s0 pw q.2) (gs.map key) ≤ 256 * (tot_len gs : Rat) := by
  induction gs with
  | nil => show (0 : Rat) ≤ 256 * ((0 : Nat) : Rat); decide +kernel
  | cons g l ih =>
    have h2 := ih fun g hg => h g (by simp [hg])
    have hg := h g (by simp)
    have h1 := s0_len hg.hp
    have h3 : 0 ≤ s0 pw g.ps := s0_nonneg fun p hp => (hg.hp p hp).2.2.2.2.2.2.2.2.1
    have e : ((tot_len (g :: l) : Nat) : Rat) = (g.ps.length : Rat) + (tot_len l : Rat) := by
      show ((((g :: l).map fun g => g.ps.length).sum : Nat) : Rat) = _
      rw [List.map_cons, List.sum_cons]; exact Rat.natCast_add _ _
    rw [List.map_cons, Sm_cons, e]
    show g.c * s0 pw g.ps + _ ≤ _
    rcases hg.hc with e | e <;> rw [e] <;> grind

/-- the groups of three rows, each pooled as it is -/
theorem groups {xss yss zss : List (List Nat)} {cl : List Rat} (e1 : yss.length = xss.length) (e2 : zss.length = xss.length) (ec : cl.length = xss.length)
    (f1 : ∀ k (a : k < xss.length) (b : k < yss.length), (yss[k]).length = (xss[k]).length) (f2 : ∀ k (a : k < xss.length) (b : k < zss.length), (zss[k]).length = (xss[k]).length)
    (l1 : ∀ k (a : k < xss.length), (xss[k]).length ≤ 4096) (ht : (xss.map List.length).sum ≤ 4096)
    (hc : ∀ k (a : k < cl.length), cl[k] = 0 ∨ cl[k] = 1) (hg : ∀ k (a : k < xss.length) (b : k < yss.length) (c : k < zss.length), ∀ p, p ∈ z3 xss[k] yss[k] zss[k] → GPt p) :
    ∃ gs : List Gr, (∀ g, g ∈ gs → GrOk g) ∧ gs.length = xss.length ∧ (∀ k (a : k < xss.length) (b : k < yss.length) (c : k < zss.length) (d : k < gs.length), (gs[k]).ps = z3 xss[k] yss[k] zss[k]) ∧
      (∀ k (a : k < cl.length) (d : k < gs.length), (gs[k]).c = cl[k]) ∧ tot_len gs ≤ 4096 ∧ Sm (fun q => q.1 * s0 pw q.2) (gs.map key) ≤ 1048576 := by
  obtain ⟨qs, hq⟩ : ∃ qs : List Gk, qs = List.ofFn (n := xss.length) fun i => (cl[i.1]'(by omega), z3 xss[i.1] (yss[i.1]'(by omega)) (zss[i.1]'(by omega))) := ⟨_, rfl⟩
  have hql : qs.length = xss.length := by rw [hq, List.length_ofFn]
  have hqk : ∀ k (h : k < qs.length) (a : k < cl.length) (b : k < xss.length) (c : k < yss.length) (d : k < zss.length), qs[k] = (cl[k], z3 xss[k] yss[k] zss[k]) := by
    intro k h a b c d
    subst hq
    rw [List.getElem_ofFn]
  have hqo : ∀ q, q ∈ qs → QOk q := by
    intro q hm
    obtain ⟨k, hk, rfl⟩ := List.mem_iff_getElem.1 hm
    have hkx : k < xss.length := by omega
    rw [hqk k hk (by omega) hkx (by omega) (by omega)]
    refine ⟨hg k hkx (by omega) (by omega), ?_, hc k (by omega)⟩
    show (z3 _ _ _).length ≤ _
    rw [z3_len (f1 k hkx (by omega)) (f2 k hkx (by omega))]
    exact l1 k hkx
  obtain ⟨gs, h1, h2⟩ := grs_ex hqo
  have hgl : gs.length = xss.length := by rw [← hql, ← h2, List.length_map]
  have hk : ∀ k (d : k < gs.length) (a : k < cl.length) (b : k < xss.length) (c : k < yss.length) (e : k < zss.length), key gs[k] = (cl[k], z3 xss[k] yss[k] zss[k]) := by
    intro k d a b c e
    have hkq : k < qs.length := by omega
    rw [← hqk k hkq a b c e]
    subst h2
    rw [List.getElem_map]
  have hps : ∀ k (a : k < xss.length) (b : k < yss.length) (c : k < zss.length) (d : k < gs.length), (gs[k]).ps = z3 xss[k] yss[k] zss[k] := by
    intro k a b c d
    exact congrArg Prod.snd (hk k d (by omega) a b c)
  have htl : tot_len gs = (xss.map List.length).sum := by
    unfold tot_len
    congr 1
    refine List.ext_getElem (by simp [hgl]) fun k p q => ?_
    rw [List.length_map] at p q
    rw [List.getElem_map, List.getElem_map, hps k q (by omega) (by omega) p, z3_len (f1 k q (by omega)) (f2 k q (by omega))]
  refine ⟨gs, h1, hgl, hps, fun k a d => congrArg Prod.fst (hk k d a (by omega) (by omega) (by omega)), by omega, ?_⟩
  have := hV_of h1
  have h4 : ((tot_len gs : Nat) : Rat) ≤ ((4096 : Nat) : Rat) := Rat.natCast_le_natCast.2 (by omega)
  have e4 : ((4096 : Nat) : Rat) = 4096 := by decide +kernel
  rw [e4] at h4
  grind
end Go.Proofs.Qxb6605538a.fl
