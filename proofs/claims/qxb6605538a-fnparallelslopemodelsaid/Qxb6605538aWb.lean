/-
  'moments': the walk.
-/
import Derived.Test.Qxb6605538aWa
import Derived.Below
import Derived.ProofKit
import Derived.OpenShut
import Derived.ChangeOld
import Derived.Deep.QuietTactic
import Derived.BigQuiet
import Derived.Lib.SliceRun
import Derived.Lib.Hide
namespace Go.Proofs.Qxb6605538a.fl
open Go.ChangeShapes Go.WideShapes Go.RowKit

theorem run_store_float (P : Program) (w : World) (a : Addr) (m : Mode) (k : FloatKind) (n : Nat) : (store a (.float k n) m).run P w = stored P w a (.float k n) m := run_store P w a _ m rfl
attribute [local go_sem] run_store_float

/-- a slice of points, in blocks below B -/
def PSrc (B : Nat) (w : World) (v : Value) (ps : List Pt) : Prop :=
  ∃ ad cap, v = .slice ad ps.length cap ∧ (ps ≠ [] → ∃ b o, ad = some ⟨b, o, none⟩ ∧ b < B ∧
    ∀ i (h : i < ps.length), w.cell? ⟨b, o + i * 3, none⟩ = some (.float .f64 (ps[i]).1) ∧ w.cell? ⟨b, o + i * 3 + 1, none⟩ = some (.float .f64 (ps[i]).2.1) ∧ w.cell? ⟨b, o + i * 3 + 2, none⟩ = some (.float .f64 (ps[i]).2.2))

set_option maxHeartbeats 1000000 in
theorem moments_ok (ad : Option Addr) (cap : Nat) (ps : List Pt) (X Y : Nat) (w : World) (hs : PSrc w.heap.size w (.slice ad ps.length cap) ps)
    (hps : ∀ p, p ∈ ps → PtOk p) (hl : ps.length ≤ 4096) (hX : Fin X) (hY : Fin Y) (bX : ab (fv X) ≤ 2000) (bY : ab (fv Y) ≤ 2000) :
    Calls Try.prog 27 #[.slice ad ps.length cap, .float .f64 X, .float .f64 Y] w fun e w' => ∃ P S, e = .returned (.tuple #[.float .f64 P, .float .f64 S]) ∧ MomRel ps (fv X) (fv Y) ps.length P S ∧ Below w.heap.size w w' := by
  have HS := Lib.hid hs
  have HM := Lib.hid (fun (k P S : Nat) (hk : k < ps.length) (h : MomRel ps (fv X) (fv Y) k P S) => mom_step hps hl hX hY bX bY hk h)
  clear hs hps hX hY bX bY
  go_enter Try.func27, Try.ntmps27
  go_wp2
  go_loopw [6, 7, 13] (fun p s i W => ∃ k P S : Nat, k ≤ ps.length ∧ p = .float .f64 P ∧ s = .float .f64 S ∧ i = .int .i64 k ∧ Hid (MomRel ps (fv X) (fv Y) k P S) ∧ Below w.heap.size w W) (fun _ _ i _ => ps.length - (intOf i).toNat)
  case atStart => exact ⟨0, 0, 0, by omega, rfl, rfl, rfl, Lib.hid (mom_zero _ _ _), Below.refl _ _⟩
  case round =>
    obtain ⟨k, P, S, hk, rfl, rfl, rfl, hm, hb⟩ := hrel
    by_cases hlt : k < ps.length
    · obtain ⟨ad', cap', e1, hc⟩ := HS.out
      obtain ⟨b, o, rfl, hbw, hcell⟩ := hc (by intro e; rw [e] at hlt; simp at hlt)
      cases e1
      obtain ⟨c1, c2, c3⟩ := hcell k hlt
      have c1' : wr.cell? ⟨b, o + k * 3, none⟩ = some (.float .f64 (ps[k]).1) := by rw [hb.cell (p := ⟨b, o + k * 3, none⟩) hbw]; exact c1
      have c2' : wr.cell? ⟨b, o + k * 3 + 1, none⟩ = some (.float .f64 (ps[k]).2.1) := by rw [hb.cell (p := ⟨b, o + k * 3 + 1, none⟩) hbw]; exact c2
      have c3' : wr.cell? ⟨b, o + k * 3 + 2, none⟩ = some (.float .f64 (ps[k]).2.2) := by rw [hb.cell (p := ⟨b, o + k * 3 + 2, none⟩) hbw]; exact c3
      obtain ⟨d, t1, e, t2, P', t4, S', q1, q2, q3, q4, q5, q6, q7, hm'⟩ := HM.out k P S hlt hm.out
      have o1 := run_op .sub _ _ d q1
      have o2 := run_op .mul _ _ t1 q2
      have o3 := run_op .sub _ _ e q3
      have o4 := run_op .mul _ _ t2 q4
      have o5 := run_op .add _ _ P' q5
      have o6 := run_op .mul _ _ t4 q6
      have o7 := run_op .add _ _ S' q7
      have HM' := Lib.hid hm'
      obtain ⟨x, hx⟩ : ∃ x, x = (ps[k]).1 := ⟨_, rfl⟩
      obtain ⟨y, hy⟩ : ∃ x, x = (ps[k]).2.1 := ⟨_, rfl⟩
      obtain ⟨z, hz⟩ : ∃ x, x = (ps[k]).2.2 := ⟨_, rfl⟩
      rw [← hx] at c1' o1
      rw [← hy] at c2' o3
      rw [← hz] at c3' o2
      clear hx hy hz q1 q2 q3 q4 q5 q6 q7 hm' c1 c2 c3 hcell hc hm
      go_wp2_with (simp only [o1, o2, o3, o4, o5, o6, o7])
      go_roundw
      case rel => exact ⟨k + 1, P', S', by omega, rfl, rfl, by go_num, HM', hb.alloc (by have := hb.size; omega) _⟩
      case measure => simp [intOf]; omega
    · have hek : k = ps.length := by omega
      subst hek
      go_wp2
      go_ret2
      exact ⟨P, S, rfl, hm.out, hb⟩
end Go.Proofs.Qxb6605538a.fl
