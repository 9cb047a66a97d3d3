/-
  'FnParallelSlopeModel': the law, whole.
-/
import Derived.Test.Qxb6605538aWr
namespace Go.Proofs.Qxb6605538a.fl
open Go.ChangeShapes Go.WideShapes Go.RowKit

set_option maxRecDepth 1000000 in
set_option maxHeartbeats 16000000 in
theorem law_walk (a0 a1 a2 a3 : Option Addr) (c0 c1 c2 c3 : Nat) (xss yss zss : List (List Nat)) (cs : List Nat) (w : World)
    (h0 : NSrc w.heap.size w (.slice a0 xss.length c0) xss) (h1 : NSrc w.heap.size w (.slice a1 yss.length c1) yss) (h2 : NSrc w.heap.size w (.slice a2 zss.length c2) zss) (hf : FSrc w.heap.size w (.slice a3 cs.length c3) cs)
    (l0 : xss.length ≤ 9223372036854775807) (l1 : yss.length ≤ 9223372036854775807) (l2 : zss.length ≤ 9223372036854775807) (l3 : cs.length ≤ 9223372036854775807)
    (m0 : ∀ l, l ∈ xss → l.length ≤ 9223372036854775807) (m1 : ∀ l, l ∈ yss → l.length ≤ 9223372036854775807) (m2 : ∀ l, l ∈ zss → l.length ≤ 9223372036854775807) :
    Calls Try.prog 5 #[.slice a0 xss.length c0, .slice a1 yss.length c1, .slice a2 zss.length c2, .slice a3 cs.length c3] w (Post w) := by
  have H0 := Lib.hid h0
  have H1 := Lib.hid h1
  have H2 := Lib.hid h2
  have HF := Lib.hid hf
  have M0 := Lib.hid m0
  have M1 := Lib.hid m1
  have M2 := Lib.hid m2
  clear h0 h1 h2 hf m0 m1 m2
  go_enter Try.func5, Try.ntmps5
  go_wp2_with fail
  refine (bytes_ok a0 a1 a2 a3 c0 c1 c2 cs.length c3 xss yss zss w H0.out H1.out H2.out l0 l1 l2 l3 M0.out M1.out M2.out).mono ?_
  rintro e w' ⟨b, rfl, hW⟩
  replace hW := hW.symm
  subst hW
  cases b with
  | false =>
    go_wp2
    go_ret
    exact ⟨rfl, Below.refl _ _⟩
  | true =>
    by_cases g0 : xss.length ≤ 4096
    case neg =>
      go_wp2
      go_ret
      exact ⟨rfl, Below.refl _ _⟩
    by_cases g1 : yss.length ≤ 4096
    case neg =>
      go_wp2
      go_ret
      exact ⟨rfl, Below.refl _ _⟩
    by_cases g2 : zss.length ≤ 4096
    case neg =>
      go_wp2
      go_ret
      exact ⟨rfl, Below.refl _ _⟩
    by_cases g3 : cs.length ≤ 4096
    case neg =>
      go_wp2
      go_ret
      exact ⟨rfl, Below.refl _ _⟩
    go_upto_region 5 with fail
    go_cut [9, 10, 11] (fun x y z W => x = .int .i64 0 ∧ y = .int .i64 0 ∧ z = .int .i64 0 ∧ W = w)
    case rest =>
      rename_i hK
      obtain ⟨rfl, rfl, rfl, hW⟩ := hcut
      replace hW := hW.symm
      subst hW
      apply hK
      exact law_b1 _ _ _ _ _ _ _ _ _ _ _ _ _ _ _ _ _ _ _ _ _ _ _ _ _ _ _ _ _ _ _ _ _ _ _ _ _ _ _ _ _ _ _ _ _ _ _ _ _ _ _ _ _ _ _ _ _ _ _ _ _ _ _ _ _ _ _ _ _ _ _ _ _ _ _ _ _ _ _ _ _ _ _ _ _ _ _ _ _ _ _ _ _ _ _ _ _ _ _ _ _ _ _ _ _ _ _ _ _ _ _ _ _ _ _ _ _ _ _ _ _ _ _ _ _ _ _ _ _ _ _ _ _ _ _ _ _ _ _ _ _ _ _ _ _ _ _ _ _ _ _ _ _ _ _ _ _ _ _ _ _ _ _ _ _ _ _ _ _ _ _ _ _ _ _ _ _ _ _ _ _ _ _ _ _ _ _ _ _ _ _ _ _ _ _ _ _ _ _ _ _ _ _ _ _ _ _ _ _ _ _ _ _ _ _ _ _ _ _ _ _ _ _ _ _ _ _ _ _ _ _ _ _ _ _ _ _ _ _ _ _ _ _ _ _ _ _ _ _ _ _ _ _ _ _ _ _ _ _ _ _ _ _ _ _ _ _ _ _ _ _ _ _ _ _ _ _ _ _ _ _ _ _ _ _ _ _ _ _ _ _ _ _ _ _ _ _ _ _ _ _ _ _ _ _ _ _ _ _ _ _ _ _ _ _ _ _ _ _ _ _ _ _ _ _ _ _ _ _ _ _ _ _ _ _ _ _ _ _ _ _ _ _ _ _ _ _ _ _ _ _ _ _ _ _ _ _ _ _ _ _ _ _ _ _ _ _ _ _ _ _ _ _ _ _ _ _ _ _ _ _ _ _ _ _ _ _ _ _ _ _ _ _ _ _ _ _ _ _ _ _ _ _ _ _ _ _ _ _ _ _ a0 a1 a2 a3 c0 c1 c2 c3 xss yss zss cs w ⟨H0.out, H1.out, H2.out, g0, g1, g2, M0.out, M1.out, M2.out⟩ HF.out g3
    case first =>
      go_wp2_with fail
      go_meet
      exact ⟨rfl, rfl, rfl, rfl⟩
end Go.Proofs.Qxb6605538a.fl

