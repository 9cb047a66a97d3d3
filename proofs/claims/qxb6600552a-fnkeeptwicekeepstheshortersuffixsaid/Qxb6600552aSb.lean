/-
  'ZZB1Fields'; what is asked of two builders: the parts.
-/
import Derived.Test.Qxb6600552aKd
import Derived.Deep.QuietTactic
set_option linter.unusedVariables false
set_option linter.unusedSimpArgs false
namespace Go.Proofs.Qxb6600552a.kt
open Go.ChangeShapes Go.WideShapes Go.RowKit Go.Maps

theorem BSt.new {B N bb m1 m2 m3 : Nat} {w w' : World} {us : List U} {uv pv : Value} {xs : List UV} {blk cap : ByteArray → Nat} (h : BSt B N w bb us uv pv m1 m2 m3 xs blk cap) (hn : New w w') : BSt B N w' bb us uv pv m1 m2 m3 xs blk cap :=
  ⟨by rw [hn.block bb (Array.getElem?_eq_some_iff.1 h.cells).1 (fun h => h)]; exact h.cells, h.hxs, ownsRow_kp h.hu hn (fun _ _ h => h), ownsRow_kp h.hp hn (fun _ _ h => h), fun x hx => (h.hx x hx).kp hn (fun _ _ h => h), h.iu, h.ip, h.mat.kp hn (fun h => h), h.mwr.kp hn (fun h => h),
    h.mrd.kp hn (fun _ _ h => h), h.ge, h.ne, h.fre⟩
theorem ten_cells {W : World} {g k : Nat} {u : U} {ra wa : Option Addr} {rc wk : Nat} (h : ∀ j v, [.string u.id, e0, e0, e0, e0, .pointer none, .pointer none, .pointer none, .slice ra u.reads.length rc, .slice wa u.writes.length wk][j]? = some v → W.cell? ((⟨g, k * 10, none⟩ : Addr).add j) = some v) :
    W.cell? ⟨g, k * 10, none⟩ = some (.string u.id) ∧ W.cell? ⟨g, k * 10 + 1, none⟩ = some e0 ∧ W.cell? ⟨g, k * 10 + 2, none⟩ = some e0 ∧ W.cell? ⟨g, k * 10 + 3, none⟩ = some e0 ∧ W.cell? ⟨g, k * 10 + 4, none⟩ = some e0 ∧ W.cell? ⟨g, k * 10 + 5, none⟩ = some (.pointer none) ∧ W.cell? ⟨g, k * 10 + 6, none⟩ = some (.pointer none) ∧
    W.cell? ⟨g, k * 10 + 7, none⟩ = some (.pointer none) ∧ W.cell? ⟨g, k * 10 + 8, none⟩ = some (.slice ra u.reads.length rc) ∧ W.cell? ⟨g, k * 10 + 9, none⟩ = some (.slice wa u.writes.length wk) := by
  have hadd : ∀ j, (⟨g, k * 10, none⟩ : Addr).add j = ⟨g, k * 10 + j, none⟩ := by intro j; unfold Addr.add; split <;> simp_all
  have h' : ∀ j v, [.string u.id, e0, e0, e0, e0, .pointer none, .pointer none, .pointer none, .slice ra u.reads.length rc, .slice wa u.writes.length wk][j]? = some v → W.cell? ⟨g, k * 10 + j, none⟩ = some v := fun j v hj => by rw [← hadd]; exact h j v hj
  exact ⟨h' 0 _ rfl, h' 1 _ rfl, h' 2 _ rfl, h' 3 _ rfl, h' 4 _ rfl, h' 5 _ rfl, h' 6 _ rfl, h' 7 _ rfl, h' 8 _ rfl, h' 9 _ rfl⟩
theorem results_tmp5 {fn : Func} {t1 t2 t3 t4 t5 : Tmp} (h : fn.results = #[.tmp t1, .tmp t2, .tmp t3, .tmp t4, .tmp t5]) (tmps : Array Value) (P : Program) (w : World) :
    (results fn tmps).run P w = .ok (.tuple #[tmps.getD t1 undef, tmps.getD t2 undef, tmps.getD t3 undef, tmps.getD t4 undef, tmps.getD t5 undef]) w := by
  simp [results, h]
set_option maxHeartbeats 2000000 in
theorem fields_ok (bb : Nat) (a0 a1 : Option Addr) (n0 n1 c0 c1 m1 m2 m3 : Nat) (w : World) (h : w.heap[bb]? = some (.cells #[.slice a0 n0 c0, .slice a1 n1 c1, .map (some m1), .map (some m2), .map (some m3)] 61 (0, 0))) :
    Calls Try.prog 26 #[.pointer (some ⟨bb, 0, none⟩)] w fun e w' => e = .returned (.tuple #[.slice a0 n0 c0, .slice a1 n1 c1, .map (some m1), .map (some m2), .map (some m3)]) ∧ New w w' := by
  have x0 : w.cell? ⟨bb, 0, none⟩ = some (.slice a0 n0 c0) := cell_of_row _ _ _ _ _ _ h
  have x1 : w.cell? ⟨bb, 1, none⟩ = some (.slice a1 n1 c1) := cell_of_row _ _ _ _ _ _ h
  have x2 : w.cell? ⟨bb, 2, none⟩ = some (.map (some m1)) := cell_of_row _ _ _ _ _ _ h
  have x3 : w.cell? ⟨bb, 3, none⟩ = some (.map (some m2)) := cell_of_row _ _ _ _ _ _ h
  have x4 : w.cell? ⟨bb, 4, none⟩ = some (.map (some m3)) := cell_of_row _ _ _ _ _ _ h
  clear h
  go_enter Try.func26, Try.ntmps26
  go_upto_region 1 with fail
  go_quiet (fail)
  go_wp2
  (try simp only [Exit.inBlock, Exit.then])
  refine bodyPost_ret (results_tmp5 rfl _ _ _) rfl ?_
  exact ⟨rfl, (Kp.refl _ _).drewN _⟩
end Go.Proofs.Qxb6600552a.kt
