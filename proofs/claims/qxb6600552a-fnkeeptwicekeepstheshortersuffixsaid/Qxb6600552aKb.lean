/-
  slices.Clone at units and at strings: the walks.
-/
import Derived.Test.Qxb6600552aBv
import Derived.Lib.SliceRun
set_option linter.unusedVariables false
set_option linter.unusedSimpArgs false
namespace Go.Proofs.Qxb6600552a.kt
open Go.ChangeShapes Go.WideShapes Go.RowKit Go.Maps

theorem own_empty (w : World) (e : TypeId) (size : Nat) : (w.alloc (.cells #[] e)).ownsRow w.heap.size e size (.slice (some ⟨w.heap.size, 0, none⟩) 0 0) 0 [] :=
  ⟨by simp, .inr ⟨w.heap.size, 0, #[], rfl, Nat.le_refl _, heap_alloc_new _ _, Nat.le_refl _, Nat.zero_le _, by simp, by simp⟩⟩
set_option maxHeartbeats 2000000 in
theorem cloneU_ok (ad : Addr) (m c : Nat) (news : List Value) (w : World) (hl : news.length = m * 10) (hn : ∀ j u, news[j]? = some u → w.cell? (ad.add j) = some u) (h1 : ∀ u, u ∈ news → u.oneCell' = true) (hm : m ≤ 65536) :
    Calls Try.prog 24 #[.slice (some ad) m c] w fun e w' => ∃ v, e = .returned v ∧ w'.ownsRow w.heap.size 43 10 v m news ∧ New w w' := by
  obtain ⟨i43, hi43, hz430, hz431, hz432⟩ := info_parts info43
  have HN : Hid (∀ j u, news[j]? = some u → (w.alloc (.cells #[] 43)).cell? (ad.add j) = some u) := Lib.hid (fun j u hj => Lib.cell?_alloc_some _ (hn j u hj))
  have H1 := Lib.hid h1
  clear hn h1
  have heq := Lib.run_eql_slice_nil (P := Try.prog) w 52 43 (some ad) m c 0 0 Try.underlying52
  go_enter Try.func24, Try.ntmps24
  go_wp2_with (at_builtin; refine wpList_append_own_at _ rfl _ _ 52 rfl w.heap.size 43 i43 (.agg #[e0, e0, e0, e0, e0, .pointer none, .pointer none, .pointer none, .slice none 0 0, .slice none 0 0]) 10 152 Try.underlying52 hi43 hz430 hz431 hz432 rfl (by decide) _ _ _ rfl (own_empty w 43 10) ad m c news rfl hl HN.out H1.out (by unfold maxLen; omega) (by omega) (by simp) ?_; intro v' w1 hown' hgrow hnil hloc)
  go_ret
  rw [Nat.zero_add, List.nil_append] at hown'
  exact ⟨v', rfl, hown', ((Kp.refl _ _).alloc _).grown hgrow (fun k hk => by cases hk; exact .inl (Nat.le_refl _))⟩
set_option maxHeartbeats 2000000 in
theorem cloneS_ok (ad : Addr) (m c : Nat) (news : List Value) (w : World) (hl : news.length = m * 1) (hn : ∀ j u, news[j]? = some u → w.cell? (ad.add j) = some u) (h1 : ∀ u, u ∈ news → u.oneCell' = true) (hm : m ≤ 65536) :
    Calls Try.prog 25 #[.slice (some ad) m c] w fun e w' => ∃ v, e = .returned v ∧ w'.ownsRow w.heap.size 9 1 v m news ∧ New w w' := by
  obtain ⟨i9, hi9, hz90, hz91, hz92⟩ := info_parts info9
  have HN : Hid (∀ j u, news[j]? = some u → (w.alloc (.cells #[] 9)).cell? (ad.add j) = some u) := Lib.hid (fun j u hj => Lib.cell?_alloc_some _ (hn j u hj))
  have H1 := Lib.hid h1
  clear hn h1
  have heq := Lib.run_eql_slice_nil (P := Try.prog) w 26 9 (some ad) m c 0 0 Try.underlying26
  go_enter Try.func25, Try.ntmps25
  go_wp2_with (at_builtin; refine wpList_append_own_at _ rfl _ _ 26 rfl w.heap.size 9 i9 e0 1 16 Try.underlying26 hi9 hz90 hz91 hz92 rfl (by decide) _ _ _ rfl (own_empty w 9 1) ad m c news rfl hl HN.out H1.out (by unfold maxLen; omega) (by omega) (by simp) ?_; intro v' w1 hown' hgrow hnil hloc)
  go_ret
  rw [Nat.zero_add, List.nil_append] at hown'
  exact ⟨v', rfl, hown', ((Kp.refl _ _).alloc _).grown hgrow (fun k hk => by cases hk; exact .inl (Nat.le_refl _))⟩
end Go.Proofs.Qxb6600552a.kt
