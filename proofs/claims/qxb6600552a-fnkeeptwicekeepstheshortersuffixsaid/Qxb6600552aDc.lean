/-
  'b1DistinctIDs', 'ZZB1NewBuilder': the walks.
-/
import Derived.Test.Qxb6600552aDa
namespace Go.Proofs.Qxb6600552a.kt
open Go.ChangeShapes Go.WideShapes Go.RowKit Go.Maps

theorem zero4 (w : World) : (zeroValue 4).run Try.prog w = .ok (.bool false) w := by kernel_rfl
theorem zero3 (w : World) : (zeroValue 3).run Try.prog w = .ok (.int .i64 0) w := by kernel_rfl
theorem zero26 (w : World) : (zeroValue 26).run Try.prog w = .ok (.slice none 0 0) w := by kernel_rfl

/-- the first k ids -/
def Rids (us : List U) (k : Nat) (key v : Value) : Prop := v = .bool true ∧ ∃ j, ∃ h : j < us.length, j < k ∧ key = .string (us[j]).id
def Dist (us : List U) (k : Nat) : Prop := ∀ i j (hi : i < us.length) (hj : j < us.length), i < j → j < k → (us[i]).id ≠ (us[j]).id
theorem Rids_put {us : List U} {k : Nat} (h : k < us.length) (key v : Value) : putR (Rids us k) (.string (us[k]).id) (.bool true) key v ↔ Rids us (k + 1) key v := by
  constructor
  · rintro (⟨rfl, rfl⟩ | ⟨_, rfl, j, hj, hk, rfl⟩)
    · exact ⟨rfl, k, h, by omega, rfl⟩
    · exact ⟨rfl, j, hj, by omega, rfl⟩
  · rintro ⟨rfl, j, hj, hk, rfl⟩
    by_cases e : Value.string (us[j]).id = .string (us[k]).id
    · exact .inl ⟨e, rfl⟩
    · refine .inr ⟨e, rfl, j, hj, ?_, rfl⟩
      rcases Nat.lt_or_ge j k with q | q
      · exact q
      · have : j = k := by omega
        subst this
        exact absurd rfl e
set_option maxHeartbeats 2000000 in
theorem dist_ok (a : Option Addr) (c : Nat) (us : List U) (w : World) (hl : us.length ≤ 65536) (h : USrc w.heap.size w (.slice a us.length c) us) (hz : ∀ u, u ∈ us → Sz u) :
    Calls Try.prog 9 #[.slice a us.length c] w fun e w' => ∃ b, e = .returned (.bool b) ∧ (b = true → Dist us us.length) ∧ New w w' := by
  have HU := Lib.hid h
  have HZ := Lib.hid hz
  have hmm := @run_makeMap Try.prog
  clear h hz
  go_enter Try.func9, Try.ntmps9
  go_wp2
  go_loopw [4] (fun i W => ∃ k : Nat, k ≤ us.length ∧ i = .int .i64 k ∧ Hid (MV W 9 w.heap.size k (Rids us k)) ∧ Hid (Dist us k) ∧ Hid (New w W)) (fun i _ => us.length - (intOf i).toNat)
  case atStart => exact ⟨0, by omega, rfl, Lib.hid ((mv_made w 9).congr fun k v => ⟨fun h => h.elim, fun ⟨_, j, _, h, _⟩ => by omega⟩), Lib.hid (fun i j _ _ _ h => by omega), Lib.hid ((Kp.refl _ _).alloc _)⟩
  case round =>
    obtain ⟨k, hk, rfl, HM, HD, HW⟩ := hrel
    by_cases hlt : k < us.length
    · obtain ⟨b, o, ra, rc, wa, wc, eb, hb, d0, d1, d2, d3, hr, hs⟩ := HU.out.at HW.out.below hlt
      cases eb
      have zk := HZ.out _ (List.getElem_mem hlt)
      rcases HM.out.look kS Try.underlying51 (zero4 _) ⟨_, key_str (show (us[k]).id.size ≤ maxLen from zk.1)⟩ with ⟨v, hv, hrun, _⟩ | ⟨hv, hrun, _⟩
      · obtain ⟨rfl, _⟩ := hv
        obtain ⟨s, hu⟩ : ∃ s, s = (us[k]).id := ⟨_, rfl⟩
        rw [← hu] at d0 hrun
        clear hu d1 d2 d3 hr hs zk
        go_wp2
        go_ret
        exact ⟨false, rfl, (fun h => by cases h), HW.out⟩
      · obtain ⟨w1, hst, hm1, ht1⟩ := HM.out.store kS Try.underlying51 (show k < maxLen by unfold maxLen; omega) ⟨_, key_str (show (us[k]).id.size ≤ maxLen from zk.1)⟩ (.bool true)
        have HM' := Lib.hid (hm1.congr (Rids_put hlt))
        have HW' := Lib.hid (HW.out.turned ht1 (.inl (Nat.le_refl _)))
        have HD' : Hid (Dist us (k + 1)) := Lib.hid (by
          intro i j hi hj hij hjk
          by_cases e : j < k
          · exact HD.out i j hi hj hij e
          · have : j = k := by omega
            subst this
            intro he
            exact hv _ ⟨rfl, i, hi, hij, by rw [he]⟩)
        obtain ⟨s, hu⟩ : ∃ s, s = (us[k]).id := ⟨_, rfl⟩
        rw [← hu] at d0 hrun hst
        clear hu d1 d2 d3 hr hs zk hm1 ht1 hv HM HD
        go_wp2
        go_roundw
        case rel => exact ⟨k + 1, by omega, by go_num, HM', HD', HW'⟩
        case measure => simp [intOf]; omega
    · have hkk : k = us.length := by omega
      subst hkk
      go_wp2
      go_ret
      exact ⟨_, rfl, (fun _ => HD.out), HW.out⟩
theorem newb_ok (a0 a1 : Option Addr) (n0 n1 c0 c1 m1 m2 m3 : Nat) (w : World) : Calls Try.prog 21 #[.slice a0 n0 c0, .slice a1 n1 c1, .map (some m1), .map (some m2), .map (some m3)] w fun e w' =>
    e = .returned (.pointer (some ⟨w.heap.size, 0, none⟩)) ∧ w' = w.alloc (.cells #[.slice a0 n0 c0, .slice a1 n1 c1, .map (some m1), .map (some m2), .map (some m3)] 61) := by
  go_enter Try.func21, Try.ntmps21
  go_wp2
  go_ret
  exact ⟨rfl, rfl⟩
end Go.Proofs.Qxb6600552a.kt
