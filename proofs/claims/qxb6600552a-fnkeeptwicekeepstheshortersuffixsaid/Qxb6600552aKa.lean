/-
  'Keep''s closure, slices.IndexFunc, slices.DeleteFunc: the walks.
-/
import Derived.Test.Qxb6600552aBt
import Derived.Lib.SliceRun
set_option linter.unusedVariables false
set_option linter.unusedSimpArgs false
namespace Go.Proofs.Qxb6600552a.kt
open Go.ChangeShapes Go.WideShapes Go.RowKit Go.Maps

/-- the ids that are gone -/
def Rgone (P : ByteArray → Bool) (key v : Value) : Prop := v = .bool true ∧ ∃ s, key = .string s ∧ P s = true
/-- the captured variable, and the map that it holds -/
def Gone (w : World) (gc mg n : Nat) (P : ByteArray → Bool) : Prop := w.cell? ⟨gc, 0, none⟩ = some (.map (some mg)) ∧ MV w 9 mg n (Rgone P)
theorem Gone.kp {w w' : World} {gc mg n : Nat} {P : ByteArray → Bool} {S : Nat → Prop} (h : Gone w gc mg n P) (hk : Kp S w w') (h1 : ¬ S gc) (h2 : ¬ S mg) : Gone w' gc mg n P :=
  ⟨by rw [hk.cell (p := ⟨gc, 0, none⟩) (World.block_lt_of_cell? w _ h.1) h1]; exact h.1, h.2.kp hk h2⟩
theorem gone_ok (id : ByteArray) (gc mg n : Nat) (P : ByteArray → Bool) (w : World) (h : Gone w gc mg n P) (hz : id.size ≤ maxLen) :
    Calls Try.prog 23 #[.string id, .pointer (some ⟨gc, 0, none⟩)] w fun e w' => e = .returned (.bool (P id)) ∧ w' = w := by
  obtain ⟨h1, h2⟩ := h
  rcases h2.look kS Try.underlying51 (zero4 _) ⟨_, key_str hz⟩ with ⟨v, ⟨rfl, s, e, hP⟩, hr, _⟩ | ⟨hn, hr, _⟩
  · cases e
    go_enter Try.func23, Try.ntmps23
    go_wp2
    go_ret
    exact ⟨by rw [hP]; rfl, rfl⟩
  · have hP : P id = false := by
      cases hq : P id with
      | false => rfl
      | true => exact absurd ⟨rfl, id, rfl, hq⟩ (hn _)
    go_enter Try.func23, Try.ntmps23
    go_wp2
    go_ret
    exact ⟨by rw [hP]; rfl, rfl⟩

/-- the closure's value -/
abbrev clo (gc : Nat) : Value := .func (.func 23) #[] #[.pointer (some ⟨gc, 0, none⟩)]

/-- a row of strings -/
abbrev Strs (w : World) (B g cap : Nat) (ids : List ByteArray) : Prop := w.ownsRow B 9 1 (.slice (some ⟨g, 0, none⟩) ids.length cap) ids.length (ids.map Value.string)
theorem strs_at {w : World} {B g cap n : Nat} {row : List Value} (h : w.ownsRow B 9 1 (.slice (some ⟨g, 0, none⟩) n cap) n row) {k : Nat} {v : Value} (hk : row[k]? = some v) : w.cell? ⟨g, k, none⟩ = some v ∧ w.frozen? ⟨g, k, none⟩ = false := by
  have hlt : k < row.length := (List.getElem?_eq_some_iff.1 hk).1
  rw [h.1, Nat.mul_one] at hlt
  exact ⟨by rw [h.cellAt k (by omega)]; exact hk, h.frozenAt k⟩
set_option maxHeartbeats 2000000 in
theorem index_ok (B g cap gc mg n : Nat) (P : ByteArray → Bool) (ids : List ByteArray) (w : World) (hs : Strs w B g cap ids) (hg : Gone w gc mg n P) (hz : ∀ x, x ∈ ids → x.size ≤ maxLen) (hl : ids.length ≤ 1000000) :
    Calls Try.prog 30 #[.slice (some ⟨g, 0, none⟩) ids.length cap, clo gc] w fun e w' => w' = w ∧ ((e = .returned (.int .i64 (-1)) ∧ ∀ x, x ∈ ids → P x = false) ∨
      ∃ i : Nat, ∃ h : i < ids.length, e = .returned (.int .i64 i) ∧ P ids[i] = true ∧ ∀ j (h' : j < ids.length), j < i → P ids[j] = false) := by
  have HS := Lib.hid hs
  have HG := Lib.hid hg
  have HZ := Lib.hid hz
  clear hs hg hz
  go_enter Try.func30, Try.ntmps30
  go_wp2_with fail
  go_loopw [8] (fun i W => ∃ k : Nat, k ≤ ids.length ∧ i = .int .i64 k ∧ Hid (∀ j (h' : j < ids.length), j < k → P ids[j] = false) ∧ W = w) (fun i _ => ids.length - (intOf i).toNat)
  case atStart => exact ⟨0, by omega, rfl, Lib.hid (fun j _ h => by omega), rfl⟩
  case round =>
    obtain ⟨k, hk, rfl, HP, hW⟩ := hrel
    replace hW := hW.symm
    subst hW
    by_cases hlt : k < ids.length
    · obtain ⟨c1, _⟩ := strs_at HS.out (k := k) (v := .string ids[k]) (by rw [List.getElem?_map, List.getElem?_eq_getElem hlt]; rfl)
      have zk := HZ.out _ (List.getElem_mem hlt)
      obtain ⟨s, hss⟩ : ∃ s, s = ids[k] := ⟨_, rfl⟩
      rw [← hss] at c1 zk
      have HSS := Lib.hid hss
      clear hss
      go_wp2_with fail
      refine (gone_ok s gc mg n P _ HG.out zk).mono ?_
      rintro e w' ⟨rfl, hW⟩
      replace hW := hW.symm
      subst hW
      cases hq : P s with
      | true =>
        have HQ := Lib.hid hq
        clear hq
        go_wp2
        go_ret
        exact ⟨rfl, .inr ⟨k, hlt, rfl, by rw [← HSS.out]; exact HQ.out, HP.out⟩⟩
      | false =>
        have HP' : Hid (∀ j (h' : j < ids.length), j < k + 1 → P ids[j] = false) := Lib.hid (by
          intro j h' hj
          by_cases e : j < k
          · exact HP.out j h' e
          · have : j = k := by omega
            subst this
            rw [← HSS.out]; exact hq)
        clear hq
        go_wp2
        go_roundw
        case rel => exact ⟨k + 1, by omega, by go_num, HP', by trivial⟩
        case measure => simp [intOf]; omega
    · have hkk : k = ids.length := by omega
      subst hkk
      go_wp2
      go_ret
      exact ⟨rfl, .inl ⟨rfl, fun x hx => by
        obtain ⟨j, hj, rfl⟩ := List.mem_iff_getElem.1 hx
        exact HP.out j hj hj⟩⟩

/-- those that stay -/
def stay (P : ByteArray → Bool) (ids : List ByteArray) : List ByteArray := ids.filter fun x => !P x
theorem stay_snoc (P : ByteArray → Bool) {ids : List ByteArray} {k : Nat} (h : k < ids.length) : stay P (ids.take (k + 1)) = stay P (ids.take k) ++ (if P ids[k] then [] else [ids[k]]) := by
  unfold stay
  rw [List.take_succ_eq_append_getElem h, List.filter_append]
  congr 1
  cases hq : P ids[k] <;> simp [hq]
theorem stay_len (P : ByteArray → Bool) (ids : List ByteArray) : (stay P ids).length ≤ ids.length := List.length_filter_le _ _
/-- the row in the midst of the work: those that stay of the first j, then whatever, then the rest as it was -/
def Mid (w : World) (B g cap : Nat) (P : ByteArray → Bool) (ids : List ByteArray) (j : Nat) : Prop :=
  ∃ row, w.ownsRow B 9 1 (.slice (some ⟨g, 0, none⟩) ids.length cap) ids.length row ∧ row.take (stay P (ids.take j)).length = (stay P (ids.take j)).map Value.string ∧ ∀ t, j ≤ t → row[t]? = (ids.map Value.string)[t]?
theorem Mid.skip {w : World} {B g cap : Nat} {P : ByteArray → Bool} {ids : List ByteArray} {j : Nat} (h : Mid w B g cap P ids j) (hj : j < ids.length) (hP : P ids[j] = true) : Mid w B g cap P ids (j + 1) := by
  obtain ⟨row, h1, h2, h3⟩ := h
  refine ⟨row, h1, ?_, fun t ht => h3 t (by omega)⟩
  rw [stay_snoc P hj, hP, if_pos rfl, List.append_nil]
  exact h2
theorem Mid.keep {w : World} {B g cap : Nat} {P : ByteArray → Bool} {ids : List ByteArray} {j : Nat} (h : Mid w B g cap P ids j) (hj : j < ids.length) (hP : P ids[j] = false) :
    Mid (w.setCell ⟨g, (stay P (ids.take j)).length, none⟩ (.string ids[j])) B g cap P ids (j + 1) := by
  obtain ⟨row, h1, h2, h3⟩ := h
  have hl := stay_len P (ids.take j)
  rw [List.length_take] at hl
  have hr := h1.1
  rw [Nat.mul_one] at hr
  refine ⟨_, (h1.stored (stay P (ids.take j)).length (.string ids[j])).1, ?_, fun t ht => ?_⟩
  · rw [stay_snoc P hj, hP]
    simp only [Bool.false_eq_true, if_false, List.length_append, List.length_cons, List.length_nil, List.map_append, List.map_cons, List.map_nil]
    rw [← h2]
    have hlt : (stay P (ids.take j)).length < (row.set (stay P (ids.take j)).length (.string ids[j])).length := by rw [List.length_set]; omega
    rw [Nat.zero_add, List.take_succ_eq_append_getElem hlt, List.take_set_of_le (Nat.le_refl _)]
    simp
  · rw [List.getElem?_set_ne (by omega)]
    exact h3 t (by omega)
theorem Mid.at {w : World} {B g cap : Nat} {P : ByteArray → Bool} {ids : List ByteArray} {j : Nat} (h : Mid w B g cap P ids j) (hj : j < ids.length) : w.cell? ⟨g, j, none⟩ = some (.string ids[j]) := by
  obtain ⟨row, h1, h2, h3⟩ := h
  exact (strs_at h1 (by rw [h3 j (Nat.le_refl _), List.getElem?_map, List.getElem?_eq_getElem hj]; rfl)).1
theorem Mid.slot {w : World} {B g cap : Nat} {P : ByteArray → Bool} {ids : List ByteArray} {j k : Nat} (h : Mid w B g cap P ids j) (hk : k < ids.length) : (∃ u, w.cell? ⟨g, k, none⟩ = some u) ∧ w.frozen? ⟨g, k, none⟩ = false := by
  obtain ⟨row, h1, h2, h3⟩ := h
  have hr := h1.1
  rw [Nat.mul_one] at hr
  have := strs_at h1 (k := k) (v := row[k]'(by omega)) (by rw [List.getElem?_eq_getElem])
  exact ⟨⟨_, this.1⟩, this.2⟩
theorem Mid.start {w : World} {B g cap : Nat} {P : ByteArray → Bool} {ids : List ByteArray} (h : Strs w B g cap ids) {i : Nat} (hi : i < ids.length) (hP : P ids[i] = true) (hn : ∀ j (h' : j < ids.length), j < i → P ids[j] = false) :
    Mid w B g cap P ids (i + 1) ∧ (stay P (ids.take (i + 1))).length = i := by
  have e : stay P (ids.take i) = ids.take i := by
    unfold stay
    rw [List.filter_eq_self]
    intro x hx
    obtain ⟨j, hj, rfl⟩ := List.mem_iff_getElem.1 hx
    rw [List.length_take] at hj
    rw [List.getElem_take, hn j (by omega) (by omega)]
    rfl
  have e2 : stay P (ids.take (i + 1)) = ids.take i := by rw [stay_snoc P hi, hP, if_pos rfl, List.append_nil, e]
  have e3 : (stay P (ids.take (i + 1))).length = i := by rw [e2, List.length_take]; omega
  refine ⟨⟨_, h, ?_, fun t _ => rfl⟩, e3⟩
  rw [e3, e2, List.map_take]
/-- what is left behind is laid empty -/
theorem run_clear_own {w : World} {B g cap n : Nat} {row : List Value} (h : w.ownsRow B 9 1 (.slice (some ⟨g, 0, none⟩) n cap) n row) (o m c : Nat) (hom : o + m ≤ n) (ty : TypeId) :
    (Builtin.clear_ #[26] ty #[.slice (some ⟨g, o, none⟩) m c]).run Try.prog w = .ok (.tuple #[]) (setCells w g o (List.replicate m e0)) := by
  cases m with
  | zero => simp [Builtin.clear_, run_underlying Try.underlying26, setCells]
  | succ m =>
    have hz : (zeroValue 9).run Try.prog w = .ok e0 w := by kernel_rfl
    have hzc : (Builtin.zeroCells (Value.cells e0) (m + 1)).toList = List.replicate (m + 1) e0 := by
      show (Builtin.zeroCells #[e0] (m + 1)).toList = _
      simp [Builtin.zeroCells]
      apply List.ext_getElem
      · simp
      · intro i h1 h2
        simp [Nat.mod_one]
    have hst := run_storeCells_own (B := B) (e := 9) (size := 1) (n := n) (g := g) (cap := cap) o (List.replicate (m + 1) e0) 0 w row h (by rw [List.length_replicate]; omega) (by intro v hv; rw [List.eq_of_mem_replicate hv]; rfl)
    rw [Nat.add_zero] at hst
    simp [Builtin.clear_, run_underlying Try.underlying26, hz, hzc, hst]
theorem Mid.done {w : World} {B g cap : Nat} {P : ByteArray → Bool} {ids : List ByteArray} (h : Mid w B g cap P ids ids.length) (c : Nat) :
    (∀ ty, (Builtin.clear_ #[26] ty #[.slice (some ⟨g, (stay P ids).length, none⟩) (ids.length - (stay P ids).length) c]).run Try.prog w = .ok (.tuple #[]) (setCells w g (stay P ids).length (List.replicate (ids.length - (stay P ids).length) e0))) ∧
    Strs (setCells w g (stay P ids).length (List.replicate (ids.length - (stay P ids).length) e0)) B g cap (stay P ids) := by
  obtain ⟨row, h1, h2, h3⟩ := h
  rw [List.take_length] at h2
  have hl := stay_len P ids
  refine ⟨fun ty => run_clear_own h1 _ _ c (by omega) ty, ?_⟩
  have h4 := own_cells (w := w) (List.replicate (ids.length - (stay P ids).length) e0) (stay P ids).length w row h1 (by rw [List.length_replicate]; omega)
  obtain ⟨h5, h6⟩ := h4
  rcases h6 with ⟨h6, _⟩ | ⟨g', cap', cur, e1, e2, e3, e4, e5, e6, e7⟩
  · cases h6
  · cases e1
    refine ⟨by rw [List.length_map, Nat.mul_one], .inr ⟨g, cap, cur, rfl, e2, e3, by omega, e5, e6, ?_⟩⟩
    rw [Nat.mul_one] at e7 ⊢
    have e8 := congrArg (List.take (stay P ids).length) e7
    rw [List.take_take, Nat.min_eq_left hl, List.append_assoc, List.take_append_of_le_length (by rw [List.length_take]; have := h1.1; omega), List.take_take, Nat.min_self, h2] at e8
    exact e8
set_option maxHeartbeats 4000000 in
theorem delete_ok (B g cap gc mg n : Nat) (P : ByteArray → Bool) (ids : List ByteArray) (w : World) (hs : Strs w B g cap ids) (hg : Gone w gc mg n P) (h1 : gc ≠ g) (h2 : mg ≠ g) (hz : ∀ x, x ∈ ids → x.size ≤ maxLen) (hl : ids.length ≤ 1000000) :
    Calls Try.prog 22 #[.slice (some ⟨g, 0, none⟩) ids.length cap, clo gc] w fun e w' => e = .returned (.slice (some ⟨g, 0, none⟩) (stay P ids).length cap) ∧ Strs w' B g cap (stay P ids) ∧ Kp (fun j => j = g) w w' := by
  have hcap : ids.length ≤ cap := by
    rcases hs.2 with ⟨h, _⟩ | ⟨g', cap', cur, e1, e2, e3, e4, _⟩
    · cases h
    · cases e1; exact e4
  have HS := Lib.hid hs
  have HG := Lib.hid hg
  have HZ := Lib.hid hz
  clear hs hg hz
  go_enter Try.func22, Try.ntmps22
  go_wp2_with fail
  refine (index_ok B g cap gc mg n P ids w HS.out HG.out HZ.out hl).mono ?_
  rintro e w' ⟨hW, ⟨rfl, hall⟩ | ⟨i, hi, rfl, hPi, hn⟩⟩
  · replace hW := hW.symm
    subst hW
    have HA : Hid (stay P ids = ids) := Lib.hid (by unfold stay; rw [List.filter_eq_self]; intro x hx; rw [hall x hx]; rfl)
    clear hall
    go_wp2
    go_ret
    rw [HA.out]
    exact ⟨rfl, HS.out, Kp.refl _ _⟩
  · replace hW := hW.symm
    subst hW
    have hst := Mid.start HS.out hi hPi hn
    have HM := Lib.hid hst
    have hib : ((i : Int) == -1) = false := by simp
    clear hPi hn hst
    go_wp2_with fail
    go_loopw [5, 6] (fun a b W => ∃ j : Nat, j ≤ ids.length ∧ Hid ((stay P (ids.take j)).length + 1 ≤ j) ∧ a = .int .i64 (stay P (ids.take j)).length ∧ b = .int .i64 j ∧ Hid (Mid W B g cap P ids j) ∧ Hid (Kp (fun j => j = g) w W)) (fun _ b _ => ids.length - (intOf b).toNat)
    case atStart => exact ⟨i + 1, by omega, Lib.hid (by rw [HM.out.2]; omega), by rw [HM.out.2], by go_num, Lib.hid HM.out.1, Lib.hid (Kp.refl _ _)⟩
    case round =>
      obtain ⟨j, hj, HSL, rfl, rfl, HMd, HW⟩ := hrel
      have hsl : (stay P (ids.take j)).length + 1 ≤ j := HSL.out
      by_cases hlt : j < ids.length
      · have c1 := HMd.out.at hlt
        obtain ⟨⟨u0, c2⟩, f2⟩ := HMd.out.slot (k := (stay P (ids.take j)).length) (by omega)
        have zk := HZ.out _ (List.getElem_mem hlt)
        have hsn := stay_snoc P hlt
        have hK1 := HMd.out.skip hlt
        have hK2 := HMd.out.keep hlt
        obtain ⟨s, hss⟩ : ∃ s, s = ids[j] := ⟨_, rfl⟩
        rw [← hss] at c1 zk hsn hK1 hK2
        obtain ⟨q, hq⟩ : ∃ q, q = (stay P (ids.take j)).length := ⟨_, rfl⟩
        have hsn2 := congrArg List.length hsn
        rw [List.length_append, ← hq] at hsn2
        rw [← hq] at c2 f2 hsl hK2 ⊢
        have HK1 := Lib.hid hK1
        have HK2 := Lib.hid hK2
        have HSN := Lib.hid hsn2
        have HG' := Lib.hid (HG.out.kp HW.out h1 h2)
        clear hss hq hsn hsn2 hK1 hK2 HM
        go_wp2_with fail
        refine (gone_ok s gc mg n P _ HG'.out zk).mono ?_
        rintro e w' ⟨rfl, hW⟩
        replace hW := hW.symm
        subst hW
        cases hq : P s with
        | true =>
          have HP := Lib.hid hq
          clear hq
          go_wp2
          go_roundw
          case rel => exact ⟨j + 1, by omega, Lib.hid (by have := HSN.out; rw [HP.out] at this; simp at this; omega), by have := HSN.out; rw [HP.out] at this; simp at this; rw [this], by go_num, Lib.hid (HK1.out HP.out), HW⟩
          case measure => simp [intOf]; omega
        | false =>
          have HP := Lib.hid hq
          have HW' := Lib.hid (Kp.setCell (p := ⟨g, q, none⟩) HW.out (.inr rfl) (.string s))
          clear hq
          go_wp2
          go_roundw
          case rel => exact ⟨j + 1, by omega, Lib.hid (by have := HSN.out; rw [HP.out] at this; simp at this; omega), by have := HSN.out; rw [HP.out] at this; simp at this; rw [this]; go_num, by go_num, Lib.hid (HK2.out HP.out), HW'⟩
          case measure => simp [intOf]; omega
      · have hjj : j = ids.length := by omega
        subst hjj
        obtain ⟨hcl, hfin⟩ := HMd.out.done (cap - (stay P ids).length)
        rw [List.take_length] at hsl ⊢
        have hkp := HW.out.trans (setCells_kp (List.replicate (ids.length - (stay P ids).length) e0) (stay P ids).length wr g)
        obtain ⟨w9, hw9⟩ : ∃ X, X = setCells wr g (stay P ids).length (List.replicate (ids.length - (stay P ids).length) e0) := ⟨_, rfl⟩
        rw [← hw9] at hcl hfin hkp
        have HF := Lib.hid hfin
        have HKP := Lib.hid hkp
        obtain ⟨q, hq⟩ : ∃ q, q = (stay P ids).length := ⟨_, rfl⟩
        rw [← hq] at hcl hsl ⊢
        have HQ := Lib.hid hq
        clear hfin hkp hw9 HM HMd HW hq
        go_wp2
        go_ret
        rw [HQ.out]
        exact ⟨rfl, HF.out, HKP.out⟩
end Go.Proofs.Qxb6600552a.kt
