/-
  'Rows.FnMoveOnSplicesKindsAtOnePlaceSaid': the frame is the guide's own (proof-skeleton.mjs); the walk and the plain law are typed by hand.
-/
import Derived.Test.Qxb6600616aMove
import Derived.Deep.QuietTactic
import Derived.BigQuiet
import Derived.WalkSpells
import Derived.WalkLawsBesides
import Derived.Lib.Strings
import Derived.WalkKit
import Derived.ProofKit
import Derived.OpenShut
import Derived.ShutString
namespace Go.Proofs.Qxb6600616a.fnMoveOnSplicesKindsAtOnePlace
open Go.ChangeShapes Go.WideShapes Go.ChangeAt Go.RowKit
open Go.ChangeMaps (open_string shut_string)
set_option linter.unusedVariables false      -- a walk need not use every 'w<i>' (that an integer argument fits its kind)

theorem own : ownKnob Try.prog.godebug = none := by kernel_rfl

/-! ### THE PLAIN LAW: no Go in sight -/
theorem size3 (pre k post : ByteArray) : (pre ++ k ++ post).size = pre.size + k.size + post.size := by
  rw [ByteArray.size_append, ByteArray.size_append]

theorem gdrewN {W w' : World} {n : Nat} (h : Grown W w') : Grown W (w'.drewN n) := h
theorem same {pre post E Z : ByteArray} (k : Nat) (hp : pre.size = 150) (hk : k < 150) (hE : E = pre ++ ⟨#[]⟩ ++ post) (hZ : Z = pre ++ ⟨#[0]⟩ ++ post) (h1 : k < Z.size) (h2 : k < E.size) : Z[k] = E[k] := by
  have hz : ∀ (x : ByteArray) (h : k < (pre ++ x ++ post).size), (pre ++ x ++ post)[k] = pre[k] := by
    intro x h
    rw [ByteArray.getElem_append_left (by rw [ByteArray.size_append]; omega), ByteArray.getElem_append_left (by omega)]
  subst hE hZ
  rw [hz, hz]

theorem apart {pre post E Z : ByteArray} (hp : pre.size = 150) (hh : post.data.toList[0]? = some 41) (hE : E = pre ++ ⟨#[]⟩ ++ post) (hZ : Z = pre ++ ⟨#[0]⟩ ++ post) (h1 : 150 < Z.size) (h2 : 150 < E.size) :
    ((Z[150].toNat : Int) == (E[150].toNat : Int)) = false := by
  have hz : Z.data.toList[150]? = some 0 := by
    subst hZ
    have : pre.data.toList.length = 150 := by rw [← Lib.size_eq]; exact hp
    simp [this]
  have he : E.data.toList[150]? = some 41 := by
    subst hE
    have : pre.data.toList.length = 150 := by rw [← Lib.size_eq]; exact hp
    rw [ByteArray.data_append, ByteArray.data_append, Array.toList_append, Array.toList_append, List.getElem?_append_right (by simp [this]), ← hh]
    simp [this]
  have hz' : Z[150] = 0 := by simpa [ByteArray.getElem_eq_getElem_data, h1] using hz
  have he' : E[150] = 41 := by simpa [ByteArray.getElem_eq_getElem_data, h2] using he
  rw [hz', he']
  rfl

theorem spliced {pre post E : ByteArray} (hp : pre.size = 150) (hq : post.size = 117) (hE : E = pre ++ ⟨#[]⟩ ++ post) (k : ByteArray) :
    E.extract 0 150 ++ k ++ E.extract 150 267 = pre ++ k ++ post := by
  have l1 : pre.data.toList.length = 150 := by rw [← Lib.size_eq]; exact hp
  have l2 : post.data.toList.length = 117 := by rw [← Lib.size_eq]; exact hq
  have e1 : E.data.toList = pre.data.toList ++ post.data.toList := by subst hE; simp
  have a1 : E.extract 0 150 = pre := by
    rw [Lib.extract_eq, e1]
    simp [← l1]
  have a2 : E.extract 150 267 = post := by
    rw [Lib.extract_eq, e1]
    rw [List.drop_append_of_le_length (by omega), List.drop_of_length_le (by omega), List.nil_append, List.take_of_length_le (by omega)]
  rw [a1, a2]

/-! ### STEP 1: THE WALK: the Go text returns true. 'Grown w w'': the world has at most new blocks (Derived/RowKit3.lean). Part the cases AHEAD of 'go_enter' where a test parts the walk; take each callee by a contract of your own. -/
set_option maxHeartbeats 400000 in
theorem walk (a0 : ByteArray) (w0 : a0.size ≤ maxLen) (w : World) :
    Calls Try.prog 5 #[.string a0] w fun e w' => e = .returned (.bool true) ∧ Grown w w' := by
  unfold maxLen at w0
  obtain ⟨pre, post, m⟩ := mv.moveOn_is
  obtain ⟨E, hE⟩ : ∃ E, E = pre ++ ⟨#[]⟩ ++ post := ⟨_, rfl⟩
  obtain ⟨Z, hZ⟩ : ∃ Z, Z = pre ++ ⟨#[0]⟩ ++ post := ⟨_, rfl⟩
  have zE : ∀ w, Calls Try.prog 13 #[.string ⟨#[]⟩] w fun e w' => e = .returned (.string E) ∧ w' = w := by
    rw [hE]; exact fun w => mv.zz m _ _ (by decide)
  have zZ : ∀ w, Calls Try.prog 13 #[.string ⟨#[0]⟩] w fun e w' => e = .returned (.string Z) ∧ w' = w := by
    rw [hZ]; exact fun w => mv.zz m _ _ (by decide)
  have sE : E.size = 267 := by rw [hE, size3, m.szPre, m.szPost]; rfl
  have sZ : Z.size = 268 := by rw [hZ, size3, m.szPre, m.szPost]; rfl
  have HE : Hid (E = pre ++ ⟨#[]⟩ ++ post) := hE
  have HZ : Hid (Z = pre ++ ⟨#[0]⟩ ++ post) := hZ
  have HzE : Hid _ := zE
  have HzZ : Hid _ := zZ
  clear hE hZ zE zZ
  by_cases c1 : a0.size ≤ 1048576
  · go_enter Try.func5, Try.ntmps5
    go_wp2_with (first | (go_at_call 12; go_in))
    refine (HzE.out _).mono ?_; rintro e w' ⟨rfl, rfl⟩
    go_wp2_with fail
    refine (HzZ.out _).mono ?_; rintro e w' ⟨rfl, rfl⟩
    go_wp2_with fail
    go_loopw [5] (fun p W => Grown w' W ∧ ∃ k : Nat, k ≤ 150 ∧ p = .int .i64 k) (fun p W => 150 - (intOf p).toNat)
    case atStart => exact ⟨Grown.refl _, 0, by omega, rfl⟩
    case round =>
      obtain ⟨hg, k, hk, rfl⟩ := hrel
      by_cases hlt : k < 150
      · have g1 : (k : Int) < 267 := by omega
        have g2 : decide ((k : Int) < 267) = true := by simpa using g1
        have g3 : (k : Int) < 268 := by omega
        have g4 : (((Z[k]'(by omega)).toNat : Int) == ((E[k]'(by omega)).toNat : Int)) = true := by
          rw [same k m.szPre hlt HE.out HZ.out (by omega) (by omega)]; simp
        go_wp2
        go_quiet (fail)
        go_wp2
        go_roundw
        case rel => exact ⟨gdrewN hg, k + 1, by omega, by go_num⟩
        case measure => simp [intOf]; omega
      · have e : k = 150 := by omega
        subst e
        have g4 : (((Z[150]'(by omega)).toNat : Int) == ((E[150]'(by omega)).toNat : Int)) = false :=
          apart m.szPre m.head HE.out HZ.out (by omega) (by omega)
        have g5 : (!Z.toList == (E.extract 0 150 ++ { data := #[0] } ++ E.extract 150 267).toList) = false := by
          rw [spliced m.szPre m.szPost HE.out, HZ.out]; simp
        have H6 : Hid (((pre ++ a0 ++ post).toList == (E.extract 0 150 ++ a0 ++ E.extract 150 267).toList) = true) := by
          rw [spliced m.szPre m.szPost HE.out]; exact beq_self_eq_true _
        go_wp2
        go_quiet (fail)
        go_wp2
        go_quiet (fail)
        go_wp2
        go_quiet ((go_at_call 13; exact (mv.zz m _ _ c1).mono fun _ _ ⟨he, hw⟩ => ⟨he, _, hw⟩))
        go_wp2
        go_ret
        exact ⟨by rw [H6.out]; rfl, hg⟩
  · go_enter Try.func5, Try.ntmps5
    go_wp2
    go_ret
    exact ⟨rfl, Grown.refl _⟩

/-! ### THE ROW's STEP: WRITTEN OUT: LEAVE IT -/
set_option maxRecDepth 100000 in
theorem lifted (os : Os) (started : os.Started) (H : Type) (enc : TypeId × Value → H) :
    ReturnsInHanded {} Try.checked os 5 .any (Rows.fnMoveOnSplicesKindsAtOnePlaceSpec.pre6 enc Try.prog Try.f5 Rows.fnMoveOnSplicesKindsAtOnePlaceRow.domain false) (Rows.fnMoveOnSplicesKindsAtOnePlaceSpec.post enc Try.prog Try.f5 false true false false) := by
  refine returnsInHanded_of_change (C := Try.checked) own started (by kernel_rfl) Try.func5
    (ChangeSpec.witness6 (enc := enc) (C := Try.checked) false ⟨#[], #[.string ByteArray.empty], []⟩ 8 (by kernel_rfl) (by kernel_rfl) (by kernel_rfl) (by kernel_rfl)) ?_
  intro W base args ds gs before hval0 hW hcnd _
  have hval : ∀ (j : Nat) t v, Try.f5.params[j]? = some t → args[j]? = some v → Value.okWide Try.prog W .any base t v := hval0
  have hW' := hW
  obtain ⟨p, q, hA0, hV, rfl, hfz, hnd⟩ := hW
  have hA : DataW.TrodAll enc Try.prog W 0 (fun _ => true) true Try.f5.params.toList args.toList ds p := hA0
  rw [Try.params5] at hA hval
  obtain ⟨v0, vs0, d0, ds0, p0, q0, hargs, rfl, rfl, h0, r0⟩ := trodAll_cons hA
  obtain ⟨rfl, rfl, rfl⟩ := trodAll_nil r0
  obtain rfl : args = #[v0] := by cases args; simp_all
  obtain ⟨rfl, rfl⟩ := trodVars_none hV
  obtain ⟨a0, rfl, rfl, rfl, w0⟩ := open_string Try.underlying9 (hval 0 9 v0 rfl rfl) h0
  clear hA0 hval0
  simp only [List.append_nil] at hW'
  refine (walk a0 w0 W).mono fun e W' ⟨he, hg⟩ => ?_
  subst he
  exact ⟨_, rfl, post_of_same (pa := []) (pv := []) hW' (fun _ _ _ => (trodAll_cons_mk (shut_bool Try.underlying4 _) trodAll_mk0)) (fun sp _ => (trodAll_cons_mk (shut_string Try.underlying9 w0) trodAll_mk0)) (fun _ _ => rfl) rfl
    (hg.frame _) hg.2.1 (ok_one (by kernel_rfl) rfl (okWide_bool_mk Try.underlying4 _))⟩

theorem over : Rows.fnMoveOnSplicesKindsAtOnePlaceRow.holds Try.pinned (OpenSpec.ofChange Rows.fnMoveOnSplicesKindsAtOnePlaceSpec) :=
  OpenClaim.holds_of_wide 5 Try.f5 rfl rfl rfl rfl rfl rfl rfl ⟨rfl, rfl, rfl, rfl, rfl⟩ rfl rfl rfl rfl rfl (by kernel_rfl) Try.func5 (by kernel_rfl)
    (of_decide_eq_true (by kernel_rfl)) (by unfold Func.isWrapper; first | (rw [if_pos (by decide +kernel)]; kernel_rfl) | (rw [if_neg (by decide +kernel)]; exact ⟨rfl, rfl⟩))
    (fun os started H enc _ => lifted os started H enc)

/-- ████ THE STATEMENT ████ -/
theorem proved : Rows.FnMoveOnSplicesKindsAtOnePlaceSaid :=
  over
end Go.Proofs.Qxb6600616a.fnMoveOnSplicesKindsAtOnePlace
