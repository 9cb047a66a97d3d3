/-
  'Rows.FnParseIntegerReadsBackEveryInt64CardSaid': the row (the frame is the guide's own, after its worked texts Mapy and MaAll), and the tied card by the builder's one call.
-/
import Derived.Test.Qxb6600527aDoorReads
import Derived.Test.Qxb6600527aDoorTie
import Derived.Test.Qxb6600527aDoorCards
import Derived.ProofKit
import Derived.LaidMore
import Derived.OpenShut
import Derived.Stop.Joined
import Derived.Stop.LaidErr
import Derived.SevenTiedAt
namespace Go.Proofs.Qxb6600527aDoor.fnParseIntegerReadsBackEveryInt64
open Go.ChangeShapes Go.WideShapes Go.ChangeAt Go.WideMaps Go.WideElems Go.RowKit

theorem own : ownKnob Tryd.prog.godebug = none := by kernel_rfl

/-- What the row lists. -/
def laid5 : List (String × DataW Unit) := Rows.fnParseIntegerReadsBackEveryInt64Row.laid

/-- The door's own heap meets the condition: three closed facts. -/
theorem door_met (os : Os) (args : Array Value) : laidMetH Tryd.prog laid5 ((World.doorLaid Tryd.prog 62 os).forCall (fun _ _ => 0) ⟨#[], args, []⟩).memory :=
  laidMetH_of_parts3 (fuel := 8) (laidMet_of_run' 8 (by kernel_rfl) (by kernel_rfl)) (by kernel_rfl) (by kernel_rfl)

theorem gERType : (Tryd.prog.globals[1]?).map (·.type) = some 41 := by kernel_rfl
theorem cells68 : Tryd.prog.cellsOf 68 = 1 := by kernel_rfl
theorem cells9 : Tryd.prog.cellsOf 9 = 1 := by kernel_rfl
theorem star : "*" ++ "errors.errorString" = "*errors.errorString" := by decide
theorem row66 (u : TypeId) (h : Tryd.prog.typeName? 3 u = some "*errors.errorString") : u = 66 :=
  typeName_ptr_named (nm := "errors.errorString") (by rw [star]; kernel_rfl) (by kernel_rfl) (by decide) u (by rw [star]; exact h)

/-- WHAT THE CONDITION GIVES THE WALK. -/
theorem of_laid {W : World} (h : laidMetH Tryd.prog laid5 W) : ∃ tp p, W.var? Tryd.prog "strconv.ErrRange" = some #[.iface tp p] := by
  rw [MakeChecks.laidMetH_plain _ _ _ (by kernel_rfl)] at h
  obtain ⟨a1, s1, hv1, -, -, -⟩ := laid_sentinel (laidMet.tail (laidMet.tail (laidMet.tail h))) pin.gER gERType Tryd.underlying41 row66 Tryd.underlying66 Tryd.underlying68 rfl rfl Tryd.underlying9 cells68 cells9
  exact ⟨_, _, hv1⟩
theorem glob {W : World} (h : ∃ tp p, W.var? Tryd.prog "strconv.ErrRange" = some #[.iface tp p]) : 2 ≤ W.heap.size := by
  obtain ⟨tp, p, hv⟩ := h
  have h0 := World.var?_cell pin.gER hv 0
  have h1 : W.cell? ⟨1, 0, none⟩ = some (.iface tp p) := by simpa using h0
  have := World.block_lt_of_cell? W _ h1
  exact this

set_option maxRecDepth 100000 in
theorem lifted (os : Os) (started : os.Started) (H : Type) (enc : TypeId × Value → H) :
    ReturnsInHanded {} Tryd.checked os 3 .any (fun w args => (Rows.fnParseIntegerReadsBackEveryInt64Spec.pre enc Tryd.prog Tryd.f3 [] false w args ∧ laidMetH Tryd.prog laid5 w) ∧ sizedMet enc Tryd.prog Tryd.f3 (OpenSpec.ofChange Rows.fnParseIntegerReadsBackEveryInt64Spec) false w args)
      (Rows.fnParseIntegerReadsBackEveryInt64Spec.post enc Tryd.prog Tryd.f3 false true false false) := by
  refine returnsInHanded_of_change_and (C := Tryd.checked) (X := fun w _ => laidMetH Tryd.prog laid5 w) (fun _ _ _ hh h => h.of_heap hh) own started (by kernel_rfl) Tryd.func3
    (ChangeSpec.witness_shaped (enc := enc) (C := Tryd.checked) (os := os) (X := fun w _ => laidMetH Tryd.prog laid5 w) false (World.doorLaid Tryd.prog 62 os) #[.int .i64 0] 8 rfl (World.shaped_of_RefB (by kernel_rfl) (by kernel_rfl)) (by kernel_rfl) (by kernel_rfl) (by kernel_rfl) (door_met os _)) ?_
  intro W base args ds gs before hval0 hW _ _ hL _
  have hval : ∀ (j : Nat) t v, Tryd.f3.params[j]? = some t → args[j]? = some v → Value.okWide Tryd.prog W .any base t v := hval0
  have hW' := hW
  obtain ⟨p, q, hA0, hV, rfl, hfz, hnd⟩ := hW
  have hA : DataW.TrodAll enc Tryd.prog W 0 (fun _ => true) true Tryd.f3.params.toList args.toList ds p := hA0
  rw [Tryd.params3] at hA hval
  obtain ⟨v0, d0, rfl, rfl, h0⟩ := trodAll_one hA
  obtain ⟨rfl, rfl⟩ := trodVars_none hV
  obtain ⟨n, rfl, rfl, rfl, hwn⟩ := open_int Tryd.underlying2 (hval 0 2 v0 rfl rfl) h0
  clear hA0 hval0
  simp only [List.append_nil] at hW'
  have hv := of_laid hL
  have hb : -9223372036854775808 ≤ n ∧ n ≤ 9223372036854775807 := by
    have e1 : IntKind.i64.min = -9223372036854775808 := rfl
    have e2 : IntKind.i64.max = 9223372036854775807 := rfl
    simpa [Lit.wf, e1, e2] using hwn
  refine (reads.walk n hb.1 hb.2 W (glob hv) hv).mono fun e W' ⟨he, hnx⟩ => ?_
  subst he
  refine ⟨_, rfl, _, _, _, [], [], [], hW', ?_, ?_, rfl, hnx.frame _, fun h => by cases h⟩
  · exact trodAll_mk1 (shut_bool Tryd.underlying4 _)
  · exact trodAll_mk1 (shut_int Tryd.underlying2 hwn)

theorem row_holds : Rows.FnParseIntegerReadsBackEveryInt64Said :=
  OpenClaim.holds_of_wide 3 Tryd.f3 rfl rfl rfl rfl rfl rfl rfl ⟨rfl, rfl, rfl, rfl, rfl⟩ rfl rfl rfl rfl rfl (by kernel_rfl) Tryd.func3 (by kernel_rfl)
    (of_decide_eq_true (by kernel_rfl)) (by unfold Func.isWrapper; first | (rw [if_pos (by decide +kernel)]; kernel_rfl) | (rw [if_neg (by decide +kernel)]; exact ⟨rfl, rfl⟩))
    (fun os started H enc _ => lifted os started H enc)

/-- ████ THE STATEMENT: THE TIED CARD ████ -/
theorem proved : Rows.FnParseIntegerReadsBackEveryInt64CardSaid :=
  Claim7.holds_tied_plain_at .later [] [.data, .data, .data, .sentinel, .sentinel] true (true, "b612551a32a55fbc77d06f550ee4e7e3aa1cb4e6e25c132483dda79ff1b5483d") true
    row_holds (fun _ h => by cases h) (by kernel_rfl) (fun _ h => by cases h) fnParseIntegerReadsBackEveryInt64_row_tie rfl ⟨rfl, rfl⟩ (by kernel_rfl) rfl
    (fun f fn hf hfn => by
      obtain rfl : f = 3 := Option.some.inj ((show Tryd.prog.funcNamed Rows.fnParseIntegerReadsBackEveryInt64Row.func = some 3 by kernel_rfl).symm.trans hf) |>.symm
      obtain rfl : fn = Tryd.f3 := (Option.some.inj (Tryd.func3.symm.trans hfn)).symm
      exact ⟨by kernel_rfl, fun j t ht => by
        rw [Tryd.params3] at ht
        have hm : t ∈ [2] := by simpa using Array.mem_of_getElem? ht
        have hall : ([2].all fun u => !Tryd.prog.wantsStandIn u) = true := by kernel_rfl
        exact (show Tryd.prog.wantsStandIn t = false by simpa using List.all_eq_true.1 hall t hm)⟩)
    (by kernel_rfl)
end Go.Proofs.Qxb6600527aDoor.fnParseIntegerReadsBackEveryInt64
