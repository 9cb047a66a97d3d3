/-
  'Rows.FnParseIntegerMatchesCanonicalModelCardSaid': the row (the frame is the guide's own, after its worked texts Mapy and MaAll), and the tied card by the builder's one call.
-/
import Derived.Test.Qxb6600527aDoorMatches
import Derived.Test.Qxb6600527aDoorFrame
import Derived.Test.Qxb6600527aDoorTie
import Derived.Test.Qxb6600527aDoorCards
import Derived.ProofKit
import Derived.LaidMore
import Derived.OpenShut
import Derived.Stop.Joined
import Derived.Stop.LaidErr
import Derived.SevenTiedAt
namespace Go.Proofs.Qxb6600527aDoor.fnParseIntegerMatchesCanonicalModel
open Go.ChangeShapes Go.WideShapes Go.ChangeAt Go.WideMaps Go.WideElems Go.RowKit


/-- What the row lists. -/
def laid5 : List (String × DataW Unit) := Rows.fnParseIntegerMatchesCanonicalModelRow.laid

/-- The door's own heap meets the condition: three closed facts. -/
theorem door_met (os : Os) (args : Array Value) : laidMetH Tryd.prog laid5 ((World.doorLaid Tryd.prog 62 os).forCall (fun _ _ => 0) ⟨#[], args, []⟩).memory :=
  laidMetH_of_parts3 (fuel := 8) (laidMet_of_run' 8 (by kernel_rfl) (by kernel_rfl)) (by kernel_rfl) (by kernel_rfl)

theorem gERType : (Tryd.prog.globals[1]?).map (·.type) = some 41 := by kernel_rfl
theorem cells68 : Tryd.prog.cellsOf 68 = 1 := by kernel_rfl
theorem cells9 : Tryd.prog.cellsOf 9 = 1 := by kernel_rfl
theorem star : "*" ++ "errors.errorString" = "*errors.errorString" := by decide
theorem row66 (u : TypeId) (h : Tryd.prog.typeName? 3 u = some "*errors.errorString") : u = 66 :=
  typeName_ptr_named (nm := "errors.errorString") (by rw [star]; kernel_rfl) (by kernel_rfl) (by decide) u (by rw [star]; exact h)

/-- WHAT THE CONDITION GIVES THE WALK. -/
theorem of_laid {W : World} (h : laidMetH Tryd.prog laid5 W) : ∃ tp p, W.var? Tryd.prog "strconv.ErrRange" = some #[.iface tp p] := by
  rw [MakeChecks.laidMetH_plain _ _ _ (by kernel_rfl)] at h
  obtain ⟨a1, s1, hv1, -, -, -⟩ := laid_sentinel (laidMet.tail (laidMet.tail (laidMet.tail h))) pin.gER gERType Tryd.underlying41 row66 Tryd.underlying66 Tryd.underlying68 rfl rfl Tryd.underlying9 cells68 cells9
  exact ⟨_, _, hv1⟩
theorem glob {W : World} (h : ∃ tp p, W.var? Tryd.prog "strconv.ErrRange" = some #[.iface tp p]) : 2 ≤ W.heap.size := by
  obtain ⟨tp, p, hv⟩ := h
  have h0 := World.var?_cell pin.gER hv 0
  have h1 : W.cell? ⟨1, 0, none⟩ = some (.iface tp p) := by simpa using h0
  have := World.block_lt_of_cell? W _ h1
  exact this

set_option maxRecDepth 100000 in
theorem lifted (os : Os) (started : os.Started) (H : Type) (enc : TypeId × Value → H) :
    ReturnsInHanded {} Tryd.checked os 7 .any (fun w args => (Rows.fnParseIntegerMatchesCanonicalModelSpec.pre enc Tryd.prog Tryd.f7 [] false w args ∧ laidMetH Tryd.prog laid5 w) ∧ sizedMet enc Tryd.prog Tryd.f7 (OpenSpec.ofChange Rows.fnParseIntegerMatchesCanonicalModelSpec) false w args)
      (Rows.fnParseIntegerMatchesCanonicalModelSpec.post enc Tryd.prog Tryd.f7 false true false false) := by
  refine returnsInHanded_of_change_and (C := Tryd.checked) (X := fun w _ => laidMetH Tryd.prog laid5 w) (fun _ _ _ hh h => h.of_heap hh) fra.own started (by kernel_rfl) Tryd.func7
    (ChangeSpec.witness_shaped (enc := enc) (C := Tryd.checked) (os := os) (X := fun w _ => laidMetH Tryd.prog laid5 w) false (World.doorLaid Tryd.prog 62 os) #[.slice none 0 0] 8 rfl (World.shaped_of_RefB (by kernel_rfl) (by kernel_rfl)) (by kernel_rfl) (by kernel_rfl) (by kernel_rfl) (door_met os _)) ?_
  intro W base args ds gs before hval0 hW _ _ hL _
  have hval : ∀ (j : Nat) t v, Tryd.f7.params[j]? = some t → args[j]? = some v → Value.okWide Tryd.prog W .any base t v := hval0
  have hW' := hW
  obtain ⟨p, q, hA0, hV, rfl, hfz, hnd⟩ := hW
  have hA : DataW.TrodAll enc Tryd.prog W 0 (fun _ => true) true Tryd.f7.params.toList args.toList ds p := hA0
  rw [Tryd.params7] at hA hval
  obtain ⟨v0, d0, rfl, rfl, h0⟩ := trodAll_one hA
  obtain ⟨rfl, rfl⟩ := trodVars_none hV
  obtain ⟨a0, len0, cap0, rfl⟩ := okWide_slice Tryd.underlying24 (hval 0 24 v0 rfl rfl)
  have k0 := h0
  have lt0 : ∀ x ∈ p, x.block < W.heap.size := by obtain ⟨m, hm⟩ := k0; exact DataW.trod_lt m _ _ _ hm
  obtain ⟨l, hlc, hmx, hl, hcase⟩ := fra.open_bytes h0
  clear hA0 hval0
  simp only [List.append_nil] at hW'
  have hv := of_laid hL
  have hwalk : Calls Tryd.prog 7 #[.slice a0 len0 cap0] W fun e w' => e = .returned (.bool true) ∧ Below W.heap.size W w' := by
    by_cases hs : len0 ≤ 1048576
    · rcases hcase with ⟨rfl, rfl, rfl⟩ | ⟨x, rfl, hcell⟩
      · exact mat.walk_nil W
      · subst hl
        exact mat.walk_some x cap0 l W hs hcell (glob hv) hv
    · exact mat.walk_long a0 len0 cap0 hs (by unfold maxLen at hmx; omega) W
  refine hwalk.mono fun e W' ⟨he, bel⟩ => ?_
  subst he
  exact ⟨_, rfl, _, _, _, [], _, [], hW', trodAll_mk1 (shut_bool Tryd.underlying4 _), trodAll_mk1 (Below.trod fra.laidOut (by kernel_rfl) (of_decide_eq_true (by kernel_rfl)) k0 bel lt0), rfl, bel.frame _, fun h => by cases h⟩

theorem row_holds : Rows.FnParseIntegerMatchesCanonicalModelSaid :=
  OpenClaim.holds_of_wide 7 Tryd.f7 rfl rfl rfl rfl rfl rfl rfl ⟨rfl, rfl, rfl, rfl, rfl⟩ rfl rfl rfl rfl rfl (by kernel_rfl) Tryd.func7 (by kernel_rfl)
    (of_decide_eq_true (by kernel_rfl)) (by unfold Func.isWrapper; first | (rw [if_pos (by decide +kernel)]; kernel_rfl) | (rw [if_neg (by decide +kernel)]; exact ⟨rfl, rfl⟩))
    (fun os started H enc _ => lifted os started H enc)

/-- ████ THE STATEMENT: THE TIED CARD ████ -/
theorem proved : Rows.FnParseIntegerMatchesCanonicalModelCardSaid :=
  Claim7.holds_tied_plain_at .later [] [.data, .data, .data, .sentinel, .sentinel] true (true, "b612551a32a55fbc77d06f550ee4e7e3aa1cb4e6e25c132483dda79ff1b5483d") true
    row_holds (fun _ h => by cases h) (by kernel_rfl) (fun _ h => by cases h) fnParseIntegerMatchesCanonicalModel_row_tie rfl ⟨rfl, rfl⟩ (by kernel_rfl) rfl
    (fun f fn hf hfn => by
      obtain rfl : f = 7 := Option.some.inj ((show Tryd.prog.funcNamed Rows.fnParseIntegerMatchesCanonicalModelRow.func = some 7 by kernel_rfl).symm.trans hf) |>.symm
      obtain rfl : fn = Tryd.f7 := (Option.some.inj (Tryd.func7.symm.trans hfn)).symm
      exact ⟨by kernel_rfl, fun j t ht => by
        rw [Tryd.params7] at ht
        have hm : t ∈ [24] := by simpa using Array.mem_of_getElem? ht
        have hall : ([24].all fun u => !Tryd.prog.wantsStandIn u) = true := by kernel_rfl
        exact (show Tryd.prog.wantsStandIn t = false by simpa using List.all_eq_true.1 hall t hm)⟩)
    (by kernel_rfl)
end Go.Proofs.Qxb6600527aDoor.fnParseIntegerMatchesCanonicalModel
