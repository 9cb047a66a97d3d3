/-
  'Rows.FnRepliesConcatenateInOrderCardSaid': the row (the frame is the guide's own, after its worked texts Mapy and MaAll), and the tied card by the builder's one call.
-/
import Derived.Test.Qxb6600527aDoorReplies
import Derived.Test.Qxb6600527aDoorFrame
import Derived.Test.Qxb6600527aDoorTie
import Derived.Test.Qxb6600527aDoorCards
import Derived.ProofKit
import Derived.LaidMore
import Derived.OpenShut
import Derived.Stop.Joined
import Derived.Stop.LaidErr
import Derived.SevenTiedAt
import Derived.Lib.LaidTab
namespace Go.Proofs.Qxb6600527aDoor.fnRepliesConcatenateInOrder
open Go.ChangeShapes Go.WideShapes Go.ChangeAt Go.WideMaps Go.WideElems Go.RowKit
open Go.ChangeMaps (open_string shut_string)


/-- What the row lists. -/
def laid3 : List (String × DataW Unit) := Rows.fnRepliesConcatenateInOrderRow.laid

/-- The door's own heap meets the condition: three closed facts. -/
theorem door_met (os : Os) (args : Array Value) : laidMetH Tryd.prog laid3 ((World.doorLaid Tryd.prog 62 os).forCall (fun _ _ => 0) ⟨#[], args, []⟩).memory :=
  laidMetH_of_parts3 (fuel := 8) (laidMet_of_run' 8 (by kernel_rfl) (by kernel_rfl)) (by kernel_rfl) (by kernel_rfl)

theorem gTabType : (Tryd.prog.globals[2]?).map (·.type) = some 77 := by kernel_rfl
theorem cells44 : Tryd.prog.cellsOf 44 = 1 := by kernel_rfl
theorem cellsTab : Tryd.prog.cellsOf 77 = 20 := by kernel_rfl

/-- WHAT THE CONDITION GIVES THE WALK. -/
theorem of_laid {W : World} (h : laidMetH Tryd.prog laid3 W) : Lib.TabIs Tryd.prog W buf.pow10 .u64 Lib.pow10Tab := by
  rw [MakeChecks.laidMetH_plain _ _ _ (by kernel_rfl)] at h
  have h2 : laidMet Tryd.prog ((buf.pow10, Lib.tabData .u64 Lib.pow10Tab) :: []) W := laidMet.tail (laidMet.tail h)
  exact Lib.tabIs_of_head buf.gTab gTabType Tryd.underlying77 Tryd.underlying44 cells44 cellsTab h2

theorem glob {W : World} (h : Lib.TabIs Tryd.prog W buf.pow10 .u64 Lib.pow10Tab) : 2 < W.heap.size := by
  have h0 := World.var?_cell buf.gTab h 0
  have h1 : W.cell? ⟨2, 0, none⟩ = some (.int .u64 1) := h0
  have := World.block_lt_of_cell? W _ h1
  exact this

set_option maxRecDepth 100000 in
theorem lifted (os : Os) (started : os.Started) (H : Type) (enc : TypeId × Value → H) :
    ReturnsInHanded {} Tryd.checked os 6 .any (fun w args => (Rows.fnRepliesConcatenateInOrderSpec.pre enc Tryd.prog Tryd.f6 [] false w args ∧ laidMetH Tryd.prog laid3 w) ∧ sizedMet enc Tryd.prog Tryd.f6 (OpenSpec.ofChange Rows.fnRepliesConcatenateInOrderSpec) false w args)
      (Rows.fnRepliesConcatenateInOrderSpec.post enc Tryd.prog Tryd.f6 false true false false) := by
  refine returnsInHanded_of_change_and (C := Tryd.checked) (X := fun w _ => laidMetH Tryd.prog laid3 w) (fun _ _ _ hh h => h.of_heap hh) fra.own started (by kernel_rfl) Tryd.func6
    (ChangeSpec.witness_shaped (enc := enc) (C := Tryd.checked) (os := os) (X := fun w _ => laidMetH Tryd.prog laid3 w) false (World.doorLaid Tryd.prog 62 os) #[.slice none 0 0, .int .u8 0, .string ByteArray.empty, .slice none 0 0, .int .u8 0, .string ByteArray.empty] 8 rfl (World.shaped_of_RefB (by kernel_rfl) (by kernel_rfl)) (by kernel_rfl) (by kernel_rfl) (by kernel_rfl) (door_met os _)) ?_
  intro W base args ds gs before hval0 hW _ _ hL _
  have hval : ∀ (j : Nat) t v, Tryd.f6.params[j]? = some t → args[j]? = some v → Value.okWide Tryd.prog W .any base t v := hval0
  have hW' := hW
  obtain ⟨p, q, hA0, hV, rfl, hfz, hnd⟩ := hW
  have hA : DataW.TrodAll enc Tryd.prog W 0 (fun _ => true) true Tryd.f6.params.toList args.toList ds p := hA0
  rw [Tryd.params6] at hA hval
  obtain ⟨v0, vs0, d0, ds0, p0, q0, hargs, rfl, rfl, h0, r0⟩ := trodAll_cons hA
  obtain ⟨v1, vs1, d1, ds1, p1, q1, rfl, rfl, rfl, h1, r1⟩ := trodAll_cons r0
  obtain ⟨v2, vs2, d2, ds2, p2, q2, rfl, rfl, rfl, h2, r2⟩ := trodAll_cons r1
  obtain ⟨v3, vs3, d3, ds3, p3, q3, rfl, rfl, rfl, h3, r3⟩ := trodAll_cons r2
  obtain ⟨v4, vs4, d4, ds4, p4, q4, rfl, rfl, rfl, h4, r4⟩ := trodAll_cons r3
  obtain ⟨v5, vs5, d5, ds5, p5, q5, rfl, rfl, rfl, h5, r5⟩ := trodAll_cons r4
  obtain ⟨rfl, rfl, rfl⟩ := trodAll_nil r5
  obtain rfl : args = #[v0, v1, v2, v3, v4, v5] := by cases args; simp_all
  obtain ⟨rfl, rfl⟩ := trodVars_none hV
  obtain ⟨a0, len0, cap0, rfl⟩ := okWide_slice Tryd.underlying24 (hval 0 24 v0 rfl rfl)
  have k0 := h0
  have lt0 : ∀ x ∈ p0, x.block < W.heap.size := by obtain ⟨m, hm⟩ := k0; exact DataW.trod_lt m _ _ _ hm
  obtain ⟨l0, hb0⟩ := fra.open_bytes h0
  obtain ⟨a1, rfl, rfl, rfl, w1⟩ := open_int Tryd.underlying5 (hval 1 5 v1 rfl rfl) h1
  obtain ⟨a2, rfl, rfl, rfl, w2⟩ := open_string Tryd.underlying9 (hval 2 9 v2 rfl rfl) h2
  obtain ⟨a3, len3, cap3, rfl⟩ := okWide_slice Tryd.underlying24 (hval 3 24 v3 rfl rfl)
  have k3 := h3
  have lt3 : ∀ x ∈ p3, x.block < W.heap.size := by obtain ⟨m, hm⟩ := k3; exact DataW.trod_lt m _ _ _ hm
  obtain ⟨l3, hb3⟩ := fra.open_bytes h3
  obtain ⟨a4, rfl, rfl, rfl, w4⟩ := open_int Tryd.underlying5 (hval 4 5 v4 rfl rfl) h4
  obtain ⟨a5, rfl, rfl, rfl, w5⟩ := open_string Tryd.underlying9 (hval 5 9 v5 rfl rfl) h5
  clear hA0 hval0
  have hv := of_laid hL
  have hwalk : Calls Tryd.prog 6 #[.slice a0 len0 cap0, .int .u8 a1, .string a2, .slice a3 len3 cap3, .int .u8 a4, .string a5] W fun e w' => e = .returned (.bool true) ∧ Below W.heap.size W w' := by
    have m0 := hb0.2.1
    have m3 := hb3.2.1
    have m2 := w2
    have m5 := w5
    unfold maxLen at m0 m2 m3 m5
    by_cases hs : len0 + a2.size + len3 + a5.size ≤ 1048576
    · have h := rep.walk a0 a3 len0 cap0 len3 cap3 (UInt8.ofNat a1.toNat) (UInt8.ofNat a4.toNat) a2 a5 l0 l3 W hb0 hb3 hs (glob hv) hv
      rw [fra.byte_of w1, fra.byte_of w4] at h
      exact h
    · exact rep.walk_long a0 a3 len0 cap0 len3 cap3 a1 a4 a2 a5 W (by omega) (by omega) (by omega) (by omega) hs
  refine hwalk.mono fun e W' ⟨he, bel⟩ => ?_
  subst he
  exact ⟨_, rfl, _, _, _, [], _, [], hW', trodAll_mk1 (shut_bool Tryd.underlying4 _), (trodAll_cons_mk (Below.trod fra.laidOut (by kernel_rfl) (of_decide_eq_true (by kernel_rfl)) k0 bel lt0) (trodAll_cons_mk (shut_int Tryd.underlying5 w1) (trodAll_cons_mk (shut_string Tryd.underlying9 w2) (trodAll_cons_mk (Below.trod fra.laidOut (by kernel_rfl) (of_decide_eq_true (by kernel_rfl)) k3 bel lt3) (trodAll_cons_mk (shut_int Tryd.underlying5 w4) (trodAll_cons_mk (shut_string Tryd.underlying9 w5) trodAll_mk0)))))), rfl, bel.frame _, fun h => by cases h⟩

theorem row_holds : Rows.FnRepliesConcatenateInOrderSaid :=
  OpenClaim.holds_of_wide 6 Tryd.f6 rfl rfl rfl rfl rfl rfl rfl ⟨rfl, rfl, rfl, rfl, rfl⟩ rfl rfl rfl rfl rfl (by kernel_rfl) Tryd.func6 (by kernel_rfl)
    (of_decide_eq_true (by kernel_rfl)) (by unfold Func.isWrapper; first | (rw [if_pos (by decide +kernel)]; kernel_rfl) | (rw [if_neg (by decide +kernel)]; exact ⟨rfl, rfl⟩))
    (fun os started H enc _ => lifted os started H enc)

/-- ████ THE STATEMENT: THE TIED CARD ████ -/
theorem proved : Rows.FnRepliesConcatenateInOrderCardSaid :=
  Claim7.holds_tied_plain_at .later [] [.data, .data, .data] true (true, "b612551a32a55fbc77d06f550ee4e7e3aa1cb4e6e25c132483dda79ff1b5483d") true
    row_holds (fun _ h => by cases h) (by kernel_rfl) (fun _ h => by cases h) fnRepliesConcatenateInOrder_row_tie rfl ⟨rfl, rfl⟩ (by kernel_rfl) rfl
    (fun f fn hf hfn => by
      obtain rfl : f = 6 := Option.some.inj ((show Tryd.prog.funcNamed Rows.fnRepliesConcatenateInOrderRow.func = some 6 by kernel_rfl).symm.trans hf) |>.symm
      obtain rfl : fn = Tryd.f6 := (Option.some.inj (Tryd.func6.symm.trans hfn)).symm
      exact ⟨by kernel_rfl, fun j t ht => by
        rw [Tryd.params6] at ht
        have hm : t ∈ [24, 5, 9, 24, 5, 9] := by simpa using Array.mem_of_getElem? ht
        have hall : ([24, 5, 9, 24, 5, 9].all fun u => !Tryd.prog.wantsStandIn u) = true := by kernel_rfl
        exact (show Tryd.prog.wantsStandIn t = false by simpa using List.all_eq_true.1 hall t hm)⟩)
    (by kernel_rfl)
end Go.Proofs.Qxb6600527aDoor.fnRepliesConcatenateInOrder
