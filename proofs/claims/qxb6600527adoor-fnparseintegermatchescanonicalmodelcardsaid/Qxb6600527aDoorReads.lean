/-
  'FnParseIntegerReadsBackEveryInt64': the walk.
-/
import Derived.Test.Qxb6600527aDoorDec
import Derived.Test.Qxb6600527aDoorParse
import Derived.Test.Qxb6600527aDoorLaws
namespace Go.Proofs.Qxb6600527aDoor.reads
open Go.ChangeShapes Go.WideShapes Go.ChangeAt Go.RowKit

/-- A row of bytes that the call owns, not empty: what it is, cell for cell. -/
theorem owned_bytes {w : World} {B : Nat} {v : Value} {l : List UInt8} (h : w.ownsRow B 5 1 v l.length (Lib.byteCells l)) (hl : l ≠ []) :
    ∃ g cap, v = .slice (some ⟨g, 0, none⟩) l.length cap ∧ B ≤ g ∧ g < w.heap.size ∧ l.length ≤ cap ∧ ∀ i, i < l.length → w.cell? ⟨g, i, none⟩ = some (.int .u8 (l.getD i 0).toNat) := by
  have hc := h
  obtain ⟨_, h2⟩ := h
  have hpos : 0 < l.length := List.length_pos_iff.2 hl
  rcases h2 with ⟨_, h0⟩ | ⟨g, cap, cur, rfl, hB, hg, hnc, _, _, _⟩
  · omega
  · refine ⟨g, cap, rfl, hB, ?_, hnc, ?_⟩
    · rcases Nat.lt_or_ge g w.heap.size with hh | hh
      · exact hh
      · rw [Array.getElem?_eq_none hh] at hg; cases hg
    · intro i hi
      rw [hc.cellAt i (by omega)]
      simp [Lib.byteCells, hi]

theorem itoa_ne (n : Int) : Lib.itoa n ≠ [] := by
  unfold Lib.itoa
  split
  · simp
  · intro e
    have h := Lib.decDigits_length n.toNat
    rw [e] at h
    have := Lib.nDigits_pos n.toNat
    simp at h
    omega

set_option maxHeartbeats 1000000 in
theorem walk (n : Int) (h0 : -9223372036854775808 ≤ n) (h1 : n ≤ 9223372036854775807) (w : World) (hglob : 2 ≤ w.heap.size)
    (hV : ∃ tp p, w.var? Tryd.prog "strconv.ErrRange" = some #[.iface tp p]) :
    Calls Tryd.prog 3 #[.int .i64 n] w fun e w' => e = .returned (.bool true) ∧ Below w.heap.size w w' := by
  have HV := Lib.hid hV
  clear hV
  have hlen := Lib.itoa_length_le n h0 h1
  have HN := Lib.hid (itoa_ne n)
  have HP := Lib.hid (pl.PI_itoa n h0 h1)
  have hnn : (n == n) = true := by simp
  go_enter Tryd.func3, Tryd.ntmps3
  go_wp2_with fail
  refine (dec.dec_any n h0 h1 w).mono ?_
  rintro e w1 ⟨v, rfl, hown, hb1⟩
  obtain ⟨g, cap, rfl, hBg, hgw, hnc, hcell⟩ := owned_bytes hown HN.out
  have HC := Lib.hid hcell
  clear hown hcell
  go_wp2_with fail
  refine (pin.parse g cap (Lib.itoa n) w1 hgw (by omega) (by have := hb1.size; omega) hnc HC.out ?_).mono ?_
  · obtain ⟨tp, p, hv⟩ := HV.out
    exact ⟨tp, p, var?_below hb1 pin.gER (by omega) hv⟩
  rintro e w2 ⟨rfl, hb2⟩
  rw [HP.out]
  have hb3 : Below w.heap.size w w2 := hb1.trans (hb2.mono (by omega))
  clear hb1 hb2
  go_wp2
  go_ret
  exact ⟨rfl, hb3⟩
end Go.Proofs.Qxb6600527aDoor.reads
