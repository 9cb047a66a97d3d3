/-
  'zzClone', 'zzEqual': the walks.
-/
import Derived.Test.Qxb6600527aDoorDec
import Derived.Deep.QuietTactic
import Derived.BigQuiet
import Derived.Lib.SliceRun
namespace Go.Proofs.Qxb6600527aDoor.sl
open Go.ChangeShapes Go.WideShapes Go.ChangeAt Go.RowKit

/-- what the clone holds behind k rounds -/
def part (l : List UInt8) (k : Nat) : List Value := Lib.byteCells (l.take k) ++ List.replicate (l.length - k) (Value.int .u8 0)

theorem part_zero (l : List UInt8) : part l 0 = List.replicate l.length (Value.int .u8 0) := by simp [part, Lib.byteCells]
theorem part_full (l : List UInt8) : part l l.length = Lib.byteCells l := by simp [part]
theorem part_set (l : List UInt8) (k : Nat) (hk : k < l.length) : (part l k).set k (Value.int .u8 (l.getD k 0).toNat) = part l (k + 1) := by
  unfold part
  have h1 : (Lib.byteCells (l.take k)).length = k := by rw [Lib.byteCells_length, List.length_take]; omega
  rw [List.set_append_right _ _ (by omega), h1, Nat.sub_self, List.take_succ_eq_append_getElem hk, Lib.byteCells_append, List.append_assoc]
  congr 1
  rw [show l.length - k = (l.length - (k + 1)) + 1 by omega, List.replicate_succ, List.set_cons_zero]
  simp [Lib.byteCells, hk]

theorem clone_nil (w : World) : Calls Tryd.prog 11 #[.slice none 0 0] w fun e w' => e = .returned (.slice none 0 0) ∧ w' = w := by
  have hn := Lib.run_eql_slice_nil (P := Tryd.prog) w 24 5 none 0 0 0 0 Tryd.underlying24
  go_enter Tryd.func11, Tryd.ntmps11
  go_wp2
  go_ret
  exact ⟨rfl, rfl⟩

set_option maxHeartbeats 1000000 in
theorem clone_some (ad : Addr) (c : Nat) (l : List UInt8) (w : World) (hlen : l.length ≤ 1048576)
    (hcell : l ≠ [] → ∃ b o, ad = ⟨b, o, none⟩ ∧ b < w.heap.size ∧ ∀ i, i < l.length → w.cell? ⟨b, o + i, none⟩ = some (.int .u8 (l.getD i 0).toNat)) :
    Calls Tryd.prog 11 #[.slice (some ad) l.length c] w fun e w' => e = .returned (.slice (some ⟨w.heap.size, 0, none⟩) l.length l.length) ∧
      w'.ownsRow w.heap.size 5 1 (.slice (some ⟨w.heap.size, 0, none⟩) l.length l.length) l.length (Lib.byteCells l) ∧ Below w.heap.size w w' := by
  obtain ⟨i0, hi, hz0, hz1, hz2⟩ := info_parts dec.info5
  have hn := Lib.run_eql_slice_nil (P := Tryd.prog) w 24 5 (some ad) l.length c 0 0 Tryd.underlying24
  have HC := Lib.hid hcell
  clear hcell
  go_enter Tryd.func11, Tryd.ntmps11
  go_wp2_with (at_make; refine wpList_make_full _ rfl _ _ 24 rfl w.heap.size 5 i0 (.int .u8 0) 1 Tryd.underlying24 hi hz0 hz1 .i64 .i64 l.length l.length l.length rfl rfl rfl rfl (by rw [hz2]; omega) (by unfold maxLen; omega) (Nat.le_refl _) ?_; intro w1 hown1 hg1)
  have R0 : w1.ownsRow w.heap.size 5 1 (.slice (some ⟨w.heap.size, 0, none⟩) l.length l.length) l.length (part l 0) := by
    rw [part_zero]
    have e : (madeCells (Value.int IntKind.u8 0).cells (l.length * 1)).toList = List.replicate l.length (Value.int .u8 0) := by
      rw [Nat.mul_one]; exact toList_madeCells_one _ _
    rw [e] at hown1
    exact hown1
  have hb1 : Below w.heap.size w w1 := (Below.refl _ _).grown hg1 (Nat.le_refl _) (by simp)
  clear hown1 hg1 hn
  go_loopw [4] (fun i W => ∃ k : Nat, k ≤ l.length ∧ i = .int .i64 k ∧ W.ownsRow w.heap.size 5 1 (.slice (some ⟨w.heap.size, 0, none⟩) l.length l.length) l.length (part l k) ∧ Below w.heap.size w W) (fun i _ => l.length - (intOf i).toNat)
  case atStart => exact ⟨0, by omega, rfl, R0, hb1⟩
  case round =>
    obtain ⟨k, hk, rfl, hown, hb⟩ := hrel
    by_cases hlt : k < l.length
    · obtain ⟨b, o, rfl, hbw, hcell⟩ := HC.out (by intro e; rw [e] at hlt; simp at hlt)
      have hc : wr.cell? ⟨b, o + k, none⟩ = some (.int .u8 (l.getD k 0).toNat) := by rw [hb.cell (p := ⟨b, o + k, none⟩) hbw]; exact hcell k hlt
      obtain ⟨u0, hu0⟩ : ∃ u0, wr.cell? ⟨w.heap.size, k, none⟩ = some u0 := by
        rw [hown.cellAt k (by omega)]
        have : k < (part l k).length := by rw [hown.1]; omega
        exact ⟨_, List.getElem?_eq_getElem this⟩
      have hfz : wr.frozen? ⟨w.heap.size, k, none⟩ = false := hown.frozenAt k
      have hst := hown.stored k (Value.int .u8 (l.getD k 0).toNat)
      rw [part_set l k hlt] at hst
      have R := hst.1
      have hb' : Below w.heap.size w (wr.setCell ⟨w.heap.size, k, none⟩ (Value.int .u8 (l.getD k 0).toNat)) := hb.setCell (by simp) _
      have HR := Lib.hid R
      have HB := Lib.hid hb'
      clear hst hown R hcell hb hb'
      go_wp2
      go_roundw
      case rel => exact ⟨k + 1, by omega, by go_num, by simpa [hlt] using HR.out, by simpa [hlt] using HB.out⟩
      case measure => simp [intOf]; omega
    · have hek : k = l.length := by omega
      subst hek
      rw [part_full] at hown
      go_wp2
      go_ret
      exact ⟨rfl, hown, hb⟩

set_option maxHeartbeats 1000000 in
/-- zzEqual of two slices that hold the same bytes -/
theorem equal_true (g1 g2 c1 c2 : Nat) (l : List UInt8) (w : World) (hlen : l.length ≤ 1099511627776)
    (h1 : ∀ i, i < l.length → w.cell? ⟨g1, i, none⟩ = some (.int .u8 (l.getD i 0).toNat)) (h2 : ∀ i, i < l.length → w.cell? ⟨g2, i, none⟩ = some (.int .u8 (l.getD i 0).toNat)) :
    Calls Tryd.prog 15 #[.slice (some ⟨g1, 0, none⟩) l.length c1, .slice (some ⟨g2, 0, none⟩) l.length c2] w fun e w' => e = .returned (.bool true) ∧ ∃ n, w' = w.drewN n := by
  have H1 := Lib.hid h1
  have H2 := Lib.hid h2
  clear h1 h2
  go_enter Tryd.func15, Tryd.ntmps15
  go_wp2
  go_loopw [4, 5] (fun _ i W => ∃ k : Nat, k ≤ l.length ∧ i = .int .i64 k ∧ ∃ n, W = w.drewN n) (fun _ i _ => l.length - (intOf i).toNat)
  case atStart => exact ⟨0, by omega, rfl, 0, rfl⟩
  case round =>
    obtain ⟨k, hk, rfl, n, rfl⟩ := hrel
    by_cases hlt : k < l.length
    · have hc1 := H1.out k hlt
      have hc2 := H2.out k hlt
      have hkk : (k : Int) < (l.length : Int) := by omega
      go_wp2
      go_quiet (fail)
      go_wp2
      go_roundw
      case rel => first | exact ⟨k + 1, by omega, by go_num, _, rfl⟩ | exact ⟨_, _, ⟨k + 1, by omega, rfl, _, rfl⟩, rfl, by go_num⟩
      case measure => simp [intOf]; omega
    · go_wp2
      go_ret
      exact ⟨rfl, n, rfl⟩
end Go.Proofs.Qxb6600527aDoor.sl
