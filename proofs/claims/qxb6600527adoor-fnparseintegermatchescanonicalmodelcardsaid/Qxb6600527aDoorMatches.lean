/-
  'FnParseIntegerMatchesCanonicalModel': the walk.
-/
import Derived.Test.Qxb6600527aDoorClass
import Derived.Test.Qxb6600527aDoorReads
namespace Go.Proofs.Qxb6600527aDoor.mat
open Go.ChangeShapes Go.WideShapes Go.ChangeAt Go.RowKit
open pl

set_option maxHeartbeats 1000000 in
theorem walk_nil (w : World) : Calls Tryd.prog 7 #[.slice none 0 0] w fun e w' => e = .returned (.bool true) ∧ Below w.heap.size w w' := by
  go_enter Tryd.func7, Tryd.ntmps7
  go_wp2_with (go_at_call 19; go_in)
  refine (sl.clone_nil _).mono ?_
  rintro e w1 ⟨rfl, rfl⟩
  go_wp2_with fail
  refine (pin.parse_empty _ _ _).mono ?_
  rintro e w2 ⟨rfl, hb⟩
  go_wp2_with fail
  refine (cls.class_empty _ _ _).mono ?_
  rintro e w3 ⟨rfl, n, rfl⟩
  go_wp2
  go_ret
  exact ⟨rfl, below_drewN hb _⟩

set_option maxHeartbeats 1000000 in
theorem walk_long (ad : Option Addr) (n c : Nat) (hn : ¬ n ≤ 1048576) (hm : n ≤ 9223372036854775807) (w : World) : Calls Tryd.prog 7 #[.slice ad n c] w fun e w' => e = .returned (.bool true) ∧ Below w.heap.size w w' := by
  go_enter Tryd.func7, Tryd.ntmps7
  go_wp2
  go_ret
  exact ⟨rfl, Below.refl _ _⟩

set_option maxHeartbeats 2000000 in
theorem walk_some (ad : Addr) (c : Nat) (l : List UInt8) (w : World) (hlen : l.length ≤ 1048576)
    (hcell : l ≠ [] → ∃ b o, ad = ⟨b, o, none⟩ ∧ b < w.heap.size ∧ ∀ i, i < l.length → w.cell? ⟨b, o + i, none⟩ = some (.int .u8 (l.getD i 0).toNat))
    (hglob : 2 ≤ w.heap.size) (hV : ∃ tp p, w.var? Tryd.prog "strconv.ErrRange" = some #[.iface tp p]) :
    Calls Tryd.prog 7 #[.slice (some ad) l.length c] w fun e w' => e = .returned (.bool true) ∧ Below w.heap.size w w' := by
  have HC := Lib.hid hcell
  have HV := Lib.hid hV
  clear hcell hV
  go_enter Tryd.func7, Tryd.ntmps7
  go_wp2_with (go_at_call 19; go_in)
  refine (sl.clone_some ad c l w hlen HC.out).mono ?_
  rintro e w1 ⟨rfl, hown, hb1⟩
  have hsz : w.heap.size < w1.heap.size := (hown.lt w.heap.size rfl).2
  have hcl : ∀ i, i < l.length → w1.cell? ⟨w.heap.size, i, none⟩ = some (.int .u8 (l.getD i 0).toNat) := by
    intro i hi
    rw [hown.cellAt i (by omega)]
    simp [Lib.byteCells, hi]
  have HCL := Lib.hid hcl
  clear hcl hown
  go_wp2_with fail
  refine (pin.parse w.heap.size l.length l w1 hsz (by omega) (by omega) (Nat.le_refl _) HCL.out ?_).mono ?_
  · obtain ⟨tp, p, hv⟩ := HV.out
    exact ⟨tp, p, var?_below hb1 pin.gER (by omega) hv⟩
  rintro e w2 ⟨rfl, hb2⟩
  have HCL2 : Hid (∀ i, i < l.length → w2.cell? ⟨w.heap.size, i, none⟩ = some (.int .u8 (l.getD i 0).toNat)) := by
    intro i hi
    rw [hb2.cell (p := ⟨w.heap.size, i, none⟩) hsz]
    exact HCL.out i hi
  have hb3 : Below w.heap.size w w2 := hb1.trans (hb2.mono (by omega))
  have hsz2 : w.heap.size < w2.heap.size := by have := hb2.size; omega
  rcases PI_CL l with ⟨hc, hp⟩ | ⟨hc, hp⟩ | ⟨hc, hp⟩ | ⟨hc, n, hn0, hn1, hp, hit, hne⟩
  · rw [hp]
    have HK := Lib.hid hc
    clear hc hp hb1 hb2
    go_wp2_with fail
    refine (cls.klass w.heap.size l.length l w2 hlen (Nat.le_refl _) HCL2.out).mono ?_
    rintro e w3 ⟨rfl, k, rfl⟩
    rw [HK.out]
    go_wp2
    go_ret
    exact ⟨rfl, below_drewN hb3 _⟩
  · rw [hp]
    have HK := Lib.hid hc
    clear hc hp hb1 hb2
    go_wp2_with fail
    refine (cls.klass w.heap.size l.length l w2 hlen (Nat.le_refl _) HCL2.out).mono ?_
    rintro e w3 ⟨rfl, k, rfl⟩
    rw [HK.out]
    go_wp2
    go_ret
    exact ⟨rfl, below_drewN hb3 _⟩
  · rw [hp]
    have HK := Lib.hid hc
    clear hc hp hb1 hb2
    go_wp2_with fail
    refine (cls.klass w.heap.size l.length l w2 hlen (Nat.le_refl _) HCL2.out).mono ?_
    rintro e w3 ⟨rfl, k, rfl⟩
    rw [HK.out]
    go_wp2
    go_ret
    exact ⟨rfl, below_drewN hb3 _⟩
  · rw [hp]
    have HK := Lib.hid hc
    have HI := Lib.hid hit
    have HN := Lib.hid hne
    clear hc hp hb1 hb2 hit hne
    go_wp2_with fail
    refine (cls.klass w.heap.size l.length l w2 hlen (Nat.le_refl _) HCL2.out).mono ?_
    rintro e w3 ⟨rfl, k, rfl⟩
    rw [HK.out]
    go_wp2_with fail
    refine (dec.dec_any n hn0 hn1 (w2.drewN k)).mono ?_
    rw [HI.out]
    rintro e w4 ⟨v, rfl, hown, hb4⟩
    obtain ⟨g, cap, rfl, hBg, hgw, hnc, hcell⟩ := reads.owned_bytes hown HN.out
    have HG := Lib.hid hcell
    have HCL4 : Hid (∀ i, i < l.length → w4.cell? ⟨w.heap.size, i, none⟩ = some (.int .u8 (l.getD i 0).toNat)) := by
      intro i hi
      rw [hb4.cell (p := ⟨w.heap.size, i, none⟩) hsz2]
      exact HCL2.out i hi
    have hb5 : Below w.heap.size w w4 := (below_drewN hb3 k).trans (hb4.mono (by have := hsz2; show w.heap.size ≤ w2.heap.size; omega))
    clear hown hcell hb4 hb3
    go_wp2_with fail
    refine (sl.equal_true g w.heap.size cap l.length l w4 (by omega) HG.out HCL4.out).mono ?_
    rintro e w5 ⟨rfl, k2, rfl⟩
    go_wp2
    go_ret
    exact ⟨rfl, below_drewN hb5 _⟩
end Go.Proofs.Qxb6600527aDoor.mat
