/-
  What the rows over slices of bytes share: how a slice that came in is opened (the guide's shell's own words), as a list of bytes.
-/
import Derived.Test.Qxb6600527aDoorRows
import Derived.WalkKit
import Derived.ProofKit
import Derived.OpenShut
import Derived.ShutString
import Derived.ChangeOld
import Derived.Below
namespace Go.Proofs.Qxb6600527aDoor.fra
open Go.ChangeShapes Go.WideShapes Go.ChangeAt Go.RowKit

theorem own : ownKnob Tryd.prog.godebug = none := by kernel_rfl
theorem laidOut : laidOutB Tryd.prog = true := by kernel_rfl

/-- a slice of bytes that came in, as the walks ask it: nil; or at an address, so many bytes, cell for cell -/
def IsBytes (w : World) (a : Option Addr) (len cap : Nat) (l : List UInt8) : Prop :=
  len ≤ cap ∧ len ≤ maxLen ∧ l.length = len ∧
  ((a = none ∧ len = 0 ∧ cap = 0) ∨
   ∃ x, a = some x ∧ (l ≠ [] → ∃ b o, x = ⟨b, o, none⟩ ∧ b < w.heap.size ∧ ∀ i, i < l.length → w.cell? ⟨b, o + i, none⟩ = some (.int .u8 (l.getD i 0).toNat)))

theorem byte_of {n : Int} (h : (Lit.int .u8 n).wf = true) : ((UInt8.ofNat n.toNat).toNat : Int) = n := by
  have e1 : IntKind.u8.min = 0 := rfl
  have e2 : IntKind.u8.max = 255 := rfl
  have hb : 0 ≤ n ∧ n ≤ 255 := by simpa [Lit.wf, e1, e2] using h
  rw [UInt8.toNat_ofNat_of_lt' (by have : UInt8.size = 256 := rfl; omega)]
  omega

theorem open_bytes {H : Type} {enc : TypeId × Value → H} {W : World} {a0 : Option Addr} {len0 cap0 : Nat} {d0 : DataW H} {p0 : List MemPlace}
    (h0 : DataW.Trod enc Tryd.prog W 0 (fun _ => true) true 24 (.slice a0 len0 cap0) d0 p0) : ∃ l, IsBytes W a0 len0 cap0 l := by
  obtain ⟨fuel, hf⟩ := h0
  rcases open_ints Tryd.underlying24 Tryd.underlying5 (by kernel_rfl) hf with ⟨hcs, _⟩ | ⟨x, l, c, zs, hcs, _, hl, hm, hz, _, hcell, hwz⟩
  · simp [Value.cells] at hcs
    obtain ⟨rfl, rfl, rfl⟩ := hcs
    exact ⟨[], Nat.le_refl _, Nat.zero_le _, rfl, .inl ⟨rfl, rfl, rfl⟩⟩
  · simp [Value.cells] at hcs
    obtain ⟨rfl, rfl, rfl⟩ := hcs
    have hz' : zs.length = cap0 := by simpa using hz
    refine ⟨(zs.take len0).map fun n => UInt8.ofNat n.toNat, hl, Nat.le_trans hl hm, by rw [List.length_map, List.length_take]; omega, .inr ⟨x, rfl, fun hne => ?_⟩⟩
    have hpos : 0 < len0 := by
      rcases Nat.eq_zero_or_pos len0 with h | h
      · subst h; simp at hne
      · exact h
    obtain ⟨b, off, rfl, hc⟩ := ints_at hcell (by omega)
    have hlt := World.block_lt_of_cell? W _ (hc 0 (by omega))
    refine ⟨b, off, rfl, hlt, fun i hi => ?_⟩
    rw [List.length_map, List.length_take] at hi
    have hi' : i < zs.length := by omega
    rw [hc i hi']
    have hmem : (Lit.int .u8 (zs[i])).wf = true := hwz _ (List.getElem_mem hi')
    have hlen : i < len0 := by omega
    simp only [List.getD_eq_getElem?_getD, List.getElem?_map, List.getElem?_take, hlen, if_true, List.getElem?_eq_getElem hi', Option.map_some, Option.getD_some]
    rw [byte_of hmem]
end Go.Proofs.Qxb6600527aDoor.fra
