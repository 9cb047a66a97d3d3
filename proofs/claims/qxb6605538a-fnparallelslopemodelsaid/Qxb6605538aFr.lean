/-
  How a slice of floats, and a slice of such, that came in is opened.
-/
import Derived.Test.Qxb6605538aWf
import Derived.Deep.Slices
import Derived.ChangeArms
namespace Go.Proofs.Qxb6605538a.fl
open Go.ChangeShapes Go.WideShapes Go.ChangeAt Go.RowKit Go.Deep

theorem own : ownKnob Try.prog.godebug = none := by kernel_rfl
theorem laidOut : laidOutB Try.prog = true := by kernel_rfl
theorem cells22 : Try.prog.cellsOf 22 = 1 := by kernel_rfl
theorem cells24 : Try.prog.cellsOf 24 = 1 := by kernel_rfl

section
variable {H : Type} {enc : TypeId × Value → H} {w : World} {base : Nat} {spare : Nat → Bool} {held : Bool}

theorem trod_f64 {fuel : Nat} {cs : List Value} {x : DataW H × List MemPlace} (h : DataW.trod enc Try.prog w base spare held fuel 24 cs = some x) : ∃ b, cs = [.float .f64 b] := by
  cases fuel with
  | zero => simp [DataW.trod] at h
  | succ n =>
    unfold DataW.trod at h
    rw [Try.underlying24] at h
    split at h <;> simp_all

/-- cells one behind the other, at a plain address -/
theorem plain_at {a : Addr} {n : Nat} {V : Nat → Value} (h : ∀ i, i < n → w.cell? (a.add i) = some (V i)) (hp : 0 < n) :
    ∃ b off, a = ⟨b, off, none⟩ ∧ b < w.heap.size ∧ ∀ j, j < n → w.cell? ⟨b, off + j, none⟩ = some (V j) := by
  obtain ⟨b, off, spot⟩ := a
  have hspot : spot = none := by simpa [Addr.add] using World.cell?_spot (h 0 hp)
  subst hspot
  have hc : ∀ j, j < n → w.cell? ⟨b, off + j, none⟩ = some (V j) := fun j hj => by rw [← Go.WideShapes.add_plain]; exact h j hj
  exact ⟨b, off, rfl, World.block_lt_of_cell? w _ (hc 0 hp), hc⟩

theorem open_floats {fuel : Nat} {cs : List Value} {x : DataW H × List MemPlace} (h : DataW.trod enc Try.prog w base (fun _ => true) held fuel 22 cs = some x) :
    ∃ ad cap, ∃ xs : List Nat, cs = [.slice ad xs.length cap] ∧ FSrc w.heap.size w (.slice ad xs.length cap) xs ∧ xs.length ≤ maxLen := by
  rcases open_slice1 Try.underlying22 cells24 h with ⟨h0, _⟩ | ⟨a, len, cap, m, n, V, D, Pl, rfl, hb, hl, hm, hmm, _, hx⟩
  · exact ⟨none, 0, [], h0, ⟨none, 0, rfl, fun _ => ⟨rfl, rfl⟩, fun h => absurd rfl h⟩, Nat.zero_le _⟩
  · simp only [if_true] at hmm
    subst hmm
    obtain ⟨B, hB⟩ := choose_lt (α := Nat) (p := fun i b => V i = .float .f64 b) (fun i hi => by
      obtain ⟨b, h1⟩ := trod_f64 (hx i hi).2
      exact ⟨b, by simpa using h1⟩)
    have hlen : ((List.range len).map B).length = len := by simp
    refine ⟨some a, m, (List.range len).map B, by rw [hlen], ⟨some a, m, rfl, (fun h => by cases h), fun hne => ?_⟩, by rw [hlen]; omega⟩
    have hp : 0 < len := by
      rcases Nat.eq_zero_or_pos len with h | h
      · subst h; simp at hne
      · exact h
    obtain ⟨b, o, e, hlt, hc⟩ := plain_at (w := w) (a := a) (n := m) (V := V) (fun i hi => (hx i hi).1) (by omega)
    refine ⟨b, o, by rw [e], hlt, fun i hi => ?_⟩
    rw [hlen] at hi
    rw [hc i (by omega), hB i (by omega)]
    simp

theorem open_nest {fuel : Nat} {cs : List Value} {x : DataW H × List MemPlace} (h : DataW.trod enc Try.prog w base (fun _ => true) held fuel 30 cs = some x) :
    ∃ ad cap, ∃ xss : List (List Nat), cs = [.slice ad xss.length cap] ∧ NSrc w.heap.size w (.slice ad xss.length cap) xss ∧ xss.length ≤ maxLen ∧ ∀ l, l ∈ xss → l.length ≤ maxLen := by
  rcases open_slice1 Try.underlying30 cells22 h with ⟨h0, _⟩ | ⟨a, len, cap, m, n, V, D, Pl, rfl, hb, hl, hm, hmm, _, hx⟩
  · exact ⟨none, 0, [], h0, ⟨none, 0, rfl, fun _ => ⟨rfl, rfl⟩, fun h => absurd rfl h⟩, Nat.zero_le _, fun l h => by cases h⟩
  · simp only [if_true] at hmm
    subst hmm
    obtain ⟨B, hB⟩ := choose_lt (α := List Nat) (p := fun i xs => ∃ ad cap, V i = .slice ad xs.length cap ∧ FSrc w.heap.size w (.slice ad xs.length cap) xs ∧ xs.length ≤ maxLen) (fun i hi => by
      obtain ⟨ad, cap, xs, h1, h2, h3⟩ := open_floats (hx i hi).2
      exact ⟨xs, ad, cap, by simpa using h1, h2, h3⟩)
    have hlen : ((List.range len).map B).length = len := by simp
    refine ⟨some a, m, (List.range len).map B, by rw [hlen], ⟨some a, m, rfl, (fun h => by cases h), fun hne => ?_⟩, by rw [hlen]; omega, fun l hl => ?_⟩
    · have hp : 0 < len := by
        rcases Nat.eq_zero_or_pos len with h | h
        · subst h; simp at hne
        · exact h
      obtain ⟨b, o, e, hlt, hc⟩ := plain_at (w := w) (a := a) (n := m) (V := V) (fun i hi => (hx i hi).1) (by omega)
      refine ⟨b, o, by rw [e], hlt, fun i hi => ?_⟩
      rw [hlen] at hi
      obtain ⟨ad, cp, h1, h2, h3⟩ := hB i (by omega)
      refine ⟨ad, cp, ?_, ?_⟩
      · rw [hc i (by omega), h1]; simp
      · simpa using h2
    · obtain ⟨i, hi, rfl⟩ := List.mem_map.1 hl
      rw [List.mem_range] at hi
      exact (hB i (by omega)).choose_spec.choose_spec.2.2
end
end Go.Proofs.Qxb6605538a.fl
