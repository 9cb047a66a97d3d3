/-
  How a slice of units that came in is opened.
-/
import Derived.Test.Qxb6600552aDa
import Derived.Deep.Slices
import Derived.Deep.SlicePairs
import Derived.ChangeArms
set_option linter.unusedVariables false
set_option linter.unusedSimpArgs false
namespace Go.Proofs.Qxb6600552a.kt
open Go.ChangeShapes Go.WideShapes Go.RowKit Go.Deep

theorem own : ownKnob Try.prog.godebug = none := by kernel_rfl
theorem cells9 : Try.prog.cellsOf 9 = 1 := by kernel_rfl
theorem cells48 : Try.prog.cellsOf 48 = 2 := by kernel_rfl
theorem cells28 : Try.prog.cellsOf 28 = 4 := by kernel_rfl
theorem cells25 : Try.prog.cellsOf 25 = 1 := by kernel_rfl
theorem cells26 : Try.prog.cellsOf 26 = 1 := by kernel_rfl

section
variable {H : Type} {enc : TypeId × Value → H} {w : World} {base : Nat} {spare : Nat → Bool} {held : Bool}

theorem trod_str {fuel : Nat} {cs : List Value} {x : DataW H × List MemPlace} (h : DataW.trod enc Try.prog w base spare held fuel 9 cs = some x) : ∃ s : ByteArray, cs = [.string s] ∧ s.size ≤ maxLen := by
  cases fuel with
  | zero => simp [DataW.trod] at h
  | succ n =>
    unfold DataW.trod at h
    rw [Try.underlying9] at h
    split at h <;> simp_all
theorem plain_addr {a : Addr} {v : Value} (h : w.cell? a = some v) : ∃ b o, a = ⟨b, o, none⟩ ∧ b < w.heap.size := by
  obtain ⟨b, off, spot⟩ := a
  have hspot : spot = none := by simpa using World.cell?_spot h
  subst hspot
  exact ⟨b, off, rfl, World.block_lt_of_cell? w _ h⟩
theorem open_strs' {fuel : Nat} {cs : List Value} {x : DataW H × List MemPlace} (h : DataW.trod enc Try.prog w base (fun _ => true) held fuel 26 cs = some x) :
    ∃ ad cap, ∃ xs : List ByteArray, cs = [.slice ad xs.length cap] ∧ SSrc w.heap.size w (.slice ad xs.length cap) xs ∧ xs.length ≤ maxLen ∧ ∀ s, s ∈ xs → s.size ≤ maxLen := by
  rcases open_slice1 Try.underlying26 cells9 h with ⟨h0, _⟩ | ⟨a, len, cap, m, n, V, D, Pl, rfl, hb, hl, hm, hmm, _, hx⟩
  · exact ⟨none, 0, [], h0, ⟨none, 0, rfl, fun _ => ⟨rfl, rfl⟩, fun h => absurd rfl h⟩, Nat.zero_le _, fun s h => by cases h⟩
  · simp only [if_true] at hmm
    subst hmm
    obtain ⟨S, hS⟩ := choose_lt (α := ByteArray) (p := fun i s => V i = .string s ∧ s.size ≤ maxLen) (fun i hi => by
      obtain ⟨s, h1, h2⟩ := trod_str (hx i hi).2
      exact ⟨s, by simpa using h1, h2⟩)
    have hlen : ((List.range len).map S).length = len := by simp
    refine ⟨some a, m, (List.range len).map S, by rw [hlen], ⟨some a, m, rfl, (fun h => by cases h), fun hne => ?_⟩, by rw [hlen]; omega, fun s hs => ?_⟩
    · have hp : 0 < len := by
        rcases Nat.eq_zero_or_pos len with h | h
        · subst h; simp at hne
        · exact h
      have h0 := (hx 0 (by omega)).1
      obtain ⟨b, off, spot⟩ := a
      have hspot : spot = none := by simpa [Addr.add] using World.cell?_spot h0
      subst hspot
      have hc : ∀ j, j < m → w.cell? ⟨b, off + j, none⟩ = some (V j) := fun j hj => by rw [← Go.WideShapes.add_plain]; exact (hx j hj).1
      refine ⟨b, off, rfl, World.block_lt_of_cell? w _ (hc 0 (by omega)), fun i hi => ?_⟩
      rw [hlen] at hi
      rw [hc i (by omega), (hS i (by omega)).1]
      simp
    · obtain ⟨i, hi, rfl⟩ := List.mem_map.1 hs
      rw [List.mem_range] at hi
      exact (hS i (by omega)).2
theorem open_reads {fuel : Nat} {cs : List Value} {x : DataW H × List MemPlace} (h : DataW.trod enc Try.prog w base (fun _ => true) held fuel 25 cs = some x) :
    ∃ ad cap, ∃ xs : List (ByteArray × ByteArray), cs = [.slice ad xs.length cap] ∧ RSrc w.heap.size w (.slice ad xs.length cap) xs ∧ xs.length ≤ maxLen ∧ ∀ r, r ∈ xs → r.1.size ≤ maxLen ∧ r.2.size ≤ maxLen := by
  rcases open_slice_pairs Try.underlying25 Try.underlying48 cells48 rfl rfl cells9 cells9 h with ⟨h0, _⟩ | ⟨a, len, cap, m, n, V0, V1, D0, D1, P0, P1, rfl, hb, hl, hm, hmm, _, hx⟩
  · exact ⟨none, 0, [], h0, ⟨none, 0, rfl, fun _ => ⟨rfl, rfl⟩, fun h => absurd rfl h⟩, Nat.zero_le _, fun s h => by cases h⟩
  · simp only [if_true] at hmm
    subst hmm
    obtain ⟨S, hS⟩ := choose_lt (α := ByteArray × ByteArray) (p := fun i s => V0 i = .string s.1 ∧ V1 i = .string s.2 ∧ s.1.size ≤ maxLen ∧ s.2.size ≤ maxLen) (fun i hi => by
      obtain ⟨s, h1, h2⟩ := trod_str (hx i hi).2.2.1
      obtain ⟨t, h3, h4⟩ := trod_str (hx i hi).2.2.2
      exact ⟨(s, t), by simpa using h1, by simpa using h3, h2, h4⟩)
    have hlen : ((List.range len).map S).length = len := by simp
    refine ⟨some a, m, (List.range len).map S, by rw [hlen], ⟨some a, m, rfl, (fun h => by cases h), fun hne => ?_⟩, by rw [hlen]; omega, fun s hs => ?_⟩
    · have hp : 0 < len := by
        rcases Nat.eq_zero_or_pos len with h | h
        · subst h; simp at hne
        · exact h
      have h0 := (hx 0 (by omega)).1
      obtain ⟨b, off, spot⟩ := a
      have hspot : spot = none := by simpa [Addr.add] using World.cell?_spot h0
      subst hspot
      have hc : ∀ j, j < m → w.cell? ⟨b, off + j * 2, none⟩ = some (V0 j) ∧ w.cell? ⟨b, off + j * 2 + 1, none⟩ = some (V1 j) := fun j hj => by
        obtain ⟨q1, q2, _⟩ := hx j hj
        rw [Go.WideShapes.add_plain] at q1 q2
        exact ⟨q1, by rw [Nat.add_assoc]; exact q2⟩
      refine ⟨b, off, rfl, World.block_lt_of_cell? w _ (hc 0 (by omega)).1, fun i hi => ?_⟩
      rw [hlen] at hi
      obtain ⟨q1, q2⟩ := hc i (by omega)
      obtain ⟨s1, s2, _⟩ := hS i (by omega)
      rw [q1, q2, s1, s2]
      simp
    · obtain ⟨i, hi, rfl⟩ := List.mem_map.1 hs
      rw [List.mem_range] at hi
      exact (hS i (by omega)).2.2
instance : Inhabited U := ⟨⟨ByteArray.empty, ByteArray.empty, [], []⟩⟩
theorem open_units {fuel : Nat} {cs : List Value} {x : DataW H × List MemPlace} (h : DataW.trod enc Try.prog w base (fun _ => true) held fuel 22 cs = some x) :
    ∃ ad cap, ∃ us : List U, cs = [.slice ad us.length cap] ∧ USrc w.heap.size w (.slice ad us.length cap) us ∧ us.length ≤ maxLen ∧ ∀ u, u ∈ us → Sz u := by
  rcases open_slice Try.underlying22 h with ⟨h0, _⟩ | ⟨a, len, cap, m, n, D, Pl, rfl, hb, hl, hm, hmm, _, hx⟩
  · exact ⟨none, 0, [], h0, ⟨none, 0, rfl, fun _ => ⟨rfl, rfl⟩, fun h => absurd rfl h⟩, Nat.zero_le _, fun s h => by cases h⟩
  · simp only [if_true] at hmm
    subst hmm
    have each : ∀ i, i < m → ∃ u : U, ∃ ra rc wa wk, w.cell? (a.add (i * 4)) = some (.string u.id) ∧ w.cell? (a.add (i * 4 + 1)) = some (.string u.place) ∧ w.cell? (a.add (i * 4 + 2)) = some (.slice ra u.reads.length rc) ∧ w.cell? (a.add (i * 4 + 3)) = some (.slice wa u.writes.length wk) ∧
        RSrc w.heap.size w (.slice ra u.reads.length rc) u.reads ∧ SSrc w.heap.size w (.slice wa u.writes.length wk) u.writes ∧ Sz u := by
      intro i hi
      obtain ⟨cs', h1, h2⟩ := hx i hi
      rw [cells28] at h1
      obtain ⟨_, hlen, hcell⟩ := World.cells?_some h1
      obtain ⟨xs, k, hk, hxy, _, hxl, hf⟩ := DataW.trod_struct Try.underlying28 h2
      match xs, hxl, cs', hlen with
      | [y0, y1, y2, y3], _, [v0, v1, v2, v3], _ =>
        have g0 := hf 0 _ rfl
        have g1 := hf 1 _ rfl
        have g2 := hf 2 _ rfl
        have g3 := hf 3 _ rfl
        simp [cells9, cells25, cells26] at g0 g1 g2 g3
        have e0 := hcell 0 (by omega)
        have e1 := hcell 1 (by omega)
        have e2 := hcell 2 (by omega)
        have e3 := hcell 3 (by omega)
        rw [add_add] at e0 e1 e2 e3
        obtain ⟨id, q0, z0⟩ := trod_str g0
        obtain ⟨place, q1, z1⟩ := trod_str g1
        obtain ⟨ra, rc, rs, q2, s2, z2, z2'⟩ := open_reads g2
        obtain ⟨wa, wk, ws, q3, s3, z3, z3'⟩ := open_strs' g3
        obtain rfl : v0 = .string id := by simpa using q0
        obtain rfl : v1 = .string place := by simpa using q1
        obtain rfl : v2 = .slice ra rs.length rc := by simpa using q2
        obtain rfl : v3 = .slice wa ws.length wk := by simpa using q3
        exact ⟨⟨id, place, rs, ws⟩, ra, rc, wa, wk, by simpa using e0, by simpa using e1, by simpa using e2, by simpa using e3, s2, s3, z0, z1, z2, z3, z2', z3'⟩
    obtain ⟨S, hS⟩ := choose_lt each
    have hlen : ((List.range len).map S).length = len := by simp
    refine ⟨some a, m, (List.range len).map S, by rw [hlen], ⟨some a, m, rfl, (fun h => by cases h), fun hne => ?_⟩, by rw [hlen]; omega, fun s hs => ?_⟩
    · have hp : 0 < len := by
        rcases Nat.eq_zero_or_pos len with h | h
        · subst h; simp at hne
        · exact h
      obtain ⟨_, _, _, _, h0, _⟩ := hS 0 (by omega)
      obtain ⟨b, off, spot⟩ := a
      have hspot : spot = none := by simpa [Addr.add] using World.cell?_spot h0
      subst hspot
      refine ⟨b, off, rfl, ?_, fun i hi => ?_⟩
      · exact World.block_lt_of_cell? w _ (by rw [Go.WideShapes.add_plain] at h0; exact h0)
      · rw [hlen] at hi
        obtain ⟨ra, rc, wa, wk, c0, c1, c2, c3, r1, r2, _⟩ := hS i (by omega)
        rw [Go.WideShapes.add_plain] at c0 c1 c2 c3
        simp only [List.getElem_map, List.getElem_range]
        exact ⟨ra, rc, wa, wk, c0, by rw [Nat.add_assoc]; exact c1, by rw [Nat.add_assoc]; exact c2, by rw [Nat.add_assoc]; exact c3, r1, r2⟩
    · obtain ⟨i, hi, rfl⟩ := List.mem_map.1 hs
      rw [List.mem_range] at hi
      obtain ⟨_, _, _, _, _, _, _, _, _, _, hz⟩ := hS i (by omega)
      exact hz
end
end Go.Proofs.Qxb6600552a.kt
