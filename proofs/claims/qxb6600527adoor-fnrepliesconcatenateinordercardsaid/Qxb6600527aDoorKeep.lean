/-
  What stands while another Buffer is written: rows of bytes, Buffers; a slice that is nil or a row of the call's own, cloned, handed to Bulk, appended from.
-/
import Derived.Test.Qxb6600527aDoorBulk
import Derived.Test.Qxb6600527aDoorSlices
namespace Go.Proofs.Qxb6600527aDoor.buf
open Go.ChangeShapes Go.WideShapes Go.ChangeAt Go.RowKit

/-- sv is nil, or a row of bytes below block B; it holds the bytes p -/
def SrcIn (B : Nat) (w : World) (sv : Value) (p : List UInt8) : Prop :=
  (sv = .slice none 0 0 ∧ p = []) ∨
  ∃ g c cur, g < B ∧ sv = .slice (some ⟨g, 0, none⟩) p.length c ∧ w.heap[g]? = some (.cells cur 5 (0, 0)) ∧ cur.toList.take p.length = Lib.byteCells p

theorem src_of_owns {w : World} {B : Nat} {v : Value} {p : List UInt8} (h : w.ownsRow B 5 1 v p.length (Lib.byteCells p)) : SrcIn w.heap.size w v p := by
  rcases h.2 with ⟨rfl, h0⟩ | ⟨g, cap, cur, rfl, _, hg, _, _, _, ht⟩
  · exact .inl ⟨rfl, List.length_eq_zero_iff.1 h0⟩
  · exact .inr ⟨g, cap, cur, lt_of_block hg, rfl, hg, by simpa using ht⟩

theorem SrcIn.mono {B B' : Nat} {w : World} {sv : Value} {p : List UInt8} (h : SrcIn B w sv p) (hB : B ≤ B') : SrcIn B' w sv p := by
  rcases h with h | ⟨g, c, cur, h1, h2⟩
  · exact .inl h
  · exact .inr ⟨g, c, cur, by omega, h2⟩

theorem SrcIn.cells {B : Nat} {w : World} {g c : Nat} {p : List UInt8} (h : SrcIn B w (.slice (some ⟨g, 0, none⟩) p.length c) p) : ∀ i, i < p.length → w.cell? ⟨g, i, none⟩ = some (.int .u8 (p.getD i 0).toNat) := by
  intro i hi
  rcases h with ⟨h, _⟩ | ⟨g', c', cur, _, h2, h3, h4⟩
  · cases h
  · simp only [Value.slice.injEq, Option.some.injEq, Addr.mk.injEq, and_true, true_and] at h2
    obtain ⟨rfl, rfl⟩ := h2
    have h5 : cur.toList[i]? = some (.int .u8 (p.getD i 0).toNat) := by
      have : (cur.toList.take p.length)[i]? = (Lib.byteCells p)[i]? := by rw [h4]
      rw [List.getElem?_take, if_pos hi] at this
      rw [this]
      simp [Lib.byteCells, hi]
    simp [World.cell?, h3]
    simpa using h5

theorem SrcIn.keep {B B' k : Nat} {w w' : World} {sv v : Value} {p : List UInt8} (h : SrcIn B w sv p) (hk : w.heap[k]? = some (.cells #[v] 30 (0, 0))) (hkb : KB B' k w w') (hB : B ≤ B') : SrcIn B w' sv p := by
  rcases h with h | ⟨g, c, cur, h1, h2, h3, h4⟩
  · exact .inl h
  · refine .inr ⟨g, c, cur, h1, h2, ?_, h4⟩
    rw [hkb.block g (by omega) (by intro e; subst e; rw [hk] at h3; simp at h3)]
    exact h3

theorem SrcIn.below {B B' : Nat} {w w' : World} {sv : Value} {p : List UInt8} (h : SrcIn B w sv p) (hb : Below B' w w') (hB : B ≤ B') : SrcIn B w' sv p := by
  rcases h with h | ⟨g, c, cur, h1, h2, h3, h4⟩
  · exact .inl h
  · exact .inr ⟨g, c, cur, h1, h2, by rw [hb.block g (by omega)]; exact h3, h4⟩

/-- a Buffer stands while another one is written -/
theorem Buf.keep {B k k2 : Nat} {w w' : World} {v : Value} {l : List UInt8} (h : Buf w B k2 l) (hk : w.heap[k]? = some (.cells #[v] 30 (0, 0))) (hkb : KB w.heap.size k w w') (hne : k2 ≠ k) : Buf w' B k2 l := by
  obtain ⟨u, h1, h2⟩ := h
  refine ⟨u, by rw [hkb.block k2 (lt_of_block h1) hne]; exact h1, h2.1, ?_⟩
  rcases h2.2 with h3 | ⟨g, cap, cur, h3, h4, h5, h6⟩
  · exact .inl h3
  · refine .inr ⟨g, cap, cur, h3, h4, ?_, h6⟩
    rw [hkb.block g (lt_of_block h5) (by intro e; subst e; rw [hk] at h5; simp at h5)]
    exact h5

theorem Buf.below {B k2 : Nat} {w w' : World} {l : List UInt8} (h : Buf w B k2 l) (hb : Below w.heap.size w w') : Buf w' B k2 l := by
  obtain ⟨u, h1, h2⟩ := h
  refine ⟨u, by rw [hb.block k2 (lt_of_block h1)]; exact h1, h2.1, ?_⟩
  rcases h2.2 with h3 | ⟨g, cap, cur, h3, h4, h5, h6⟩
  · exact .inl h3
  · exact .inr ⟨g, cap, cur, h3, h4, by rw [hb.block g (lt_of_block h5)]; exact h5, h6⟩

theorem Buf.block {w : World} {B k : Nat} {l : List UInt8} (h : Buf w B k l) : ∃ v, w.heap[k]? = some (.cells #[v] 30 (0, 0)) := by
  obtain ⟨v, h1, _⟩ := h; exact ⟨v, h1⟩

/-- zzClone of nil, or of a row of bytes -/
theorem clone_src (B : Nat) (sv : Value) (p : List UInt8) (w : World) (hB : B ≤ w.heap.size) (h : SrcIn B w sv p) (hlen : p.length ≤ 1048576) :
    Calls Tryd.prog 11 #[sv] w fun e w' => ∃ v, e = .returned v ∧ w'.ownsRow w.heap.size 5 1 v p.length (Lib.byteCells p) ∧ Below w.heap.size w w' := by
  have h' := h
  rcases h with ⟨rfl, rfl⟩ | ⟨g, c, cur, h1, rfl, _⟩
  · exact (sl.clone_nil w).mono fun e w' ⟨he, hw⟩ => ⟨_, he, by subst hw; exact World.ownsRow_nil _ _ _ _, by subst hw; exact Below.refl _ _⟩
  · exact (sl.clone_some ⟨g, 0, none⟩ c p w hlen (fun _ => ⟨g, 0, rfl, by omega, fun i hi => by rw [Nat.zero_add]; exact h'.cells i hi⟩)).mono fun e w' ⟨he, h2, h3⟩ => ⟨_, he, h2, h3⟩

/-- Bulk of nil, or of a row of bytes -/
theorem bulk_src (B k : Nat) (sv : Value) (l p : List UInt8) (w : World) (hbuf : Buf w B k l) (hB : B ≤ w.heap.size) (hlim : l.length + p.length ≤ 1099511627776)
    (h2B : 2 < B) (h2k : 2 ≠ k) (htab : Lib.TabIs Tryd.prog w pow10 .u64 Lib.pow10Tab) (hsrc : SrcIn B w sv p) :
    Calls Tryd.prog 13 #[.pointer (some ⟨k, 0, none⟩), sv] w fun e w' => e = .returned (.tuple #[]) ∧ Buf w' B k (l ++ bulkOf p) ∧ KB B k w w' := by
  obtain ⟨v, hk⟩ := hbuf.block
  have h' := hsrc
  rcases hsrc with ⟨rfl, rfl⟩ | ⟨g, c, cur, h1, rfl, h3, _⟩
  · exact bulk_nil B k l w hbuf hB (by simpa using hlim) h2B h2k htab
  · exact bulk_some B k g c l p w hbuf hB hlim h2B h2k htab h1 (by intro e; subst e; rw [hk] at h3; simp at h3) h'.cells

/-- 'want = append(want, sv...)', sv nil or a row of bytes -/
theorem append_src {w : World} {ops : Array Oper} {rest : List Oper} {o : Oper} {a : Act} {Q : Exit → Act → World → Prop} (hgd : o.guard = none) (s x : Operand)
    (ho : o.op = .call { callee := .builtin .append, args := #[s, x], argTypes := #[24, 24] })
    (base : Nat) (v sv : Value) (l p : List UInt8) (hs : a.eval s = v) (hown : w.ownsRow base 5 1 v l.length (Lib.byteCells l)) (hx : a.eval x = sv) (B : Nat) (hsrc : SrcIn B w sv p)
    (hlim : l.length + p.length ≤ 1099511627776) (hbase : base ≤ w.heap.size)
    (h : ∀ v' w', w'.ownsRow base 5 1 v' (l ++ p).length (Lib.byteCells (l ++ p)) → w.grownBy w' v.ownBlock → wpList Tryd.prog ops Q rest (a.put o.dst v') w') : wpList Tryd.prog ops Q (o :: rest) a w := by
  obtain ⟨i0, hi, hz0, hz1, hz2⟩ := info_parts dec.info5
  have h' := hsrc
  rcases hsrc with ⟨rfl, rfl⟩ | ⟨g, c, cur, h1, rfl, h3, _⟩
  · refine wpList_append_own_none hgd s x 24 ho base 5 i0 1 Tryd.underlying24 hi v l.length (Lib.byteCells l) hs hown hx (h v w ?_ (World.grownBy.refl _ _))
    rw [List.append_nil]
    exact hown
  · refine wpList_append_own w hgd s x 24 ho base 5 i0 (.int .u8 0) 1 1 Tryd.underlying24 hi hz0 hz1 hz2 rfl (by decide) v l.length (Lib.byteCells l) hs hown ⟨g, 0, none⟩ p.length c (Lib.byteCells p) hx (by rw [Lib.byteCells_length, Nat.mul_one]) ?_ (Lib.byteCells_one _) (by unfold maxLen; omega) (by omega) hbase ?_
    · intro j u hu
      have hj : j < p.length := by
        rcases Nat.lt_or_ge j p.length with h | h
        · exact h
        · rw [List.getElem?_eq_none (by rw [Lib.byteCells_length]; exact h)] at hu; cases hu
      rw [show (⟨g, 0, none⟩ : Addr).add j = ⟨g, j, none⟩ from by unfold Addr.add; split <;> simp_all, h'.cells j hj, ← hu]
      simp [Lib.byteCells, hj]
    · intro v' w' h5 h6 _
      refine h v' w' ?_ h6
      rw [List.length_append, Lib.byteCells_append]
      exact h5
end Go.Proofs.Qxb6600527aDoor.buf
