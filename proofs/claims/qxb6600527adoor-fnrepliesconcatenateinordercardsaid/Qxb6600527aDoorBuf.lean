/-
  A resp.Buffer in memory, and what an append to it does: the words for the walks of 'line', 'header', 'Bulk'.
-/
import Derived.Test.Qxb6600527aDoorDec
import Derived.Lib.AppendIntMem
import Derived.Laws.AppendOwnNone
namespace Go.Proofs.Qxb6600527aDoor.buf
open Go.ChangeShapes Go.WideShapes Go.ChangeAt Go.RowKit

/-- Below block B, all but block k stands as it stood. -/
structure KB (B k : Nat) (w w' : World) : Prop where
  os : w'.os = w.os
  tape : w'.tape = w.tape
  output : w'.output = w.output
  size : w.heap.size ≤ w'.heap.size
  block : ∀ j, j < B → j ≠ k → w'.heap[j]? = w.heap[j]?

theorem KB.refl (B k : Nat) (w : World) : KB B k w w := ⟨rfl, rfl, rfl, Nat.le_refl _, fun _ _ _ => rfl⟩
theorem KB.trans {B k : Nat} {a b c : World} (h : KB B k a b) (g : KB B k b c) : KB B k a c :=
  ⟨g.os.trans h.os, g.tape.trans h.tape, g.output.trans h.output, Nat.le_trans h.size g.size, fun j hj hk => (g.block j hj hk).trans (h.block j hj hk)⟩
theorem KB.of_below {B k : Nat} {w w' : World} (h : Below B w w') : KB B k w w' := ⟨h.os, h.tape, h.output, h.size, fun j hj _ => h.block j hj⟩
theorem KB.below {B k B' : Nat} {w w' : World} (h : KB B k w w') (hB : B' ≤ B) (hk : B' ≤ k) : Below B' w w' :=
  ⟨h.os, h.tape, h.output, h.size, fun j hj => h.block j (by omega) (by omega)⟩
theorem KB.drewN {B k : Nat} {w w' : World} (h : KB B k w w') (n : Nat) : KB B k w (w'.drewN n) := ⟨h.os, h.tape, h.output, h.size, h.block⟩
theorem KB.cell {B k : Nat} {w w' : World} (h : KB B k w w') {p : Addr} (hp : p.block < B) (hk : p.block ≠ k) : w'.cell? p = w.cell? p := World.cell?_of_block (h.block p.block hp hk)

/-- In the world w block k is a Buffer; its slice owns the bytes l, in a row from block B on. -/
def Buf (w : World) (B k : Nat) (l : List UInt8) : Prop :=
  ∃ v, w.heap[k]? = some (.cells #[v] 30 (0, 0)) ∧ w.ownsRow B 5 1 v l.length (Lib.byteCells l)

/-- a row of bytes is no Buffer's block -/
theorem row_ne {w : World} {B k n : Nat} {v u : Value} {xs : List Value} (hk : w.heap[k]? = some (.cells #[u] 30 (0, 0))) (hown : w.ownsRow B 5 1 v n xs) : v.ownBlock ≠ some k := by
  intro e
  rcases hown.2 with ⟨rfl, _⟩ | ⟨g, cap, cur, rfl, _, hg, _⟩
  · cases e
  · have : g = k := by simpa [Value.ownBlock] using e
    subst this
    rw [hk] at hg
    simp at hg

/-- the Buffer's block stands while its row grows -/
theorem kept {w w0 w1 : World} {B k n : Nat} {v : Value} {xs : List Value} (hk : w.heap[k]? = some (.cells #[v] 30 (0, 0))) (hown : w.ownsRow B 5 1 v n xs)
    (h0 : w0 = w ∨ ∃ o, w0 = w.alloc o) (hg : w0.grownBy w1 v.ownBlock) : w1.heap[k]? = some (.cells #[v] 30 (0, 0)) := by
  have hlt := lt_of_block hk
  have hne := row_ne hk hown
  rcases h0 with rfl | ⟨o, rfl⟩
  · rw [hg.block k hlt (fun e => hne e.symm)]; exact hk
  · rw [hg.block k (by simp; omega) (fun e => hne e.symm), Below.heap_alloc w o k hlt]; exact hk

/-- 'b.b = append(b.b, ..)', the store carried out -/
theorem put {w w0 w1 : World} {B k n n' : Nat} {l l' : List UInt8} {v v' : Value} (hk : w.heap[k]? = some (.cells #[v] 30 (0, 0))) (hown : w.ownsRow B 5 1 v n (Lib.byteCells l))
    (h0 : w0 = w ∨ ∃ o, w0 = w.alloc o) (hg : w0.grownBy w1 v.ownBlock) (hB : B ≤ w.heap.size) (hown' : w1.ownsRow B 5 1 v' n' (Lib.byteCells l')) (hn : n' = l'.length) :
    Buf (w1.setCell ⟨k, 0, none⟩ v') B k l' ∧ KB B k w (w1.setCell ⟨k, 0, none⟩ v') := by
  have hk1 := kept hk hown h0 hg
  subst hn
  refine ⟨⟨v', one_setCell hk1, ownsRow_setCell_other hown' (row_ne hk1 hown') _⟩, ?_⟩
  have hb : Below B w w1 := by
    rcases h0 with rfl | ⟨o, rfl⟩
    · exact (Below.refl _ _).grown hg hB (fun j hj => (hown.lt j hj).1)
    · exact ((Below.refl _ _).alloc hB o).grown hg (by simp; omega) (fun j hj => (hown.lt j hj).1)
  exact ⟨hb.os, hb.tape, hb.output, by rw [World.size_setCell]; exact hb.size, fun j hj hjk => by rw [Below.heap_setCell _ _ _ _ (by simpa using hjk)]; exact hb.block j hj⟩

/-- what is owned is a slice -/
theorem shape {w : World} {B n e : Nat} {sz : Nat} {v : Value} {xs : List Value} (h : w.ownsRow B e sz v n xs) : ∃ ad cap, v = .slice ad n cap := by
  rcases h.2 with ⟨rfl, rfl⟩ | ⟨g, cap, cur, rfl, _⟩
  · exact ⟨_, _, rfl⟩
  · exact ⟨_, _, rfl⟩

/-- two cells laid for 'append(b, x, y)' -/
theorem two_new (w : World) (x y : Value) (T : TypeId) : ∀ j u, [x, y][j]? = some u → (w.alloc (.cells #[x, y] T)).cell? ((⟨w.heap.size, 0, none⟩ : Addr).add j) = some u := by
  intro j u hj
  match j, hj with
  | 0, hj => simp at hj; subst hj; simp [Addr.add]
  | 1, hj => simp at hj; subst hj; simp [Addr.add]

theorem cells_snoc (l : List UInt8) (c : UInt8) : Lib.byteCells l ++ [Value.int .u8 (c.toNat : Int)] = Lib.byteCells (l ++ [c]) := by simp [Lib.byteCells]
theorem cells_crlf (l : List UInt8) : Lib.byteCells l ++ [Value.int .u8 13, Value.int .u8 10] = Lib.byteCells (l ++ [13, 10]) := by simp [Lib.byteCells]
end Go.Proofs.Qxb6600527aDoor.buf
