/-
  Structs stored into rows that the call owns, and loaded from them; the builder's state.
-/
import Derived.Test.Qxb6600552aBs
import Derived.Test.Qxb6600552aDb
set_option linter.unusedVariables false
set_option linter.unusedSimpArgs false
namespace Go.Proofs.Qxb6600552a.kt
open Go.ChangeShapes Go.WideShapes Go.RowKit Go.Maps

def setCells (w : World) (g : Nat) : Nat → List Value → World
  | _, [] => w
  | p, v :: vs => setCells (w.setCell ⟨g, p, none⟩ v) g (p + 1) vs
theorem setCells_kp : ∀ (vs : List Value) (p : Nat) (w : World) (g : Nat), Kp (fun k => k = g) w (setCells w g p vs)
  | [], p, w, g => Kp.refl _ _
  | v :: vs, p, w, g => (Kp.setCell (S := fun k => k = g) (Kp.refl _ w) (p := ⟨g, p, none⟩) (.inr rfl) v).trans (setCells_kp vs (p + 1) _ g)
theorem own_cells {w : World} {B e size n g cap : Nat} : ∀ (vs : List Value) (p : Nat) (w : World) (xs : List Value), w.ownsRow B e size (.slice (some ⟨g, 0, none⟩) n cap) n xs → p + vs.length ≤ n * size →
    (setCells w g p vs).ownsRow B e size (.slice (some ⟨g, 0, none⟩) n cap) n (xs.take p ++ vs ++ xs.drop (p + vs.length))
  | [], p, w, xs, h, _ => by
    rw [List.append_nil, List.length_nil, Nat.add_zero, List.take_append_drop]
    exact h
  | v :: vs, p, w, xs, h, hp => by
    rw [List.length_cons] at hp
    have h1 := (h.stored p v).1
    have h2 := own_cells (w := w) (B := B) (e := e) (size := size) (n := n) (g := g) (cap := cap) vs (p + 1) _ _ h1 (by omega)
    have hl := h.1
    have e1 : (xs.set p v).take (p + 1) = xs.take p ++ [v] := by
      have hlt : p < (xs.set p v).length := by rw [List.length_set]; omega
      rw [List.take_succ_eq_append_getElem hlt, List.take_set_of_le (Nat.le_refl _)]
      simp
    have e2 : (xs.set p v).drop (p + 1 + vs.length) = xs.drop (p + (v :: vs).length) := by
      rw [List.drop_set_of_lt (by omega), List.length_cons]
      congr 1
      omega
    rw [e1, e2] at h2
    show (setCells (w.setCell ⟨g, p, none⟩ v) g (p + 1) vs).ownsRow B e size _ n _
    rw [show xs.take p ++ v :: vs = xs.take p ++ [v] ++ vs by simp]
    exact h2
theorem run_storeCells_own {B e size n g cap : Nat} (off : Nat) : ∀ (vs : List Value) (i : Nat) (w : World) (xs : List Value), w.ownsRow B e size (.slice (some ⟨g, 0, none⟩) n cap) n xs → off + i + vs.length ≤ n * size → (∀ v ∈ vs, v.oneCell' = true) →
    (storeCells ⟨g, off, none⟩ vs i).run Try.prog w = .ok () (setCells w g (off + i) vs)
  | [], i, w, xs, h, _, _ => rfl
  | v :: vs, i, w, xs, h, hl, h1 => by
    rw [List.length_cons] at hl
    have hadd : (⟨g, off, none⟩ : Addr).add i = ⟨g, off + i, none⟩ := by unfold Addr.add; split <;> simp_all
    have hlt : off + i < xs.length := by rw [h.1]; omega
    have hcell : w.cell? ⟨g, off + i, none⟩ = some xs[off + i] := by rw [h.cellAt _ (by omega), List.getElem?_eq_getElem hlt]
    have hfro : w.frozen? ⟨g, off + i, none⟩ = false := h.frozenAt _
    have hst : (store ((⟨g, off, none⟩ : Addr).add i) v).run Try.prog w = .ok () (w.setCell ⟨g, off + i, none⟩ v) := by
      rw [hadd, run_store Try.prog w _ v _ (h1 v (by simp)), hcell]
      simp [hfro]
    have ih := run_storeCells_own (B := B) (e := e) (size := size) (n := n) (g := g) (cap := cap) off vs (i + 1) (w.setCell ⟨g, off + i, none⟩ v) _ (h.stored (off + i) v).1 (by omega) (fun x hx => h1 x (by simp [hx]))
    simp only [storeCells, Sem.run_bind, hst, Result.andThen_ok, ih]
    rfl
theorem Part.putN {w : World} {B e size n g cap k : Nat} {A vs : List Value} (h : Part w B e size (.slice (some ⟨g, 0, none⟩) n cap) n A) (hl : A.length = k * size) (hk : k < n) (hv : vs.length = size) :
    Part (setCells w g (k * size) vs) B e size (.slice (some ⟨g, 0, none⟩) n cap) n (A ++ vs) := by
  obtain ⟨t, h⟩ := h
  have hb : k * size + size ≤ n * size := by
    have : (k + 1) * size ≤ n * size := Nat.mul_le_mul_right _ hk
    rw [Nat.succ_mul] at this
    exact this
  have h2 := own_cells (w := w) vs (k * size) w _ h (by omega)
  rw [List.take_left' hl] at h2
  exact ⟨_, h2⟩

section
variable (w : World) {ops : Array Oper} {rest : List Oper} {o : Oper} {a : Act} {Q : Exit → Act → World → Prop}
/-- a struct is stored as the k-th of a row that is being laid -/
theorem wpList_store_part (hgd : o.guard = none) (ty : TypeId) (x y : Operand) (ho : o.op = .store ty x y) (B e size n g cap k : Nat) (A : List Value) (cells : Array Value)
    (hx : a.eval x = .pointer (some ⟨g, k * size, none⟩)) (hy : a.eval y = .agg cells) (hi : (Try.prog.info? ty).map (·.size) = some size) (hc : cells.size = size) (h1 : cells.all (·.oneCell') = true)
    (hp : Part w B e size (.slice (some ⟨g, 0, none⟩) n cap) n A) (hl : A.length = k * size) (hk : k < n)
    (h : ∀ w', Part w' B e size (.slice (some ⟨g, 0, none⟩) n cap) n (A ++ cells.toList) → Kp (fun j => j = g) w w' → wpList Try.prog ops Q rest (a.put o.dst undef) w') : wpList Try.prog ops Q (o :: rest) a w := by
  refine wpList_plain hgd fun _ hK => ?_
  have hb : k * size + size ≤ n * size := by
    have : (k + 1) * size ≤ n * size := Nat.mul_le_mul_right _ hk
    rw [Nat.succ_mul] at this
    exact this
  obtain ⟨t, hown⟩ := hp
  have hrun := run_storeCells_own (k * size) cells.toList 0 w _ hown (by simp [hc]; omega) (fun v hv => (Array.all_eq_true_iff_forall_mem.1 h1) v (by simpa using hv))
  rw [Nat.add_zero] at hrun
  have hsv : (storeVar ty ⟨g, k * size, none⟩ (.agg cells)).run Try.prog w = .ok () (setCells w g (k * size) cells.toList) := by
    cases hq : Try.prog.info? ty with
    | none => simp [hq] at hi
    | some i =>
      have hs : cells.size = i.size := by simp [hq] at hi; omega
      simp [storeVar, sizeOf, typeInfo, hq, Value.cells, hs, hrun]
  unfold Oper.wp execOp
  simp only [ho, hx, hy, Instr.storeAt, Instr.sureAddr, Sem.run_bind, Sem.run_pure, Result.andThen_ok, hsv]
  exact hK _ _ (h _ (Part.putN ⟨t, hown⟩ hl hk (by simp [hc])) (setCells_kp _ _ _ _))
/-- a struct is loaded -/
theorem wpList_load_cells (hgd : o.guard = none) (ty : TypeId) (x : Operand) (ho : o.op = .load ty x) (ad : Addr) (hx : a.eval x = .pointer (some ad)) (cs : List Value) (d : TypeDesc)
    (hu : Try.prog.underlying ty = some d) (hd : (match d with | .struct _ | .array _ _ => true | _ => false) = true) (hi : (Try.prog.info? ty).map (·.size) = some cs.length)
    (hcell : ∀ j v, cs[j]? = some v → w.cell? (ad.add j) = some v)
    (h : wpList Try.prog ops Q rest (a.put o.dst (.agg cs.toArray)) w) : wpList Try.prog ops Q (o :: rest) a w := by
  refine wpList_plain hgd fun _ hK => ?_
  have hl : (loadCells ad cs.length).run Try.prog w = .ok cs.toArray w := run_loadCells_list w ad cs hcell
  have hlv : (loadVar ty ad).run Try.prog w = .ok (.agg cs.toArray) w := by
    cases hq : Try.prog.info? ty with
    | none => simp [hq] at hi
    | some i =>
      have hs : i.size = cs.length := by simpa [hq] using hi
      have hagg : (isAgg ty).run Try.prog w = .ok true w := by
        unfold isAgg
        rw [Sem.run_bind, run_underlying hu w]
        cases d <;> simp_all
      simp [loadVar, Sem.run_bind, hagg, sizeOf, typeInfo, hq, hs, hl]
  unfold Oper.wp execOp
  simp only [ho, hx, Instr.loadAt, Instr.sureAddr, Sem.run_bind, Sem.run_pure, Result.andThen_ok, hlv]
  exact hK _ _ h
end

/-- a unit as it lies in memory that the call owns -/
structure UV where
  u : U
  rv : Value
  wv : Value
def ucell (x : UV) : List Value := [.string x.u.id, e0, e0, e0, e0, .pointer none, .pointer none, .pointer none, x.rv, x.wv]
def ucells (xs : List UV) : List Value := xs.flatMap ucell
theorem ucells_len (xs : List UV) : (ucells xs).length = xs.length * 10 := by
  induction xs with
  | nil => rfl
  | cons r l ih => rw [show ucells (r :: l) = ucell r ++ ucells l from rfl, List.length_append, ih, List.length_cons]; show 10 + _ = _; omega
theorem ucells_get (xs : List UV) (k j : Nat) (hk : k < xs.length) (hj : j < 10) : (ucells xs)[k * 10 + j]? = (ucell xs[k])[j]? := by
  induction xs generalizing k with
  | nil => simp at hk
  | cons r l ih =>
    rw [show ucells (r :: l) = ucell r ++ ucells l from rfl]
    have h10 : (ucell r).length = 10 := rfl
    cases k with
    | zero => rw [Nat.zero_mul, Nat.zero_add, List.getElem?_append_left (by omega)]; rfl
    | succ k =>
      rw [List.getElem?_append_right (by omega), h10, show (k + 1) * 10 + j - 10 = k * 10 + j by omega, ih k (by simpa using hk)]
      rfl
theorem ucells_snoc (xs : List UV) (x : UV) : ucells (xs ++ [x]) = ucells xs ++ ucell x := by unfold ucells; rw [List.flatMap_append]; simp
def UOk (B : Nat) (w : World) (p : Nat → Prop) (x : UV) : Prop :=
  w.ownsRow B 65 2 x.rv x.u.reads.length (rcells x.u.reads) ∧ w.ownsRow B 63 3 x.wv x.u.writes.length (wcells x.u.writes) ∧ (∀ g, x.rv.ownBlock = some g → p g) ∧ (∀ g, x.wv.ownBlock = some g → p g)
theorem UOk.kp {B : Nat} {w w' : World} {p S : Nat → Prop} {x : UV} (h : UOk B w p x) (hk : Kp S w w') (hs : ∀ g, p g → ¬ S g) : UOk B w' p x :=
  ⟨ownsRow_kp h.1 hk fun g hg => hs g (h.2.2.1 g hg), ownsRow_kp h.2.1 hk fun g hg => hs g (h.2.2.2 g hg), h.2.2⟩
theorem UOk.imp {B : Nat} {w : World} {p q : Nat → Prop} {x : UV} (h : UOk B w p x) (hs : ∀ g, g < w.heap.size → p g → q g) : UOk B w q x :=
  ⟨h.1, h.2.1, fun g hg => hs g ((h.1.lt g hg).2) (h.2.2.1 g hg), fun g hg => hs g ((h.2.1.lt g hg).2) (h.2.2.2 g hg)⟩
/-- block g is none of those that the builder writes -/
def Imm (bb m1 m2 m3 : Nat) (L : ByteArray → List ByteArray) (blk : ByteArray → Nat) (g : Nat) : Prop := g ≠ bb ∧ g ≠ m1 ∧ g ≠ m2 ∧ g ≠ m3 ∧ Fre L blk g
/-- the builder at block bb holds the units us -/
structure BSt (B N : Nat) (w : World) (bb : Nat) (us : List U) (uv pv : Value) (m1 m2 m3 : Nat) (xs : List UV) (blk cap : ByteArray → Nat) : Prop where
  cells : w.heap[bb]? = some (.cells #[uv, pv, .map (some m1), .map (some m2), .map (some m3)] 61 (0, 0))
  hxs : xs.map UV.u = us
  hu : w.ownsRow B 43 10 uv us.length (ucells xs)
  hp : w.ownsRow B 9 1 pv us.length (us.map fun u => .string u.place)
  hx : ∀ x, x ∈ xs → UOk B w (Imm bb m1 m2 m3 (rd (pl us)) blk) x
  iu : ∀ g, uv.ownBlock = some g → Imm bb m1 m2 m3 (rd (pl us)) blk g
  ip : ∀ g, pv.ownBlock = some g → Imm bb m1 m2 m3 (rd (pl us)) blk g
  mat : MV w 9 m1 N (Rat us)
  mwr : MV w 57 m2 N (Rwr (wl us))
  mrd : RdSt B w m3 N (rd (pl us)) blk cap
  ge : B ≤ bb ∧ B ≤ m1 ∧ B ≤ m2 ∧ B ≤ m3
  ne : bb ≠ m1 ∧ bb ≠ m2 ∧ bb ≠ m3 ∧ m1 ≠ m2 ∧ m1 ≠ m3 ∧ m2 ≠ m3
  fre : Fre (rd (pl us)) blk bb ∧ Fre (rd (pl us)) blk m1 ∧ Fre (rd (pl us)) blk m2
def BS (B N : Nat) (w : World) (bb : Nat) (us : List U) : Prop := ∃ uv pv m1 m2 m3 xs blk cap, BSt B N w bb us uv pv m1 m2 m3 xs blk cap
/-- what is known of the units -/
structure Ok (us : List U) : Prop where
  len : us.length ≤ 65536
  cost : cost us ≤ 1048576
  dist : Dist us us.length
  sz : ∀ u, u ∈ us → Sz u
end Go.Proofs.Qxb6600552a.kt
