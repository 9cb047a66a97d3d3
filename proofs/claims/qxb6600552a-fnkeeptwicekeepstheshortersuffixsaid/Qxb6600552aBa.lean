/-
  Maps that the call makes, by the relation 'this key has this element'; what a walk leaves as it was.
-/
import Derived.Test.Qxb6600552aRows
import Derived.WalkKit
import Derived.WalkSpells
import Derived.WalkLawsBesides
import Derived.Maps.OwnSet
import Derived.Maps.Ext
import Derived.Maps.OwnOps
import Derived.Maps.AppendAt
import Derived.DeepKeys4
import Derived.OpenShut
import Derived.Lib.Hide
namespace Go.Proofs.Qxb6600552a.kt
open Go.ChangeShapes Go.WideShapes Go.RowKit Go.Maps Go.WideMaps
open Go.WideElems (Fit rg rd_key rg_of)

theorem laidOut : laidOutB Try.prog = true := by kernel_rfl
theorem kS : Keyed Try.prog 9 := string_keyed Try.underlying9
theorem row57 : 57 < Try.prog.types.size := of_decide_eq_true (by kernel_rfl)
theorem wide57 : (match Try.prog.underlying 57 with | some (.array _ _) | some (.struct _) => true | _ => false) = true := by kernel_rfl
theorem kV : Keyed Try.prog 57 := Keyed.of_law (deep_law_laid laidOut (m := 2) (by omega) row57 (by kernel_rfl) wide57)
theorem key_ver {a b : ByteArray} (ha : a.size ≤ maxLen) (hb : b.size ≤ maxLen) : ∃ l, keyOf Try.prog 57 (.agg #[.string a, .string b]) = some l := by
  have hu := Try.underlying57
  have hu9 := Try.underlying9
  have e : ∃ m, Try.prog.types.size + 1 = m + 3 := ⟨Try.prog.types.size - 2, by have := row57; omega⟩
  obtain ⟨m, hm⟩ := e
  have hkt : Try.prog.keyType 57 = true := by kernel_rfl
  have hc9 : Try.prog.cellsOf 9 = 1 := by kernel_rfl
  have hc57 : Try.prog.cellsOf 57 = 2 := by kernel_rfl
  simp only [keyOf, hu, hkt, hm]
  simp [Value.formed, hu, hu9, Value.cells, Program.keyLits, hc9, hc57, ha, hb]
theorem key_str {a : ByteArray} (ha : a.size ≤ maxLen) : keyOf Try.prog 9 (.string a) = some (.string a.data.toList) := keyOf_string_mk Try.underlying9 ha

/-! ### what stays -/
/-- Of the blocks that were there none has turned but those of S; the streams are as they were; no block has gone. -/
structure Kp (S : Nat → Prop) (w w' : World) : Prop where
  os : w'.os = w.os
  tape : w'.tape = w.tape
  output : w'.output = w.output
  size : w.heap.size ≤ w'.heap.size
  block : ∀ k, k < w.heap.size → ¬ S k → w'.heap[k]? = w.heap[k]?
theorem Kp.refl (S : Nat → Prop) (w : World) : Kp S w w := ⟨rfl, rfl, rfl, Nat.le_refl _, fun _ _ _ => rfl⟩
theorem Kp.trans {S : Nat → Prop} {a b c : World} (h : Kp S a b) (k : Kp S b c) : Kp S a c :=
  ⟨k.os.trans h.os, k.tape.trans h.tape, k.output.trans h.output, Nat.le_trans h.size k.size, fun i hi hs => (k.block i (Nat.lt_of_lt_of_le hi h.size) hs).trans (h.block i hi hs)⟩
theorem Kp.mono {S T : Nat → Prop} {w w' : World} (h : Kp S w w') (hs : ∀ k, k < w.heap.size → S k → T k) : Kp T w w' :=
  ⟨h.os, h.tape, h.output, h.size, fun k hk ht => h.block k hk fun s => ht (hs k hk s)⟩
theorem Kp.drewN {S : Nat → Prop} {a w : World} (h : Kp S a w) (n : Nat) : Kp S a (w.drewN n) := ⟨h.os, h.tape, h.output, h.size, h.block⟩
theorem Kp.drew {S : Nat → Prop} {a w : World} (h : Kp S a w) : Kp S a w.drew := ⟨h.os, h.tape, h.output, h.size, h.block⟩
theorem Kp.undrew {S : Nat → Prop} {a w : World} (h : Kp S a.drew w) : Kp S a w := ⟨h.os, h.tape, h.output, h.size, h.block⟩
theorem Kp.alloc {S : Nat → Prop} {a w : World} (h : Kp S a w) (o : Obj) : Kp S a (w.alloc o) :=
  h.trans ⟨rfl, rfl, rfl, by simp, fun k hk _ => Below.heap_alloc _ _ _ hk⟩
theorem Kp.setCell {S : Nat → Prop} {a w : World} (h : Kp S a w) {p : Addr} (hp : a.heap.size ≤ p.block ∨ S p.block) (u : Value) : Kp S a (w.setCell p u) :=
  ⟨h.os, h.tape, h.output, by simpa [World.setCell] using h.size, fun k hk hs => by
    rw [Below.heap_setCell _ _ _ _ (by rintro rfl; rcases hp with hp | hp; omega; exact hs hp)]
    exact h.block k hk hs⟩
theorem Kp.grown {S : Nat → Prop} {a w w' : World} {row : Option Nat} (h : Kp S a w) (hg : w.grownBy w' row) (hr : ∀ k, row = some k → a.heap.size ≤ k ∨ S k) : Kp S a w' :=
  ⟨hg.os.trans h.os, hg.tape.trans h.tape, hg.output.trans h.output, Nat.le_trans h.size hg.size, fun k hk hs =>
    (hg.block k (Nat.lt_of_lt_of_le hk h.size) fun e => by rcases hr k e.symm with q | q; omega; exact hs q).trans (h.block k hk hs)⟩
theorem Kp.turned {S : Nat → Prop} {a w w' : World} {b : Nat} (h : Kp S a w) (hg : w.mapTurned w' b) (hr : a.heap.size ≤ b ∨ S b) : Kp S a w' :=
  h.grown hg.grown fun k e => by cases e; exact hr
theorem Kp.below {S : Nat → Prop} {w w' : World} {B : Nat} (h : Kp S w w') (hB : B ≤ w.heap.size) (hs : ∀ k, S k → B ≤ k) : Below B w w' :=
  ⟨h.os, h.tape, h.output, h.size, fun k hk => h.block k (by omega) fun s => by have := hs k s; omega⟩
theorem Kp.of_below {S : Nat → Prop} {w w' : World} {B : Nat} (h : Below B w w') (hs : ∀ k, k < w.heap.size → B ≤ k → S k) : Kp S w w' :=
  ⟨h.os, h.tape, h.output, h.size, fun k hk hn => h.block k (by rcases Nat.lt_or_ge k B with q | q; exact q; exact absurd (hs k hk q) hn)⟩
/-- nothing that was there has turned -/
abbrev New (w w' : World) : Prop := Kp (fun _ => False) w w'
theorem New.below {w w' : World} (h : New w w') : Below w.heap.size w w' := Kp.below h (Nat.le_refl _) fun _ h => h.elim
theorem New.any {w w' : World} (h : New w w') (S : Nat → Prop) : Kp S w w' := h.mono fun _ _ h => h.elim
theorem Kp.cell {S : Nat → Prop} {w w' : World} (h : Kp S w w') {p : Addr} (hp : p.block < w.heap.size) (hs : ¬ S p.block) : w'.cell? p = w.cell? p := World.cell?_of_block (w := w) (h.block p.block hp hs)
theorem Kp.frozen {S : Nat → Prop} {w w' : World} (h : Kp S w w') {p : Addr} (hp : p.block < w.heap.size) (hs : ¬ S p.block) : w'.frozen? p = w.frozen? p := World.frozen?_of_block (w := w) (h.block p.block hp hs)
theorem ownsRow_kp {w w' : World} {S : Nat → Prop} {base : Nat} {e : TypeId} {size n : Nat} {v : Value} {xs : List Value} (h : w.ownsRow base e size v n xs) (hb : Kp S w w') (hv : ∀ g, v.ownBlock = some g → ¬ S g) : w'.ownsRow base e size v n xs := by
  obtain ⟨h1, h2⟩ := h
  refine ⟨h1, ?_⟩
  rcases h2 with h2 | ⟨g, cap, cur, e1, e2, e3, e4⟩
  · exact .inl h2
  · have hlt : g < w.heap.size := (Array.getElem?_eq_some_iff.1 e3).1
    exact .inr ⟨g, cap, cur, e1, e2, by rw [hb.block g hlt (hv g (by rw [e1]; rfl))]; exact e3, e4⟩

/-! ### maps -/
def raw (v : Value) : Option (DataW Value × List MemPlace) := some (.held v, [])
/-- block b is a map of at most n entries; R: which key has which element -/
def MV (w : World) (K : TypeId) (b n : Nat) (R : Value → Value → Prop) : Prop :=
  ∃ D : DataW Value, w.ownsMap Try.prog K raw b n D ∧ ∀ k l, keyOf Try.prog K k = some l → ((∃ v, R k v) ↔ has D l = true) ∧ ∀ v, R k v → ∀ z, D.atKey l z = .held v
def putR (R : Value → Value → Prop) (k v : Value) (k' v' : Value) : Prop := (k' = k ∧ v' = v) ∨ (k' ≠ k ∧ R k' v')
def delR (R : Value → Value → Prop) (k : Value) (k' v' : Value) : Prop := k' ≠ k ∧ R k' v'
theorem MV.congr {w : World} {K : TypeId} {b n : Nat} {R R' : Value → Value → Prop} (h : MV w K b n R) (he : ∀ k v, R k v ↔ R' k v) : MV w K b n R' := by
  have : R = R' := by funext k v; exact propext (he k v)
  rw [← this]; exact h
theorem MV.mono {w : World} {K : TypeId} {b n m : Nat} {R : Value → Value → Prop} (h : MV w K b n R) (hm : n ≤ m) : MV w K b m R := by
  obtain ⟨D, h1, h2⟩ := h
  exact ⟨D, h1.mono hm, h2⟩
theorem MV.lt {w : World} {K : TypeId} {b n : Nat} {R : Value → Value → Prop} (h : MV w K b n R) : b < w.heap.size := by
  obtain ⟨D, h1, h2⟩ := h
  exact h1.lt
theorem MV.kp {w w' : World} {S : Nat → Prop} {K : TypeId} {b n : Nat} {R : Value → Value → Prop} (h : MV w K b n R) (hk : Kp S w w') (hb : ¬ S b) : MV w' K b n R := by
  obtain ⟨D, ⟨es, clock, e1, e2⟩, h2⟩ := h
  exact ⟨D, ⟨es, clock, by rw [hk.block b (Array.getElem?_eq_some_iff.1 e1).1 hb]; exact e1, e2⟩, h2⟩
theorem mv_made (w : World) (K : TypeId) : MV (w.alloc (.map #[] 0)) K w.heap.size 0 (fun _ _ => False) :=
  ⟨.map [], World.ownsMap_made w _ _ _, fun k l _ => ⟨⟨fun ⟨_, h⟩ => h.elim, fun h => by simp [has] at h⟩, fun _ h => h.elim⟩⟩
theorem MV.look {w : World} {K T E : TypeId} {b n : Nat} {R : Value → Value → Prop} (h : MV w K b n R) (Kd : Keyed Try.prog K) (ht : Try.prog.underlying T = some (.map K E)) {z : Value} (hz : (zeroValue E).run Try.prog w = .ok z w) {key : Value} (hk : ∃ l, keyOf Try.prog K key = some l) :
    (∃ v, R key v ∧ (Instr.lookup T (.map (some b)) key false).run Try.prog w = .ok v w ∧ (Instr.lookup T (.map (some b)) key true).run Try.prog w = .ok (.tuple #[v, .bool true]) w) ∨
    ((∀ v, ¬ R key v) ∧ (Instr.lookup T (.map (some b)) key false).run Try.prog w = .ok z w ∧ (Instr.lookup T (.map (some b)) key true).run Try.prog w = .ok (.tuple #[z, .bool false]) w) := by
  obtain ⟨D, h1, h2⟩ := h
  obtain ⟨l, hl⟩ := hk
  obtain ⟨g1, g2⟩ := h2 key l hl
  obtain ⟨v, ps, r1, a1⟩ := h1.lookup Kd ht hz (show raw z = some (.held z, []) from rfl) hl
  obtain ⟨u, qs, r2, a2⟩ := h1.look_ok Kd ht hz (show raw z = some (.held z, []) from rfl) hl
  have e1 : DataW.held v = D.atKey l (.held z) := by simp only [raw, Option.some.injEq, Prod.mk.injEq] at a1; exact a1.1
  have e2 : DataW.held u = D.atKey l (.held z) := by simp only [raw, Option.some.injEq, Prod.mk.injEq] at a2; exact a2.1
  cases hh : has D l with
  | true =>
    obtain ⟨x, hx⟩ := g1.2 hh
    rw [g2 x hx] at e1 e2
    cases e1
    cases e2
    rw [hh] at r2
    exact .inl ⟨v, hx, r1, r2⟩
  | false =>
    rw [atKey_of_not_has hh] at e1 e2
    cases e1
    cases e2
    rw [hh] at r2
    refine .inr ⟨fun v hv => ?_, r1, r2⟩
    rw [g1.1 ⟨v, hv⟩] at hh
    cases hh
theorem key_ne {K : TypeId} (Kd : Keyed Try.prog K) {a b : Value} {la lb : Lit} (ha : keyOf Try.prog K a = some la) (hb : keyOf Try.prog K b = some lb) (h : a ≠ b) : la ≠ lb := by
  rintro rfl
  exact h (Kd.inj ha hb)
theorem MV.store {w : World} {K T E : TypeId} {b n : Nat} {R : Value → Value → Prop} (h : MV w K b n R) (Kd : Keyed Try.prog K) (ht : Try.prog.underlying T = some (.map K E)) (hn : n < maxLen) {key : Value} (hk : ∃ l, keyOf Try.prog K key = some l) (val : Value) :
    ∃ w', (Instr.mapUpdate T (.map (some b)) key val).run Try.prog w = .ok () w' ∧ MV w' K b (n + 1) (putR R key val) ∧ w.mapTurned w' b := by
  obtain ⟨D, h1, h2⟩ := h
  obtain ⟨l, hl⟩ := hk
  obtain ⟨w', r, o, t⟩ := h1.store Kd ht hn hl (show raw val = some (.held val, []) from rfl)
  refine ⟨w', r, ⟨_, o, fun k lk hlk => ?_⟩, t⟩
  by_cases e : k = key
  · subst e
    have el : lk = l := by rw [hl] at hlk; exact (Option.some.inj hlk).symm
    subst el
    refine ⟨⟨fun _ => has_put_same h1.isMap (Kd.key hl) _, fun _ => ⟨val, .inl ⟨rfl, rfl⟩⟩⟩, fun v hv z => ?_⟩
    rcases hv with ⟨_, rfl⟩ | ⟨hne, _⟩
    · exact atKey_put_same h1.isMap (Kd.key hl) _ _
    · exact absurd rfl hne
  · have hne := key_ne Kd hlk hl e
    obtain ⟨g1, g2⟩ := h2 k lk hlk
    rw [has_put_other hne, ← g1]
    refine ⟨⟨fun ⟨v, hv⟩ => ?_, fun ⟨v, hv⟩ => ⟨v, .inr ⟨e, hv⟩⟩⟩, fun v hv z => ?_⟩
    · rcases hv with ⟨q, _⟩ | ⟨_, q⟩
      · exact absurd q e
      · exact ⟨v, q⟩
    · rw [atKey_put_other hne]
      rcases hv with ⟨q, _⟩ | ⟨_, q⟩
      · exact absurd q e
      · exact g2 v q z
theorem MV.del {w : World} {K T E : TypeId} {b n : Nat} {R : Value → Value → Prop} (h : MV w K b n R) (Kd : Keyed Try.prog K) (ht : Try.prog.underlying T = some (.map K E)) {key : Value} (hk : ∃ l, keyOf Try.prog K key = some l) (ty : TypeId) :
    ∃ w', (Builtin.delete_ #[T, K] ty #[.map (some b), key]).run Try.prog w = .ok (.tuple #[]) w' ∧ MV w' K b n (delR R key) ∧ w.mapTurned w' b := by
  obtain ⟨D, h1, h2⟩ := h
  obtain ⟨l, hl⟩ := hk
  obtain ⟨w', r, o, t⟩ := h1.drop Kd ht hl ty
  refine ⟨w', r, ⟨_, o, fun k lk hlk => ?_⟩, t⟩
  by_cases e : k = key
  · subst e
    have el : lk = l := by rw [hl] at hlk; exact (Option.some.inj hlk).symm
    subst el
    rw [has_del_same]
    exact ⟨⟨fun ⟨v, hv⟩ => absurd rfl hv.1, fun h => by cases h⟩, fun v hv => absurd rfl hv.1⟩
  · have hne := key_ne Kd hlk hl e
    obtain ⟨g1, g2⟩ := h2 k lk hlk
    rw [has_del_other hne, ← g1]
    exact ⟨⟨fun ⟨v, hv⟩ => ⟨v, hv.2⟩, fun ⟨v, hv⟩ => ⟨v, e, hv⟩⟩, fun v hv z => by rw [atKey_del_other hne]; exact g2 v hv.2 z⟩

/-- how many entries -/
theorem size_of_has {D₁ D₂ : DataW Value} (c₁ : Canon D₁) (c₂ : Canon D₂) (hh : ∀ k, has D₁ k = has D₂ k) : Maps.size D₁ = Maps.size D₂ := by
  obtain ⟨es, rfl, p1, q1⟩ := c₁
  obtain ⟨fs, rfl, p2, q2⟩ := c₂
  have key : ∀ (es fs : List (Lit × DataW Value)), (∀ k, has (.map es) k = has (.map fs) k) → (∀ p ∈ es, WideAt.IsKeyLit p.1) → ∀ p : Lit × DataW Value, p ∈ es.map (fun x => (x.1, (DataW.nil : DataW Value))) → p ∈ fs.map (fun x => (x.1, (DataW.nil : DataW Value))) := by
    intro es fs h q p hp
    obtain ⟨x, hx, rfl⟩ := List.mem_map.1 hp
    have h1 : has (.map es) x.1 = true := by
      rw [has_eq, List.any_eq_true]
      refine ⟨x, hx, ?_⟩
      have hk := q x hx
      generalize x.1 = l at hk
      cases l <;> simp_all [WideAt.IsKeyLit, Lit.sameKey]
    rw [h, has_eq, List.any_eq_true] at h1
    obtain ⟨y, hy, e⟩ := h1
    have e2 := WideAt.sameKey_eq e
    exact List.mem_map.2 ⟨y, hy, by rw [e2]⟩
  have hr : ∀ {es : List (Lit × DataW Value)}, es.Pairwise (fun p q => p.1.before q.1 = true) → (es.map (fun x => (x.1, (DataW.nil : DataW Value)))).Pairwise (fun p q => p.1.before q.1 = true) := by
    intro es h
    rw [List.pairwise_map]
    exact h
  have e := eq_of_mem_rising (hr p1) (hr p2) fun p => ⟨key es fs hh q1 p, key fs es (fun k => (hh k).symm) q2 p⟩
  have e2 := congrArg List.length e
  rw [List.length_map, List.length_map] at e2
  exact e2
theorem has_key {w : World} {K : TypeId} {b n : Nat} {D : DataW Value} (h : w.ownsMap Try.prog K raw b n D) {l : Lit} (hl : has D l = true) : ∃ k, keyOf Try.prog K k = some l := by
  obtain ⟨es, clock, _, F, _, rfl⟩ := h
  rw [has_eq, List.any_eq_true] at hl
  obtain ⟨p, hp, e⟩ := hl
  have e2 := WideAt.sameKey_eq e
  obtain ⟨x, hx, rfl⟩ := List.mem_map.1 (mem_sorted.1 hp)
  obtain ⟨y, hy⟩ := F.reads x hx
  rw [rg_of hy] at e2
  exact ⟨x.key, by rw [← e2]; exact rd_key hy⟩
theorem MV.len {w : World} {K T E : TypeId} {b n : Nat} {R : Value → Value → Prop} (h : MV w K b n R) (ht : Try.prog.underlying T = some (.map K E)) : ∃ m : Nat, m ≤ n ∧ ∀ ty, (Builtin.len_ #[T] ty #[.map (some b)]).run Try.prog w = .ok (.int .i64 m) w := by
  obtain ⟨D, h1, h2⟩ := h
  exact ⟨_, h1.size_le, fun ty => h1.len ht ty⟩
/-- two maps with the same keys are of one length -/
theorem len_two {w : World} {K T E : TypeId} {b n b' n' : Nat} {R R' : Value → Value → Prop} (Kd : Keyed Try.prog K) (h : MV w K b n R) (h' : MV w K b' n' R') (ht : Try.prog.underlying T = some (.map K E)) (he : ∀ k, (∃ v, R k v) ↔ ∃ v, R' k v) :
    ∃ m : Nat, m ≤ n ∧ ∀ ty, (Builtin.len_ #[T] ty #[.map (some b)]).run Try.prog w = .ok (.int .i64 m) w ∧ (Builtin.len_ #[T] ty #[.map (some b')]).run Try.prog w = .ok (.int .i64 m) w := by
  obtain ⟨D, h1, h2⟩ := h
  obtain ⟨D', h1', h2'⟩ := h'
  have e : Maps.size D = Maps.size D' := by
    refine size_of_has (h1.canon Kd) (h1'.canon Kd) fun l => ?_
    rw [Bool.eq_iff_iff]
    constructor
    · intro hh
      obtain ⟨k, hk⟩ := has_key h1 hh
      exact (h2' k l hk).1.1 ((he k).1 ((h2 k l hk).1.2 hh))
    · intro hh
      obtain ⟨k, hk⟩ := has_key h1' hh
      exact (h2 k l hk).1.1 ((he k).2 ((h2' k l hk).1.2 hh))
  exact ⟨_, h1.size_le, fun ty => ⟨h1.len ht ty, by rw [e]; exact h1'.len ht ty⟩⟩
end Go.Proofs.Qxb6600552a.kt
