/-
  The builder's maps as relations; the lists of readers, each a row of its own.
-/
import Derived.Test.Qxb6600552aDe
import Derived.Test.Qxb6600552aDc
set_option linter.unusedVariables false
set_option linter.unusedSimpArgs false
namespace Go.Proofs.Qxb6600552a.kt
open Go.ChangeShapes Go.WideShapes Go.RowKit Go.Maps

section
variable (w : World) {ops : Array Oper} {rest : List Oper} {o : Oper} {a : Act} {Q : Exit → Act → World → Prop}
theorem wpList_put_mv (hg : o.guard = none) (m x v : Operand) (t : TypeId) (hop : o.op = Op.mapUpdate t m x v)
    (k e : TypeId) (Kd : Keyed Try.prog k) (ht : Try.prog.underlying t = some (.map k e)) (b n : Nat) (R : Value → Value → Prop)
    (hm : a.eval m = .map (some b)) (hown : MV w k b n R) (hn : n < maxLen) (key val : Value) (hx : a.eval x = key) (hv : a.eval v = val) (hkey : ∃ l, keyOf Try.prog k key = some l)
    (hK : ∀ w', MV w' k b (n + 1) (putR R key val) → w.mapTurned w' b → wpList Try.prog ops Q rest (a.put o.dst undef) w') :
    wpList Try.prog ops Q (o :: rest) a w := by
  refine wpList_plain hg fun K' hK' => ?_
  obtain ⟨w', hrun, r1, r2⟩ := hown.store Kd ht hn hkey val
  unfold Oper.wp
  simp [execOp, hop, hm, hx, hv, hrun, Result.andThen]
  exact hK' _ _ (hK w' r1 r2)
theorem wpList_del_mv (hg : o.guard = none) (m x : Operand) (t k : TypeId) (hop : o.op = Op.call { callee := Callee.builtin Builtin.delete, args := #[m, x], argTypes := #[t, k] })
    (e : TypeId) (Kd : Keyed Try.prog k) (ht : Try.prog.underlying t = some (.map k e)) (b n : Nat) (R : Value → Value → Prop)
    (hm : a.eval m = .map (some b)) (hown : MV w k b n R) (key : Value) (hx : a.eval x = key) (hkey : ∃ l, keyOf Try.prog k key = some l)
    (hK : ∀ w', MV w' k b n (delR R key) → w.mapTurned w' b → wpList Try.prog ops Q rest (a.put o.dst (.tuple #[])) w') :
    wpList Try.prog ops Q (o :: rest) a w := by
  refine wpList_plain hg fun K' hK' => ?_
  obtain ⟨w', hrun, r1, r2⟩ := hown.del Kd ht hkey o.type
  unfold Oper.wp
  simp [execOp, hop, resolve, invoke, builtin, hm, hx, hrun, Result.andThen]
  exact hK' _ _ (hK w' r1 r2)
end

/-! ### what is in the maps -/
def ver (p : ByteArray × ByteArray) : Value := .agg #[.string p.1, .string p.2]
theorem ver_inj {p q : ByteArray × ByteArray} (h : ver p = ver q) : p = q := by
  unfold ver at h
  simp at h
  exact Prod.ext h.1 h.2
/-- the versions that are written -/
def wl (us : List U) : List (ByteArray × ByteArray) := us.flatMap fun u => u.writes.map fun k => (u.id, k)
/-- who reads from whom -/
def pl (us : List U) : List (ByteArray × ByteArray) := us.flatMap fun u => u.reads.map fun r => (r.2, u.id)
/-- the readers of c -/
def rd (ps : List (ByteArray × ByteArray)) (c : ByteArray) : List ByteArray := (ps.filter fun p => decide (p.1 = c)).map Prod.snd
def Rat (us : List U) (key v : Value) : Prop := ∃ i, ∃ h : i < us.length, key = .string (us[i]).id ∧ v = .int .i64 i
def Rwr (vs : List (ByteArray × ByteArray)) (key v : Value) : Prop := v = .bool true ∧ ∃ p, p ∈ vs ∧ key = ver p
def Rrd (L : ByteArray → List ByteArray) (blk cap : ByteArray → Nat) (key v : Value) : Prop := ∃ c, key = .string c ∧ L c ≠ [] ∧ v = .slice (some ⟨blk c, 0, none⟩) (L c).length (cap c)

theorem wl_snoc {us : List U} {k : Nat} (h : k < us.length) : wl (us.take (k + 1)) = wl (us.take k) ++ (us[k]).writes.map fun x => ((us[k]).id, x) := by
  unfold wl; rw [List.take_succ_eq_append_getElem h, List.flatMap_append]; simp
theorem pl_snoc {us : List U} {k : Nat} (h : k < us.length) : pl (us.take (k + 1)) = pl (us.take k) ++ (us[k]).reads.map fun r => (r.2, (us[k]).id) := by
  unfold pl; rw [List.take_succ_eq_append_getElem h, List.flatMap_append]; simp
theorem rd_append (a b : List (ByteArray × ByteArray)) (c : ByteArray) : rd (a ++ b) c = rd a c ++ rd b c := by unfold rd; rw [List.filter_append, List.map_append]
theorem rd_one (a b c : ByteArray) : rd [(a, b)] c = if a = c then [b] else [] := by
  unfold rd
  by_cases h : a = c <;> simp [h]
theorem Rat_put {us : List U} {k : Nat} (hd : Dist us us.length) (h : k < us.length) (key v : Value) : putR (Rat (us.take k)) (.string (us[k]).id) (.int .i64 k) key v ↔ Rat (us.take (k + 1)) key v := by
  constructor
  · rintro (⟨rfl, rfl⟩ | ⟨_, i, hi, rfl, rfl⟩)
    · exact ⟨k, by rw [List.length_take]; omega, by rw [List.getElem_take], rfl⟩
    · rw [List.length_take] at hi
      exact ⟨i, by rw [List.length_take]; omega, by rw [List.getElem_take, List.getElem_take], rfl⟩
  · rintro ⟨i, hi, rfl, rfl⟩
    rw [List.length_take] at hi
    rw [List.getElem_take]
    by_cases e : i = k
    · subst e; exact .inl ⟨rfl, rfl⟩
    · refine .inr ⟨fun q => ?_, i, by rw [List.length_take]; omega, by rw [List.getElem_take], rfl⟩
      simp only [Value.string.injEq] at q
      exact hd i k (by omega) h (by omega) h q
theorem Rwr_put {vs : List (ByteArray × ByteArray)} {p : ByteArray × ByteArray} (key v : Value) : putR (Rwr vs) (ver p) (.bool true) key v ↔ Rwr (vs ++ [p]) key v := by
  constructor
  · rintro (⟨rfl, rfl⟩ | ⟨_, rfl, q, hq, rfl⟩)
    · exact ⟨rfl, p, by simp, rfl⟩
    · exact ⟨rfl, q, by simp [hq], rfl⟩
  · rintro ⟨rfl, q, hq, rfl⟩
    rw [List.mem_append, List.mem_singleton] at hq
    by_cases e : ver q = ver p
    · exact .inl ⟨e, rfl⟩
    · rcases hq with hq | rfl
      · exact .inr ⟨e, rfl, q, hq, rfl⟩
      · exact absurd rfl e

/-- the lists of readers: a map, and a row of its own for each -/
structure RdSt (B : Nat) (w : World) (m N : Nat) (L : ByteArray → List ByteArray) (blk cap : ByteArray → Nat) : Prop where
  map : MV w 9 m N (Rrd L blk cap)
  row : ∀ c, L c ≠ [] → w.ownsRow B 9 1 (.slice (some ⟨blk c, 0, none⟩) (L c).length (cap c)) (L c).length ((L c).map Value.string)
  inj : ∀ c c', L c ≠ [] → L c' ≠ [] → blk c = blk c' → c = c'
  ne : ∀ c, L c ≠ [] → blk c ≠ m
/-- block g holds no list of readers -/
def Fre (L : ByteArray → List ByteArray) (blk : ByteArray → Nat) (g : Nat) : Prop := ∀ c, L c ≠ [] → blk c ≠ g
/-- the map and the rows -/
def RdS (m : Nat) (L : ByteArray → List ByteArray) (blk : ByteArray → Nat) (k : Nat) : Prop := k = m ∨ ∃ c, L c ≠ [] ∧ k = blk c
theorem RdSt.kp {B m N : Nat} {w w' : World} {L : ByteArray → List ByteArray} {blk cap : ByteArray → Nat} {S : Nat → Prop} (h : RdSt B w m N L blk cap) (hk : Kp S w w') (hs : ∀ k, RdS m L blk k → ¬ S k) : RdSt B w' m N L blk cap :=
  ⟨h.map.kp hk (hs m (.inl rfl)), fun c hc => ownsRow_kp (h.row c hc) hk (fun g hg => by cases hg; exact hs _ (.inr ⟨c, hc, rfl⟩)), h.inj, h.ne⟩
theorem RdSt.lt {B m N : Nat} {w : World} {L : ByteArray → List ByteArray} {blk cap : ByteArray → Nat} (h : RdSt B w m N L blk cap) {c : ByteArray} (hc : L c ≠ []) : blk c < w.heap.size := ((h.row c hc).lt _ rfl).2
theorem RdSt.ge {B m N : Nat} {w : World} {L : ByteArray → List ByteArray} {blk cap : ByteArray → Nat} (h : RdSt B w m N L blk cap) {c : ByteArray} (hc : L c ≠ []) : B ≤ blk c := own_base (h.row c hc) _ rfl
theorem rd_made {B m : Nat} {w : World} (h : MV w 9 m 0 (fun _ _ => False)) : RdSt B w m 0 (fun _ => []) (fun _ => 0) (fun _ => 0) :=
  ⟨h.congr fun k v => ⟨fun h => h.elim, fun ⟨c, _, hc, _⟩ => hc rfl⟩, fun c hc => absurd rfl hc, fun c _ hc => absurd rfl hc, fun c hc => absurd rfl hc⟩
/-- one list turned -/
def upd {α : Type} (f : ByteArray → α) (c : ByteArray) (x : α) (d : ByteArray) : α := if d = c then x else f d
theorem upd_same {α : Type} (f : ByteArray → α) (c : ByteArray) (x : α) : upd f c x c = x := by simp [upd]
theorem upd_other {α : Type} (f : ByteArray → α) {c d : ByteArray} (x : α) (h : d ≠ c) : upd f c x d = f d := by simp [upd, h]
/-- a list is laid (again): its slice stored at its key. 'w': behind the writing of the row; 'w'': behind the store into the map -/
theorem RdSt.put {B m N : Nat} {w0 w w' : World} {L : ByteArray → List ByteArray} {blk cap : ByteArray → Nat} {c : ByteArray} {l : List ByteArray} {g k : Nat}
    (h : RdSt B w0 m N L blk cap) (hl : l ≠ []) (hk : Kp (fun j => L c ≠ [] ∧ j = blk c) w0 w) (hrow : w.ownsRow B 9 1 (.slice (some ⟨g, 0, none⟩) l.length k) l.length (l.map Value.string))
    (hg : (L c ≠ [] ∧ g = blk c) ∨ w0.heap.size ≤ g) (ht : w.mapTurned w' m) (hm : MV w' 9 m (N + 1) (putR (Rrd L blk cap) (.string c) (.slice (some ⟨g, 0, none⟩) l.length k))) :
    RdSt B w' m (N + 1) (upd L c l) (upd blk c g) (upd cap c k) := by
  have hkm : Kp (fun j => j = m) w w' := (Kp.refl _ _).turned ht (.inr rfl)
  have hmlt : m < w0.heap.size := h.map.lt
  have hgm : g ≠ m := by
    rcases hg with ⟨h1, rfl⟩ | h1
    · exact h.ne c h1
    · omega
  have hother : ∀ d, d ≠ c → L d ≠ [] → blk d ≠ g := by
    intro d hd hL e
    rcases hg with ⟨h1, rfl⟩ | h1
    · exact hd (h.inj d c hL h1 e)
    · have := h.lt hL; omega
  refine ⟨hm.congr fun key v => ?_, fun d hd => ?_, fun d d' hd hd' e => ?_, fun d hd => ?_⟩
  · constructor
    · rintro (⟨rfl, rfl⟩ | ⟨hne, d, rfl, hL, rfl⟩)
      · exact ⟨c, rfl, by rw [upd_same]; exact hl, by rw [upd_same, upd_same, upd_same]⟩
      · have hd : d ≠ c := fun e => hne (by rw [e])
        exact ⟨d, rfl, by rw [upd_other _ _ hd]; exact hL, by rw [upd_other _ _ hd, upd_other _ _ hd, upd_other _ _ hd]⟩
    · rintro ⟨d, rfl, hL, rfl⟩
      by_cases e : d = c
      · subst e
        rw [upd_same, upd_same, upd_same]
        exact .inl ⟨rfl, rfl⟩
      · rw [upd_other _ _ e] at hL
        rw [upd_other _ _ e, upd_other _ _ e, upd_other _ _ e]
        exact .inr ⟨fun q => e (by simpa using q), d, rfl, hL, rfl⟩
  · by_cases e : d = c
    · subst e
      rw [upd_same, upd_same, upd_same]
      exact ownsRow_kp hrow hkm (fun j hj => by cases hj; exact hgm)
    · rw [upd_other _ _ e] at hd
      rw [upd_other _ _ e, upd_other _ _ e, upd_other _ _ e]
      refine ownsRow_kp (ownsRow_kp (h.row d hd) hk (fun j hj => ?_)) hkm (fun j hj => by cases hj; exact h.ne d hd)
      cases hj
      rintro ⟨h1, h2⟩
      exact e (h.inj d c hd h1 h2)
  · by_cases q : d = c
    · by_cases q' : d' = c
      · rw [q, q']
      · rw [upd_other _ _ q'] at hd' e
        subst q
        rw [upd_same] at e
        exact absurd e.symm (hother d' q' hd')
    · rw [upd_other _ _ q] at hd e
      by_cases q' : d' = c
      · subst q'
        rw [upd_same] at e
        exact absurd e (hother d q hd)
      · rw [upd_other _ _ q'] at hd' e
        exact h.inj d d' hd hd' e
  · by_cases q : d = c
    · subst q; rw [upd_same]; exact hgm
    · rw [upd_other _ _ q] at hd ⊢; exact h.ne d hd
/-- a list that has run empty is struck -/
theorem RdSt.del {B m N : Nat} {w0 w w' : World} {L : ByteArray → List ByteArray} {blk cap : ByteArray → Nat} {c : ByteArray}
    (h : RdSt B w0 m N L blk cap) (hk : Kp (fun j => L c ≠ [] ∧ j = blk c) w0 w) (ht : w.mapTurned w' m) (hm : MV w' 9 m N (delR (Rrd L blk cap) (.string c))) :
    RdSt B w' m N (upd L c []) blk cap := by
  have hkm : Kp (fun j => j = m) w w' := (Kp.refl _ _).turned ht (.inr rfl)
  have hu : ∀ d, upd L c [] d ≠ [] → d ≠ c ∧ L d ≠ [] := by
    intro d hd
    by_cases e : d = c
    · subst e; rw [upd_same] at hd; exact absurd rfl hd
    · rw [upd_other _ _ e] at hd; exact ⟨e, hd⟩
  refine ⟨hm.congr fun key v => ?_, fun d hd => ?_, fun d d' hd hd' e => h.inj d d' (hu d hd).2 (hu d' hd').2 e, fun d hd => h.ne d (hu d hd).2⟩
  · constructor
    · rintro ⟨hne, d, rfl, hL, rfl⟩
      have hd : d ≠ c := fun e => hne (by rw [e])
      exact ⟨d, rfl, by rw [upd_other _ _ hd]; exact hL, by rw [upd_other _ _ hd]⟩
    · rintro ⟨d, rfl, hL, rfl⟩
      obtain ⟨e, hL'⟩ := hu d hL
      rw [upd_other _ _ e]
      exact ⟨fun q => e (by simpa using q), d, rfl, hL', rfl⟩
  · obtain ⟨e, hL⟩ := hu d hd
    rw [upd_other _ _ e]
    refine ownsRow_kp (ownsRow_kp (h.row d hL) hk (fun j hj => ?_)) hkm (fun j hj => by cases hj; exact h.ne d hL)
    cases hj
    rintro ⟨h1, h2⟩
    exact e (h.inj d c hL h1 h2)
theorem RdSt.same {B m N : Nat} {w : World} {L L' : ByteArray → List ByteArray} {blk cap : ByteArray → Nat} (h : RdSt B w m N L blk cap) (he : ∀ c, L c = L' c) : RdSt B w m N L' blk cap := by
  have : L = L' := funext he
  rw [← this]; exact h
end Go.Proofs.Qxb6600552a.kt
