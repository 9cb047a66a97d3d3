/-
  'Keep': the builder in the midst of its work.
-/
import Derived.Test.Qxb6600552aKc
import Derived.Test.Qxb6600552aKb
set_option linter.unusedVariables false
set_option linter.unusedSimpArgs false
namespace Go.Proofs.Qxb6600552a.kt
open Go.ChangeShapes Go.WideShapes Go.RowKit Go.Maps

def Im2 (bb m1 m2 m3 Bk : Nat) (L : ByteArray → List ByteArray) (blk : ByteArray → Nat) (g : Nat) : Prop := Imm bb m1 m2 m3 L blk g ∧ g < Bk
structure KS (B Bk : Nat) (W : World) (bb : Nat) (us : List U) (uv pv : Value) (m1 m2 m3 : Nat) (xs : List UV) (blk cap : ByteArray → Nat) (L : ByteArray → List ByteArray) (Ra Rw : Value → Value → Prop) (n1 n2 n3 : Nat) : Prop where
  cells : W.heap[bb]? = some (.cells #[uv, pv, .map (some m1), .map (some m2), .map (some m3)] 61 (0, 0))
  hxs : xs.map UV.u = us
  hu : W.ownsRow B 43 10 uv us.length (ucells xs)
  hp : W.ownsRow B 9 1 pv us.length (us.map fun u => .string u.place)
  hx : ∀ x, x ∈ xs → UOk B W (Im2 bb m1 m2 m3 Bk L blk) x
  iu : ∀ g, uv.ownBlock = some g → Im2 bb m1 m2 m3 Bk L blk g
  ip : ∀ g, pv.ownBlock = some g → Im2 bb m1 m2 m3 Bk L blk g
  mat : MV W 9 m1 n1 Ra
  mwr : MV W 57 m2 n2 Rw
  mrd : RdSt B W m3 n3 L blk cap
  ge : B ≤ bb ∧ B ≤ m1 ∧ B ≤ m2 ∧ B ≤ m3
  ne : bb ≠ m1 ∧ bb ≠ m2 ∧ bb ≠ m3 ∧ m1 ≠ m2 ∧ m1 ≠ m3 ∧ m2 ≠ m3
  fre : Fre L blk bb ∧ Fre L blk m1 ∧ Fre L blk m2
  lt : bb < Bk ∧ m1 < Bk ∧ m2 < Bk ∧ m3 < Bk ∧ ∀ c, L c ≠ [] → blk c < Bk
section
variable {B Bk N bb m1 m2 m3 n1 n2 n3 : Nat} {w W W' : World} {us : List U} {uv pv : Value} {xs : List UV} {blk cap : ByteArray → Nat} {L : ByteArray → List ByteArray} {Ra Rw : Value → Value → Prop}
theorem BSt.ks (h : BSt B N w bb us uv pv m1 m2 m3 xs blk cap) : KS B w.heap.size w bb us uv pv m1 m2 m3 xs blk cap (rd (pl us)) (Rat us) (Rwr (wl us)) N N N :=
  ⟨h.cells, h.hxs, h.hu, h.hp, fun x hx => (h.hx x hx).imp fun g hg hp => ⟨hp, hg⟩, fun g hg => ⟨h.iu g hg, (h.hu.lt g hg).2⟩, fun g hg => ⟨h.ip g hg, (h.hp.lt g hg).2⟩, h.mat, h.mwr, h.mrd, h.ge, h.ne, h.fre,
    (Array.getElem?_eq_some_iff.1 h.cells).1, h.mat.lt, h.mwr.lt, h.mrd.map.lt, fun c hc => h.mrd.lt hc⟩
theorem KS.gen (h : KS B Bk W bb us uv pv m1 m2 m3 xs blk cap L Ra Rw n1 n2 n3) {S : Nat → Prop} (hk : Kp S W W') (hb : ¬ S bb) (hi : ∀ g, Im2 bb m1 m2 m3 Bk L blk g → ¬ S g) {Ra' Rw' : Value → Value → Prop} {n1' n2' n3' : Nat} {L' : ByteArray → List ByteArray}
    (h1 : MV W' 9 m1 n1' Ra') (h2 : MV W' 57 m2 n2' Rw') (h3 : RdSt B W' m3 n3' L' blk cap) (hL : ∀ c, L' c ≠ [] → L c ≠ []) : KS B Bk W' bb us uv pv m1 m2 m3 xs blk cap L' Ra' Rw' n1' n2' n3' := by
  have hf : ∀ g, Fre L blk g → Fre L' blk g := fun g hg c hc => hg c (hL c hc)
  have him : ∀ g, Im2 bb m1 m2 m3 Bk L blk g → Im2 bb m1 m2 m3 Bk L' blk g := fun g ⟨⟨a, b, c, d, e⟩, f⟩ => ⟨⟨a, b, c, d, hf g e⟩, f⟩
  refine ⟨?_, h.hxs, ownsRow_kp h.hu hk fun g hg => hi g (h.iu g hg), ownsRow_kp h.hp hk fun g hg => hi g (h.ip g hg), fun x hx => ((h.hx x hx).kp hk hi).imp fun g _ hg => him g hg, fun g hg => him g (h.iu g hg), fun g hg => him g (h.ip g hg), h1, h2, h3, h.ge, h.ne,
    ⟨hf _ h.fre.1, hf _ h.fre.2.1, hf _ h.fre.2.2⟩, h.lt.1, h.lt.2.1, h.lt.2.2.1, h.lt.2.2.2.1, fun c hc => h.lt.2.2.2.2 c (hL c hc)⟩
  rw [hk.block bb (Array.getElem?_eq_some_iff.1 h.cells).1 hb]
  exact h.cells
theorem KS.keep (h : KS B Bk W bb us uv pv m1 m2 m3 xs blk cap L Ra Rw n1 n2 n3) (hk : Kp (fun k => Bk ≤ k) W W') : KS B Bk W' bb us uv pv m1 m2 m3 xs blk cap L Ra Rw n1 n2 n3 := by
  obtain ⟨l0, l1, l2, l3, l4⟩ := h.lt
  refine h.gen hk (by omega) (fun g hg hge => by have := hg.2; omega) (h.mat.kp hk (by omega)) (h.mwr.kp hk (by omega)) (h.mrd.kp hk ?_) (fun c hc => hc)
  rintro k (rfl | ⟨c, hc, rfl⟩)
  · omega
  · have := l4 c hc; omega
theorem KS.at (h : KS B Bk W bb us uv pv m1 m2 m3 xs blk cap L Ra Rw n1 n2 n3) {Ra' : Value → Value → Prop} {n1' : Nat} (ht : W.mapTurned W' m1) (hm : MV W' 9 m1 n1' Ra') : KS B Bk W' bb us uv pv m1 m2 m3 xs blk cap L Ra' Rw n1' n2 n3 := by
  have hk : Kp (fun k => k = m1) W W' := (Kp.refl _ _).turned ht (.inr rfl)
  obtain ⟨e1, e2, e3, e4, e5, e6⟩ := h.ne
  refine h.gen hk e1 (fun g hg e => hg.1.2.1 e) hm (h.mwr.kp hk (fun e => e4 e.symm)) (h.mrd.kp hk ?_) (fun c hc => hc)
  rintro k (rfl | ⟨c, hc, rfl⟩)
  · exact fun e => e5 e.symm
  · exact h.fre.2.1 c hc
theorem KS.wr (h : KS B Bk W bb us uv pv m1 m2 m3 xs blk cap L Ra Rw n1 n2 n3) {Rw' : Value → Value → Prop} {n2' : Nat} (ht : W.mapTurned W' m2) (hm : MV W' 57 m2 n2' Rw') : KS B Bk W' bb us uv pv m1 m2 m3 xs blk cap L Ra Rw' n1 n2' n3 := by
  have hk : Kp (fun k => k = m2) W W' := (Kp.refl _ _).turned ht (.inr rfl)
  obtain ⟨e1, e2, e3, e4, e5, e6⟩ := h.ne
  refine h.gen hk e2 (fun g hg e => hg.1.2.2.1 e) (h.mat.kp hk e4) hm (h.mrd.kp hk ?_) (fun c hc => hc)
  rintro k (rfl | ⟨c, hc, rfl⟩)
  · exact fun e => e6 e.symm
  · exact h.fre.2.2 c hc
theorem KS.rd (h : KS B Bk W bb us uv pv m1 m2 m3 xs blk cap L Ra Rw n1 n2 n3) {L' : ByteArray → List ByteArray} {n3' : Nat} {c : ByteArray} (hk : Kp (fun j => (L c ≠ [] ∧ j = blk c) ∨ j = m3) W W') (hr : RdSt B W' m3 n3' L' blk cap) (hL : ∀ c, L' c ≠ [] → L c ≠ []) :
    KS B Bk W' bb us uv pv m1 m2 m3 xs blk cap L' Ra Rw n1 n2 n3' := by
  obtain ⟨e1, e2, e3, e4, e5, e6⟩ := h.ne
  obtain ⟨f0, f1, f2⟩ := h.fre
  have key : ∀ g, Fre L blk g → g ≠ m3 → ¬ ((L c ≠ [] ∧ g = blk c) ∨ g = m3) := by
    rintro g hf hg (⟨h1, h2⟩ | h1)
    · exact hf c h1 h2.symm
    · exact hg h1
  exact h.gen hk (key _ f0 e3) (fun g hg => key _ hg.1.2.2.2.2 hg.1.2.2.2.1) (h.mat.kp hk (key _ f1 e5)) (h.mwr.kp hk (key _ f2 e6)) hr hL
theorem KS.same (h : KS B Bk W bb us uv pv m1 m2 m3 xs blk cap L Ra Rw n1 n2 n3) {Ra' Rw' : Value → Value → Prop} {L' : ByteArray → List ByteArray} (h1 : ∀ k v, Ra k v ↔ Ra' k v) (h2 : ∀ k v, Rw k v ↔ Rw' k v) (h3 : ∀ c, L c = L' c) : KS B Bk W bb us uv pv m1 m2 m3 xs blk cap L' Ra' Rw' n1 n2 n3 := by
  have a : Ra = Ra' := by funext k v; exact propext (h1 k v)
  have b : Rw = Rw' := by funext k v; exact propext (h2 k v)
  have c : L = L' := funext h3
  rw [← a, ← b, ← c]
  exact h
/-- the builder's own cells -/
theorem KS.cell (h : KS B Bk W bb us uv pv m1 m2 m3 xs blk cap L Ra Rw n1 n2 n3) : W.cell? ⟨bb, 0, none⟩ = some uv ∧ W.cell? ⟨bb, 1, none⟩ = some pv ∧ W.cell? ⟨bb, 2, none⟩ = some (.map (some m1)) ∧ W.cell? ⟨bb, 3, none⟩ = some (.map (some m2)) ∧ W.cell? ⟨bb, 4, none⟩ = some (.map (some m3)) :=
  ⟨cell_of_row _ _ _ _ _ _ h.cells, cell_of_row _ _ _ _ _ _ h.cells, cell_of_row _ _ _ _ _ _ h.cells, cell_of_row _ _ _ _ _ _ h.cells, cell_of_row _ _ _ _ _ _ h.cells⟩
theorem own_shape {w : World} {B n e sz : Nat} {v : Value} {xs : List Value} (h : w.ownsRow B e sz v n xs) : ∃ ad cap, v = .slice ad n cap := by
  rcases h.2 with ⟨rfl, h0⟩ | ⟨g, cap, cur, rfl, _⟩
  · rw [h0]; exact ⟨none, 0, rfl⟩
  · exact ⟨_, cap, rfl⟩
theorem own_some {w : World} {B n e sz : Nat} {v : Value} {xs : List Value} (h : w.ownsRow B e sz v n xs) (hn : 0 < n) : ∃ g cap, v = .slice (some ⟨g, 0, none⟩) n cap ∧ n ≤ cap := by
  rcases h.2 with ⟨rfl, h0⟩ | ⟨g, cap, cur, rfl, _, _, h4, _⟩
  · omega
  · exact ⟨g, cap, rfl, h4⟩
/-- the k-th unit: its ten cells, its rows -/
theorem KS.unit (h : KS B Bk W bb us uv pv m1 m2 m3 xs blk cap L Ra Rw n1 n2 n3) {gu ucap : Nat} (hv : uv = .slice (some ⟨gu, 0, none⟩) us.length ucap) {k : Nat} (hk : k < us.length) :
    ∃ ra rc wa wk, W.ownsRow B 65 2 (.slice ra (us[k]).reads.length rc) (us[k]).reads.length (rcells (us[k]).reads) ∧ W.ownsRow B 63 3 (.slice wa (us[k]).writes.length wk) (us[k]).writes.length (wcells (us[k]).writes) ∧
      (∀ j v, [.string (us[k]).id, e0, e0, e0, e0, .pointer none, .pointer none, .pointer none, .slice ra (us[k]).reads.length rc, .slice wa (us[k]).writes.length wk][j]? = some v → W.cell? ((⟨gu, k * 10, none⟩ : Addr).add j) = some v) ∧
      (∀ g, (Value.slice ra (us[k]).reads.length rc).ownBlock = some g → Im2 bb m1 m2 m3 Bk L blk g) ∧ (∀ g, (Value.slice wa (us[k]).writes.length wk).ownBlock = some g → Im2 bb m1 m2 m3 Bk L blk g) := by
  have hxl : xs.length = us.length := by rw [← h.hxs, List.length_map]
  have hkx : k < xs.length := by omega
  have hu : (xs[k]).u = us[k] := by
    have e : (xs.map UV.u)[k]? = us[k]? := by rw [h.hxs]
    rw [List.getElem?_map, List.getElem?_eq_getElem hkx, List.getElem?_eq_getElem hk] at e
    simpa using e
  obtain ⟨o1, o2, q1, q2⟩ := h.hx _ (List.getElem_mem hkx)
  rw [hu] at o1 o2
  obtain ⟨ra, rc, e1⟩ := own_shape o1
  obtain ⟨wa, wk, e2⟩ := own_shape o2
  refine ⟨ra, rc, wa, wk, by rw [← e1]; exact o1, by rw [← e2]; exact o2, fun j v hj => ?_, by rw [← e1]; exact q1, by rw [← e2]; exact q2⟩
  have hj10 : j < 10 := (List.getElem?_eq_some_iff.1 hj).1
  have hadd : (⟨gu, k * 10, none⟩ : Addr).add j = ⟨gu, k * 10 + j, none⟩ := by unfold Addr.add; split <;> simp_all
  have hh := h.hu
  rw [hv] at hh
  rw [hadd, hh.cellAt _ (by omega), ucells_get xs k j hkx hj10]
  unfold ucell
  rw [hu, e1, e2]
  exact hj
theorem rcells_get (rs : List (ByteArray × ByteArray)) (k : Nat) (hk : k < rs.length) : (rcells rs)[k * 2]? = some (.string (rs[k]).1) ∧ (rcells rs)[k * 2 + 1]? = some (.string (rs[k]).2) := by
  induction rs generalizing k with
  | nil => simp at hk
  | cons r l ih =>
    rw [show rcells (r :: l) = rcell r ++ rcells l from rfl]
    have h2 : (rcell r).length = 2 := rfl
    cases k with
    | zero => exact ⟨rfl, rfl⟩
    | succ k =>
      rw [List.getElem?_append_right (by omega), List.getElem?_append_right (by omega), h2, show (k + 1) * 2 - 2 = k * 2 by omega, show (k + 1) * 2 + 1 - 2 = k * 2 + 1 by omega]
      exact ih k (by simpa using hk)
theorem wcells_get (rs : List ByteArray) (k : Nat) (hk : k < rs.length) : (wcells rs)[k * 3]? = some (.string rs[k]) ∧ (wcells rs)[k * 3 + 1]? = some (.pointer none) ∧ (wcells rs)[k * 3 + 2]? = some (.pointer none) := by
  induction rs generalizing k with
  | nil => simp at hk
  | cons r l ih =>
    rw [show wcells (r :: l) = wcell r ++ wcells l from rfl]
    have h2 : (wcell r).length = 3 := rfl
    cases k with
    | zero => exact ⟨rfl, rfl, rfl⟩
    | succ k =>
      rw [List.getElem?_append_right (by omega), List.getElem?_append_right (by omega), List.getElem?_append_right (by omega), h2, show (k + 1) * 3 - 3 = k * 3 by omega, show (k + 1) * 3 + 1 - 3 = k * 3 + 1 by omega, show (k + 1) * 3 + 2 - 3 = k * 3 + 2 by omega]
      exact ih k (by simpa using hk)
theorem own_read {w : World} {B : Nat} {a : Option Addr} {c : Nat} {rs : List (ByteArray × ByteArray)} (h : w.ownsRow B 65 2 (.slice a rs.length c) rs.length (rcells rs)) {k : Nat} (hk : k < rs.length) :
    ∃ g, a = some ⟨g, 0, none⟩ ∧ g < w.heap.size ∧ w.cell? ⟨g, k * 2, none⟩ = some (.string (rs[k]).1) ∧ w.cell? ⟨g, k * 2 + 1, none⟩ = some (.string (rs[k]).2) := by
  obtain ⟨g, cap, e, _⟩ := own_some h (by omega)
  cases e
  obtain ⟨r1, r2⟩ := rcells_get rs k hk
  exact ⟨g, rfl, (h.lt _ rfl).2, by rw [h.cellAt _ (by omega)]; exact r1, by rw [h.cellAt _ (by omega)]; exact r2⟩
theorem own_write {w : World} {B : Nat} {a : Option Addr} {c : Nat} {rs : List ByteArray} (h : w.ownsRow B 63 3 (.slice a rs.length c) rs.length (wcells rs)) {k : Nat} (hk : k < rs.length) :
    ∃ g, a = some ⟨g, 0, none⟩ ∧ g < w.heap.size ∧ w.cell? ⟨g, k * 3, none⟩ = some (.string rs[k]) ∧ w.cell? ⟨g, k * 3 + 1, none⟩ = some (.pointer none) ∧ w.cell? ⟨g, k * 3 + 2, none⟩ = some (.pointer none) := by
  obtain ⟨g, cap, e, _⟩ := own_some h (by omega)
  cases e
  obtain ⟨r1, r2, r3⟩ := wcells_get rs k hk
  exact ⟨g, rfl, (h.lt _ rfl).2, by rw [h.cellAt _ (by omega)]; exact r1, by rw [h.cellAt _ (by omega)]; exact r2, by rw [h.cellAt _ (by omega)]; exact r3⟩
end
end Go.Proofs.Qxb6600552a.kt
