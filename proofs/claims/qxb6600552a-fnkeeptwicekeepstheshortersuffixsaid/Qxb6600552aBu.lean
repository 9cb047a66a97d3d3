/-
  'b1Build': its rounds, as steps.
-/
import Derived.Test.Qxb6600552aBt
set_option linter.unusedVariables false
set_option linter.unusedSimpArgs false
namespace Go.Proofs.Qxb6600552a.kt
open Go.ChangeShapes Go.WideShapes Go.RowKit Go.Maps

/-- the five blocks -/
structure Five (B bu bp m1 m2 m3 : Nat) : Prop where
  ge : B ≤ bu ∧ B ≤ bp ∧ B ≤ m1 ∧ B ≤ m2 ∧ B ≤ m3
  ne : bu ≠ bp ∧ bu ≠ m1 ∧ bu ≠ m2 ∧ bu ≠ m3 ∧ bp ≠ m1 ∧ bp ≠ m2 ∧ bp ≠ m3 ∧ m1 ≠ m2 ∧ m1 ≠ m3 ∧ m2 ≠ m3
def Im5 (bu bp m1 m2 m3 : Nat) (L : ByteArray → List ByteArray) (blk : ByteArray → Nat) (g : Nat) : Prop := g ≠ bu ∧ g ≠ bp ∧ g ≠ m1 ∧ g ≠ m2 ∧ g ≠ m3 ∧ Fre L blk g
structure BL (w W : World) (us : List U) (i : Nat) (vs ps : List (ByteArray × ByteArray)) (bu bp m1 m2 m3 : Nat) (xs : List UV) (blk cap : ByteArray → Nat) : Prop where
  five : Five w.heap.size bu bp m1 m2 m3
  new : New w W
  hxs : xs.map UV.u = us.take i
  hu : Part W w.heap.size 43 10 (.slice (some ⟨bu, 0, none⟩) us.length us.length) us.length (ucells xs)
  hp : Part W w.heap.size 9 1 (.slice (some ⟨bp, 0, none⟩) us.length us.length) us.length ((us.take i).map fun u => .string u.place)
  hx : ∀ x, x ∈ xs → UOk w.heap.size W (Im5 bu bp m1 m2 m3 (rd ps) blk) x
  mat : MV W 9 m1 i (Rat (us.take i))
  mwr : MV W 57 m2 vs.length (Rwr vs)
  mrd : RdSt w.heap.size W m3 ps.length (rd ps) blk cap
  fre : Fre (rd ps) blk bu ∧ Fre (rd ps) blk bp ∧ Fre (rd ps) blk m1 ∧ Fre (rd ps) blk m2
section
variable {w W W' : World} {us : List U} {i : Nat} {vs ps : List (ByteArray × ByteArray)} {bu bp m1 m2 m3 : Nat} {xs : List UV} {blk cap : ByteArray → Nat}
theorem UOk.imp' {B : Nat} {w0 w : World} {p q : Nat → Prop} {x : UV} (h : UOk B w p x) (hs : ∀ g, g < w0.heap.size → p g → q g) (h0 : UOk B w0 p x) : UOk B w q x :=
  ⟨h.1, h.2.1, fun g hg => hs g ((h0.1.lt g hg).2) (h.2.2.1 g hg), fun g hg => hs g ((h0.2.1.lt g hg).2) (h.2.2.2 g hg)⟩
theorem no_False {α : Type} {p : α → Prop} : ∀ g, p g → ¬ (fun _ : α => False) g := fun _ _ h => h
theorem BL.keep (h : BL w W us i vs ps bu bp m1 m2 m3 xs blk cap) (hn : New W W') : BL w W' us i vs ps bu bp m1 m2 m3 xs blk cap :=
  ⟨h.five, h.new.trans hn, h.hxs, h.hu.kp hn (fun _ _ h => h), h.hp.kp hn (fun _ _ h => h), fun x hx => (h.hx x hx).kp hn (fun _ _ h => h), h.mat.kp hn (fun h => h), h.mwr.kp hn (fun h => h), h.mrd.kp hn (fun _ _ h => h), h.fre⟩
theorem Part.lt {w : World} {B e size n g cap : Nat} {A : List Value} (h : Part w B e size (.slice (some ⟨g, 0, none⟩) n cap) n A) : g < w.heap.size := by
  obtain ⟨t, h⟩ := h
  exact (h.lt _ rfl).2
/-- a version is laid -/
theorem BL.write (h : BL w W us i vs ps bu bp m1 m2 m3 xs blk cap) {p : ByteArray × ByteArray} (ht : W.mapTurned W' m2) (hm : MV W' 57 m2 (vs.length + 1) (putR (Rwr vs) (ver p) (.bool true))) :
    BL w W' us i (vs ++ [p]) ps bu bp m1 m2 m3 xs blk cap := by
  have hk : Kp (fun j => j = m2) W W' := (Kp.refl _ _).turned ht (.inr rfl)
  obtain ⟨n1, n2, n3, n4, n5, n6, n7, n8, n9, n10⟩ := h.five.ne
  refine ⟨h.five, h.new.turned ht (.inl h.five.ge.2.2.2.1), h.hxs, h.hu.kp hk (fun g hg => by cases hg; exact n3), h.hp.kp hk (fun g hg => by cases hg; exact n6), fun x hx => (h.hx x hx).kp hk (fun g hg => hg.2.2.2.1), h.mat.kp hk n8, ?_, ?_, h.fre⟩
  · rw [List.length_append]; exact hm.congr Rwr_put
  · refine h.mrd.kp hk fun k hk' => ?_
    rcases hk' with rfl | ⟨c, hc, rfl⟩
    · exact n10.symm
    · exact h.fre.2.2.2 c hc
/-- a reader is laid -/
theorem BL.read (h : BL w W us i vs ps bu bp m1 m2 m3 xs blk cap) {c id : ByteArray} {Wa : World} {v v' : Value} (hv : (rd ps c ≠ [] ∧ v.ownBlock = some (blk c)) ∨ (rd ps c = [] ∧ v = .slice none 0 0))
    {Wb : World} (hn : New W Wb) (hg : Wb.grownBy Wa v.ownBlock) (hrow : Wa.ownsRow w.heap.size 9 1 v' ((rd ps c).length + 1) ((rd ps c).map Value.string ++ [.string id])) (hloc : v'.ownBlock = v.ownBlock ∨ v'.ownBlock = some Wb.heap.size)
    (ht : Wa.mapTurned W' m3) (hm : MV W' 9 m3 (ps.length + 1) (putR (Rrd (rd ps) blk cap) (.string c) v')) :
    ∃ blk' cap', BL w W' us i vs (ps ++ [(c, id)]) bu bp m1 m2 m3 xs blk' cap' := by
  obtain ⟨n1, n2, n3, n4, n5, n6, n7, n8, n9, n10⟩ := h.five.ne
  have hWb := hn.size
  obtain ⟨g, k, rfl⟩ : ∃ g k, v' = .slice (some ⟨g, 0, none⟩) ((rd ps c).length + 1) k := by
    rcases hrow.2 with ⟨_, h0⟩ | ⟨g, k, cur, e, _⟩
    · omega
    · exact ⟨g, k, e⟩
  have hgl : (rd ps c ≠ [] ∧ g = blk c) ∨ W.heap.size ≤ g := by
    rcases hloc with e | e
    · rcases hv with ⟨h1, h2⟩ | ⟨h1, rfl⟩
      · rw [h2] at e; cases e; exact .inl ⟨h1, rfl⟩
      · cases e
    · cases e; exact .inr hWb
  have hk1 : Kp (fun j => rd ps c ≠ [] ∧ j = blk c) W Wa := (hn.any _).grown hg fun j hj => by
    rcases hv with ⟨h1, h2⟩ | ⟨h1, rfl⟩
    · rw [h2] at hj; cases hj; exact .inr ⟨h1, rfl⟩
    · cases hj
  have hkS : Kp (fun j => (rd ps c ≠ [] ∧ j = blk c) ∨ j = m3) W W' := (hk1.mono fun _ _ h => .inl h).turned ht (.inr (.inr rfl))
  have hl : ∀ d, rd (ps ++ [(c, id)]) d = upd (rd ps) c (rd ps c ++ [id]) d := by
    intro d
    rw [rd_append, rd_one]
    by_cases e : d = c
    · subst e; rw [upd_same, if_pos rfl]
    · rw [upd_other _ _ e, if_neg (fun q => e q.symm), List.append_nil]
  have hpr := (h.mrd.put (c := c) (l := rd ps c ++ [id]) (g := g) (k := k) (by simp) hk1 (by rw [List.length_append, List.map_append]; exact hrow) hgl ht (by rw [List.length_append]; exact hm)).same fun d => (hl d).symm
  have hfre : ∀ j, j < W.heap.size → Fre (rd ps) blk j → Fre (rd (ps ++ [(c, id)])) (upd blk c g) j := by
    intro j hj hf d hd
    rw [hl] at hd
    by_cases e : d = c
    · subst e
      rw [upd_same]
      rcases hgl with ⟨h1, rfl⟩ | h1
      · exact hf d h1
      · omega
    · rw [upd_other _ _ e] at hd ⊢
      exact hf d hd
  have hSn : ∀ j, Fre (rd ps) blk j → j ≠ m3 → ¬ ((rd ps c ≠ [] ∧ j = blk c) ∨ j = m3) := by
    rintro j hf hj (⟨h1, rfl⟩ | rfl)
    · exact hf c h1 rfl
    · exact hj rfl
  obtain ⟨fu, fp, f1, f2⟩ := h.fre
  refine ⟨upd blk c g, upd cap c k, h.five, ?_, h.hxs, h.hu.kp hkS (fun j hj => by cases hj; exact hSn _ fu n4), h.hp.kp hkS (fun j hj => by cases hj; exact hSn _ fp n7), fun x hx => ?_, h.mat.kp hkS (hSn _ f1 n9), h.mwr.kp hkS (hSn _ f2 n10), ?_,
    hfre _ h.hu.lt fu, hfre _ h.hp.lt fp, hfre _ h.mat.lt f1, hfre _ h.mwr.lt f2⟩
  · exact ⟨hkS.os.trans h.new.os, hkS.tape.trans h.new.tape, hkS.output.trans h.new.output, Nat.le_trans h.new.size hkS.size, fun j hj _ => by
      rw [hkS.block j (Nat.lt_of_lt_of_le hj h.new.size) ?_]
      · exact h.new.block j hj (fun h => h)
      · rintro (⟨h1, rfl⟩ | rfl)
        · have := h.mrd.ge h1; omega
        · have := h.five.ge.2.2.2.2; omega⟩
  · exact ((h.hx x hx).kp hkS (fun j hj => hSn _ hj.2.2.2.2.2 hj.2.2.2.2.1)).imp' (fun j hj hp => ⟨hp.1, hp.2.1, hp.2.2.1, hp.2.2.2.1, hp.2.2.2.2.1, hfre j hj hp.2.2.2.2.2⟩) (h.hx x hx)
  · rw [List.length_append]; exact hpr
/-- a unit is laid: its struct (W1 → W2), its place (W2 → W3), its index (W3 → W') -/
theorem BL.unit (h : BL w W us i vs ps bu bp m1 m2 m3 xs blk cap) (hd : Dist us us.length) (hi : i < us.length) {W1 W2 : World} {x : UV} (hxu : x.u = us[i]) (h1 : New W W1)
    (hr : W1.ownsRow W.heap.size 65 2 x.rv x.u.reads.length (rcells x.u.reads)) (hw : W1.ownsRow W.heap.size 63 3 x.wv x.u.writes.length (wcells x.u.writes))
    (h2 : Kp (fun j => j = bu) W1 W2) (hp2 : Part W2 w.heap.size 43 10 (.slice (some ⟨bu, 0, none⟩) us.length us.length) us.length (ucells xs ++ ucell x))
    (ht : (W2.setCell ⟨bp, i, none⟩ (.string (us[i]).place)).mapTurned W' m1) (hm : MV W' 9 m1 (i + 1) (putR (Rat (us.take i)) (.string (us[i]).id) (.int .i64 i))) :
    BL w W' us (i + 1) vs ps bu bp m1 m2 m3 (xs ++ [x]) blk cap := by
  obtain ⟨n1, n2, n3, n4, n5, n6, n7, n8, n9, n10⟩ := h.five.ne
  obtain ⟨fu, fp, f1, f2⟩ := h.fre
  have k1 := h.keep h1
  have hk3 : Kp (fun j => j = bp) W2 (W2.setCell ⟨bp, i, none⟩ (.string (us[i]).place)) := Kp.setCell (S := fun j => j = bp) (Kp.refl _ _) (.inr rfl) _
  have hk4 : Kp (fun j => j = m1) (W2.setCell ⟨bp, i, none⟩ (.string (us[i]).place)) W' := (Kp.refl _ _).turned ht (.inr rfl)
  have hall : Kp (fun j => j = bu ∨ j = bp ∨ j = m1) W1 W' := ((h2.mono fun _ _ e => .inl e).trans (hk3.mono fun _ _ e => .inr (.inl e))).trans (hk4.mono fun _ _ e => .inr (.inr e))
  have hWl := h.new.size
  have hSn : ∀ j, Im5 bu bp m1 m2 m3 (rd ps) blk j → ¬ (j = bu ∨ j = bp ∨ j = m1) := by
    rintro j hj (rfl | rfl | rfl)
    · exact hj.1 rfl
    · exact hj.2.1 rfl
    · exact hj.2.2.1 rfl
  have hp3 := ((k1.hp.kp h2 (fun g hg => by cases hg; exact n1.symm)))
  refine ⟨h.five, ?_, ?_, ?_, ?_, fun y hy => ?_, hm.congr (Rat_put hd hi), k1.mwr.kp hall (by rintro (e | e | e) <;> omega), k1.mrd.kp hall ?_, h.fre⟩
  · refine ⟨hall.os.trans k1.new.os, hall.tape.trans k1.new.tape, hall.output.trans k1.new.output, Nat.le_trans k1.new.size hall.size, fun j hj _ => ?_⟩
    rw [hall.block j (Nat.lt_of_lt_of_le hj k1.new.size) ?_]
    · exact k1.new.block j hj id
    · obtain ⟨g1, g2, g3, _⟩ := h.five.ge
      rintro (e | e | e) <;> omega
  · rw [List.map_append, h.hxs, List.take_succ_eq_append_getElem hi, ← hxu]
    rfl
  · rw [ucells_snoc]
    exact (hp2.kp hk3 (fun g hg => by cases hg; exact n1)).kp hk4 (fun g hg => by cases hg; exact n2)
  · have hlen : ((us.take i).map fun u => Value.string u.place).length = i := by rw [List.length_map, List.length_take]; omega
    have p1 := hp3.putN (k := i) (vs := [.string (us[i]).place]) (by rw [hlen, Nat.mul_one]) hi rfl
    rw [Nat.mul_one] at p1
    rw [List.take_succ_eq_append_getElem hi, List.map_append]
    exact p1.kp hk4 (fun g hg => by cases hg; exact n5)
  · rw [List.mem_append, List.mem_singleton] at hy
    rcases hy with hy | rfl
    · exact (k1.hx y hy).kp hall hSn
    · have hI : ∀ g, W.heap.size ≤ g → Im5 bu bp m1 m2 m3 (rd ps) blk g := by
        intro g hg
        have a1 := h.hu.lt
        have a2 := h.hp.lt
        have a3 := h.mat.lt
        have a4 := h.mwr.lt
        have a5 := h.mrd.map.lt
        exact ⟨by omega, by omega, by omega, by omega, by omega, fun c hc => by have := h.mrd.lt hc; omega⟩
      have u1 : UOk w.heap.size W1 (Im5 bu bp m1 m2 m3 (rd ps) blk) y :=
        ⟨own_mono hr hWl, own_mono hw hWl, fun g hg => hI g (own_base hr g hg), fun g hg => hI g (own_base hw g hg)⟩
      exact u1.kp hall hSn
  · rintro j (rfl | ⟨c, hc, rfl⟩)
    · rintro (e | e | e) <;> omega
    · rintro (e | e | e)
      · exact fu c hc e
      · exact fp c hc e
      · exact f1 c hc e
/-- at the end: the builder -/
theorem BL.done {N : Nat} (h : BL w W us us.length (wl us) (pl us) bu bp m1 m2 m3 xs blk cap) (h1 : us.length ≤ N) (h2 : (wl us).length ≤ N) (h3 : (pl us).length ≤ N) :
    BS w.heap.size N (W.alloc (.cells #[.slice (some ⟨bu, 0, none⟩) us.length us.length, .slice (some ⟨bp, 0, none⟩) us.length us.length, .map (some m1), .map (some m2), .map (some m3)] 61)) W.heap.size us := by
  have hN : New W (W.alloc (.cells #[.slice (some ⟨bu, 0, none⟩) us.length us.length, .slice (some ⟨bp, 0, none⟩) us.length us.length, .map (some m1), .map (some m2), .map (some m3)] 61)) := (Kp.refl _ _).alloc _
  have k := h.keep hN
  obtain ⟨n1, n2, n3, n4, n5, n6, n7, n8, n9, n10⟩ := h.five.ne
  obtain ⟨fu, fp, f1, f2⟩ := h.fre
  have a1 := h.hu.lt
  have a2 := h.hp.lt
  have a3 := h.mat.lt
  have a4 := h.mwr.lt
  have a5 := h.mrd.map.lt
  have hxs : xs.map UV.u = us := by rw [h.hxs, List.take_length]
  have hxl : xs.length = us.length := by rw [← hxs, List.length_map]
  have hfb : Fre (rd (pl us)) blk W.heap.size := fun c hc => by have := h.mrd.lt hc; omega
  have kat := k.mat
  rw [List.take_length] at kat
  have khp := k.hp
  rw [List.take_length] at khp
  refine ⟨_, _, m1, m2, m3, xs, blk, cap, heap_alloc_new _ _, hxs, k.hu.full (by rw [ucells_len, hxl]), khp.full (by rw [List.length_map, Nat.mul_one]), fun x hx => ?_, fun g hg => ?_, fun g hg => ?_, kat.mono h1, k.mwr.mono h2, ⟨k.mrd.map.mono h3, k.mrd.row, k.mrd.inj, k.mrd.ne⟩, ⟨h.new.size, h.five.ge.2.2.1, h.five.ge.2.2.2.1, h.five.ge.2.2.2.2⟩,
    ⟨by omega, by omega, by omega, n8, n9, n10⟩, hfb, f1, f2⟩
  · exact (k.hx x hx).imp' (w0 := W) (fun g hg hp => ⟨by omega, hp.2.2.1, hp.2.2.2.1, hp.2.2.2.2.1, hp.2.2.2.2.2⟩) (h.hx x hx)
  · cases hg; exact ⟨Nat.ne_of_lt a1, n2, n3, n4, fu⟩
  · cases hg; exact ⟨Nat.ne_of_lt a2, n5, n6, n7, fp⟩
end
end Go.Proofs.Qxb6600552a.kt
