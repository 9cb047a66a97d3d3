/-
  'b1ToUnit': the walk.
-/
import Derived.Test.Qxb6600552aDa
import Derived.Deep.CutBlock
import Derived.Deep.DeepCutAuto
import Derived.Deep.RegionWith
namespace Go.Proofs.Qxb6600552a.kt
open Go.ChangeShapes Go.WideShapes Go.RowKit Go.Maps

abbrev e0 : Value := .string { data := #[] }
def rcell (r : ByteArray × ByteArray) : List Value := [.string r.1, .string r.2]
def wcell (k : ByteArray) : List Value := [.string k, .pointer none, .pointer none]
def rcells (rs : List (ByteArray × ByteArray)) : List Value := rs.flatMap rcell
def wcells (ks : List ByteArray) : List Value := ks.flatMap wcell
theorem rcells_len (rs : List (ByteArray × ByteArray)) : (rcells rs).length = rs.length * 2 := by
  induction rs with
  | nil => rfl
  | cons r l ih => rw [show rcells (r :: l) = rcell r ++ rcells l from rfl, List.length_append, ih, List.length_cons]; show 2 + _ = _; omega
theorem wcells_len (ks : List ByteArray) : (wcells ks).length = ks.length * 3 := by
  induction ks with
  | nil => rfl
  | cons r l ih => rw [show wcells (r :: l) = wcell r ++ wcells l from rfl, List.length_append, ih, List.length_cons]; show 3 + _ = _; omega
theorem rcells_snoc {rs : List (ByteArray × ByteArray)} {k : Nat} (h : k < rs.length) : rcells (rs.take (k + 1)) = rcells (rs.take k) ++ [.string (rs[k]).1, .string (rs[k]).2] := by
  unfold rcells; rw [List.take_succ_eq_append_getElem h, List.flatMap_append]; simp [rcell]
theorem wcells_snoc {ks : List ByteArray} {k : Nat} (h : k < ks.length) : wcells (ks.take (k + 1)) = wcells (ks.take k) ++ [.string ks[k], .pointer none, .pointer none] := by
  unfold wcells; rw [List.take_succ_eq_append_getElem h, List.flatMap_append]; simp [wcell]
theorem set2 {A t : List Value} {n : Nat} (hl : A.length = n) (ht : 2 ≤ t.length) (a b : Value) : ((A ++ t).set n a).set (n + 1) b = (A ++ [a, b]) ++ t.drop 2 := by
  subst hl
  match t, ht with
  | x :: y :: t, _ => simp
theorem set3 {A t : List Value} {n : Nat} (hl : A.length = n) (ht : 3 ≤ t.length) (a b c : Value) : (((A ++ t).set n a).set (n + 1) b).set (n + 2) c = (A ++ [a, b, c]) ++ t.drop 3 := by
  subst hl
  match t, ht with
  | x :: y :: z :: t, _ => simp

theorem info65 : (Try.prog.info? 65).map (fun i => (i.zero, i.size, i.bytes)) = some (some (.agg #[.string ByteArray.empty, .string ByteArray.empty]), 2, 32) := by kernel_rfl
theorem info63 : (Try.prog.info? 63).map (fun i => (i.zero, i.size, i.bytes)) = some (some (.agg #[.string ByteArray.empty, .pointer none, .pointer none]), 3, 32) := by kernel_rfl
theorem Kp.setRow {S : Nat → Prop} {a w : World} (h : Kp S a w) {g : Nat} (hp : a.heap.size ≤ g ∨ S g) (cs : Array Value) : Kp S a (w.setRow g cs) :=
  ⟨h.os, h.tape, h.output, by rw [size_setRow]; exact h.size, fun k hk hs => by
    rw [setRow_other _ _ _ _ (by rintro rfl; rcases hp with hp | hp; omega; exact hs hp)]
    exact h.block k hk hs⟩
theorem own_base {w : World} {base : Nat} {e : TypeId} {size n : Nat} {v : Value} {xs : List Value} (h : w.ownsRow base e size v n xs) (g : Nat) (hg : v.ownBlock = some g) : base ≤ g := by
  rcases h.2 with ⟨rfl, _⟩ | ⟨g', cap, cur, rfl, e2, _⟩
  · cases hg
  · cases hg; exact e2
theorem own_mono {w : World} {base base' : Nat} {e : TypeId} {size n : Nat} {v : Value} {xs : List Value} (h : w.ownsRow base e size v n xs) (hb : base' ≤ base) : w.ownsRow base' e size v n xs := by
  obtain ⟨h1, h2⟩ := h
  refine ⟨h1, ?_⟩
  rcases h2 with h2 | ⟨g, cap, cur, e1, e2, e3⟩
  · exact .inl h2
  · exact .inr ⟨g, cap, cur, e1, by omega, e3⟩
/-- the world as the walk has it behind its two blocks -/
abbrev toW (w : World) (u : U) (rv wv : Value) : World := (w.alloc (.cells #[.string u.id, .string u.place, rv, wv] 28)).alloc (.cells #[e0, e0, e0, e0, e0, .pointer none, .pointer none, .pointer none, .slice none 0 0, .slice none 0 0] 43)
theorem to_facts {w W : World} {u : U} {rv wv : Value} (h : New (toW w u rv wv) W) : W.cell? ⟨w.heap.size, 0, none⟩ = some (.string u.id) ∧ W.cell? ⟨w.heap.size, 2, none⟩ = some rv ∧ W.cell? ⟨w.heap.size, 3, none⟩ = some wv ∧
    W.heap[w.heap.size + 1]? = some (.cells #[e0, e0, e0, e0, e0, .pointer none, .pointer none, .pointer none, .slice none 0 0, .slice none 0 0] 43 (0, 0)) := by
  have hs : (toW w u rv wv).heap.size = w.heap.size + 2 := by simp
  have b0 : (toW w u rv wv).heap[w.heap.size]? = some (.cells #[.string u.id, .string u.place, rv, wv] 28 (0, 0)) := heap_alloc2_old _ _ _
  have b1 : (toW w u rv wv).heap[w.heap.size + 1]? = some (.cells #[e0, e0, e0, e0, e0, .pointer none, .pointer none, .pointer none, .slice none 0 0, .slice none 0 0] 43 (0, 0)) := heap_alloc2_new _ _ _
  rw [← h.block w.heap.size (by omega) id] at b0
  rw [← h.block (w.heap.size + 1) (by omega) id] at b1
  exact ⟨by rw [cell_of_row _ _ _ _ _ _ b0]; rfl, by rw [cell_of_row _ _ _ _ _ _ b0]; rfl, by rw [cell_of_row _ _ _ _ _ _ b0]; rfl, b1⟩
/-- a row, its first k elements laid -/
def Part (w : World) (B : Nat) (e size : Nat) (v : Value) (n : Nat) (A : List Value) : Prop := ∃ t, w.ownsRow B e size v n (A ++ t)
theorem Part.full {w : World} {B e size n : Nat} {v : Value} {A : List Value} (h : Part w B e size v n A) (hl : A.length = n * size) : w.ownsRow B e size v n A := by
  obtain ⟨t, h⟩ := h
  have h1 := h.1
  rw [List.length_append] at h1
  have : t = [] := List.eq_nil_of_length_eq_zero (by omega)
  rw [this, List.append_nil] at h
  exact h
theorem Part.kp {w w' : World} {S : Nat → Prop} {B e size n : Nat} {v : Value} {A : List Value} (h : Part w B e size v n A) (hk : Kp S w w') (hv : ∀ g, v.ownBlock = some g → ¬ S g) : Part w' B e size v n A := by
  obtain ⟨t, h⟩ := h
  exact ⟨t, ownsRow_kp h hk hv⟩
/-- the cells of the element that is laid next -/
theorem Part.next {w : World} {B e size n g cap k : Nat} {A : List Value} (h : Part w B e size (.slice (some ⟨g, 0, none⟩) n cap) n A) (hk : k < n) (j : Nat) (hj : j < size) :
    (∃ u0, w.cell? ⟨g, k * size + j, none⟩ = some u0) ∧ w.frozen? ⟨g, k * size + j, none⟩ = false := by
  obtain ⟨t, h⟩ := h
  have hb : k * size + j < n * size := by
    have : (k + 1) * size ≤ n * size := Nat.mul_le_mul_right _ hk
    rw [Nat.succ_mul] at this
    omega
  refine ⟨?_, h.frozenAt _⟩
  rw [h.cellAt _ hb]
  have : k * size + j < (A ++ t).length := by rw [h.1]; exact hb
  exact ⟨_, List.getElem?_eq_getElem this⟩
theorem Part.put2 {w : World} {B e n g cap k : Nat} {A : List Value} (h : Part w B e 2 (.slice (some ⟨g, 0, none⟩) n cap) n A) (hl : A.length = k * 2) (hk : k < n) (a b : Value) :
    Part ((w.setCell ⟨g, k * 2, none⟩ a).setCell ⟨g, k * 2 + 1, none⟩ b) B e 2 (.slice (some ⟨g, 0, none⟩) n cap) n (A ++ [a, b]) := by
  obtain ⟨t, h⟩ := h
  have h1 := h.1
  rw [List.length_append] at h1
  have s := (((h.stored (k * 2) a).1).stored (k * 2 + 1) b).1
  rw [set2 hl (by omega)] at s
  exact ⟨_, s⟩
theorem Part.put3 {w : World} {B e n g cap k : Nat} {A : List Value} (h : Part w B e 3 (.slice (some ⟨g, 0, none⟩) n cap) n A) (hl : A.length = k * 3) (hk : k < n) (a b c : Value) :
    Part (((w.setCell ⟨g, k * 3, none⟩ a).setCell ⟨g, k * 3 + 1, none⟩ b).setCell ⟨g, k * 3 + 2, none⟩ c) B e 3 (.slice (some ⟨g, 0, none⟩) n cap) n (A ++ [a, b, c]) := by
  obtain ⟨t, h⟩ := h
  have h1 := h.1
  rw [List.length_append] at h1
  have s := (((((h.stored (k * 3) a).1).stored (k * 3 + 1) b).1).stored (k * 3 + 2) c).1
  rw [set3 hl (by omega)] at s
  exact ⟨_, s⟩
theorem info43s : (Try.prog.info? 43).map (·.size) = some 10 := by kernel_rfl

set_option maxHeartbeats 4000000 in
theorem toUnit_ok (u : U) (ra wa : Option Addr) (rc wk : Nat) (w : World) (hr : RSrc w.heap.size w (.slice ra u.reads.length rc) u.reads) (hs : SSrc w.heap.size w (.slice wa u.writes.length wk) u.writes) (h1 : u.reads.length ≤ 1048576) (h2 : u.writes.length ≤ 1048576) :
    Calls Try.prog 15 #[.agg #[.string u.id, .string u.place, .slice ra u.reads.length rc, .slice wa u.writes.length wk]] w fun e w' => ∃ xa xn xc ya yn yc, e = .returned (.agg #[.string u.id, e0, e0, e0, e0, .pointer none, .pointer none, .pointer none, .slice xa xn xc, .slice ya yn yc]) ∧
      w'.ownsRow w.heap.size 65 2 (.slice xa xn xc) u.reads.length (rcells u.reads) ∧ w'.ownsRow w.heap.size 63 3 (.slice ya yn yc) u.writes.length (wcells u.writes) ∧ New w w' := by
  obtain ⟨i5, hi5, hz50, hz51, hz52⟩ := info_parts info65
  obtain ⟨i3, hi3, hz30, hz31, hz32⟩ := info_parts info63
  have hN : New w (toW w u (.slice ra u.reads.length rc) (.slice wa u.writes.length wk)) := ((Kp.refl _ _).alloc _).alloc _
  have HN := Lib.hid hN
  have HR := Lib.hid hr
  have HS := Lib.hid hs
  clear hr hs hN
  go_enter Try.func15, Try.ntmps15
  go_upto_if 9 with fail
  go_cut [3] (fun v W => ∃ xa xn xc, v = .slice xa xn xc ∧ Hid (W.ownsRow (w.heap.size + 2) 65 2 (.slice xa xn xc) u.reads.length (rcells u.reads)) ∧ Hid (New (toW w u (.slice ra u.reads.length rc) (.slice wa u.writes.length wk)) W))
  case first =>
    cases ra with
    | none =>
      have hnil : Hid (u.reads = []) := Lib.hid (by
        obtain ⟨ad', c', q1, q2, _⟩ := HR.out
        cases q1
        exact (q2 rfl).2)
      go_wp2_with fail
      go_meet
      exact ⟨none, 0, 0, rfl, Lib.hid (by rw [hnil.out]; exact World.ownsRow_nil _ _ _ _), Lib.hid (Kp.refl _ _)⟩
    | some ad =>
      go_wp2_with (at_make; refine wpList_make_full _ rfl _ _ 40 rfl (w.heap.size + 2) 65 i5 (.agg #[.string ByteArray.empty, .string ByteArray.empty]) 2 Try.underlying40 hi5 hz50 hz51 .i64 .i64 u.reads.length u.reads.length u.reads.length rfl rfl rfl rfl (by rw [hz52]; omega) (by unfold maxLen; omega) (by simp) ?_; intro w1 hown1 hg1)
      obtain ⟨g, hgd⟩ : ∃ g, g = w.heap.size + 1 + 1 := ⟨_, rfl⟩
      rw [← hgd]
      have hgs : (toW w u (.slice (some ad) u.reads.length rc) (.slice wa u.writes.length wk)).heap.size ≤ g := by rw [hgd]; simp
      have HGS := Lib.hid hgs
      have P0 : Hid (Part w1 (w.heap.size + 2) 65 2 (.slice (some ⟨g, 0, none⟩) u.reads.length u.reads.length) u.reads.length (rcells (u.reads.take 0))) := Lib.hid (by
        have e : ((toW w u (.slice (some ad) u.reads.length rc) (.slice wa u.writes.length wk))).heap.size = w.heap.size + 1 + 1 := by simp
        rw [e, ← hgd] at hown1
        exact ⟨_, own_mono hown1 (by omega)⟩)
      have N1 : Hid (New (toW w u (.slice (some ad) u.reads.length rc) (.slice wa u.writes.length wk)) w1) := Lib.hid ((Kp.refl _ _).grown hg1 (by simp))
      clear hown1 hg1 hgd hgs
      go_loopw [4] (fun i W => ∃ k : Nat, k ≤ u.reads.length ∧ i = .int .i64 k ∧ Hid (Part W (w.heap.size + 2) 65 2 (.slice (some ⟨g, 0, none⟩) u.reads.length u.reads.length) u.reads.length (rcells (u.reads.take k))) ∧
        Hid (New (toW w u (.slice (some ad) u.reads.length rc) (.slice wa u.writes.length wk)) W)) (fun i _ => u.reads.length - (intOf i).toNat)
      case atStart => exact ⟨0, by omega, rfl, P0, N1⟩
      case round =>
        obtain ⟨k, hk, rfl, HP, HW⟩ := hrel
        obtain ⟨c0, c2, c3, hres⟩ := to_facts HW.out
        by_cases hlt : k < u.reads.length
        · obtain ⟨b, o, eb, hb, d0, d1⟩ := HR.out.at (New.below (HN.out.trans HW.out)) hlt
          cases eb
          obtain ⟨⟨v0, n0⟩, f0⟩ := HP.out.next hlt 0 (by omega)
          obtain ⟨⟨v1, n1⟩, f1⟩ := HP.out.next hlt 1 (by omega)
          rw [Nat.add_zero] at n0 f0
          have p2 := HP.out.put2 (k := k) (by rw [rcells_len, List.length_take]; omega) hlt (.string (u.reads[k]).1) (.string (u.reads[k]).2)
          rw [← rcells_snoc hlt] at p2
          have hg := HGS.out
          have q2 := (HW.out.setCell (p := ⟨g, k * 2, none⟩) (.inl hg) (.string (u.reads[k]).1)).setCell (p := ⟨g, k * 2 + 1, none⟩) (.inl hg) (.string (u.reads[k]).2)
          obtain ⟨r, hr⟩ : ∃ r, r = u.reads[k] := ⟨_, rfl⟩
          rw [← hr] at d0 d1 p2 q2
          have HP' := Lib.hid p2
          have HW' := Lib.hid q2
          clear hr p2 q2 hg HP HW c0 c3 hres
          go_wp2
          go_region
          all_goals
            go_wp2
            go_roundw
            case rel => exact ⟨k + 1, by omega, by go_num, HP', Lib.hid (HW'.out.drewN _)⟩
            case measure => simp [intOf]; omega
        · have hkk : k = u.reads.length := by omega
          subst hkk
          rw [List.take_length] at HP
          clear c0 c3 hres
          go_wp2_with fail
          go_meet
          exact ⟨_, _, _, rfl, Lib.hid (HP.out.full (rcells_len _)), HW⟩
  case rest =>
    obtain ⟨xa, xn, xc, rfl, HX, HW0⟩ := hcut
    obtain ⟨w5, rfl⟩ : ∃ w5, w5 = wc := ⟨_, rfl⟩
    have hW2 := to_facts HW0.out
    obtain ⟨c0, c2, c3, hres⟩ := hW2
    have HN0 : Hid (New w w5) := Lib.hid (HN.out.trans HW0.out)
    have hsz : w.heap.size + 2 ≤ w5.heap.size := by have h := HW0.out.size; simp at h; omega
    go_upto_if 39 with fail
    go_cut [5] (fun v W => ∃ ya yn yc, v = .slice ya yn yc ∧ Hid (W.ownsRow (w.heap.size + 2) 63 3 (.slice ya yn yc) u.writes.length (wcells u.writes)) ∧ Hid (New w5 W))
    case first =>
      cases wa with
      | none =>
        have hnil : Hid (u.writes = []) := Lib.hid (by
          obtain ⟨ad', c', q1, q2, _⟩ := HS.out
          cases q1
          exact (q2 rfl).2)
        go_wp2_with fail
        go_meet
        exact ⟨none, 0, 0, rfl, Lib.hid (by rw [hnil.out]; exact World.ownsRow_nil _ _ _ _), Lib.hid (Kp.refl _ _)⟩
      | some ad =>
        go_wp2_with (at_make; refine wpList_make_full _ rfl _ _ 41 rfl (w.heap.size + 2) 63 i3 (.agg #[.string ByteArray.empty, .pointer none, .pointer none]) 3 Try.underlying41 hi3 hz30 hz31 .i64 .i64 u.writes.length u.writes.length u.writes.length rfl rfl rfl rfl (by rw [hz32]; omega) (by unfold maxLen; omega) (by omega) ?_; intro w1 hown1 hg1)
        have P0 : Hid (Part w1 (w.heap.size + 2) 63 3 (.slice (some ⟨w5.heap.size, 0, none⟩) u.writes.length u.writes.length) u.writes.length (wcells (u.writes.take 0))) := Lib.hid ⟨_, hown1⟩
        have N1 : Hid (New w5 w1) := Lib.hid ((Kp.refl _ _).grown hg1 (by simp))
        clear hown1 hg1 c0 c2 c3 hres
        go_loopw [6] (fun i W => ∃ k : Nat, k ≤ u.writes.length ∧ i = .int .i64 k ∧ Hid (Part W (w.heap.size + 2) 63 3 (.slice (some ⟨w5.heap.size, 0, none⟩) u.writes.length u.writes.length) u.writes.length (wcells (u.writes.take k))) ∧ Hid (New w5 W)) (fun i _ => u.writes.length - (intOf i).toNat)
        case atStart => exact ⟨0, by omega, rfl, P0, N1⟩
        case round =>
          obtain ⟨k, hk, rfl, HP, HW⟩ := hrel
          obtain ⟨c0, c2, c3, hres⟩ := to_facts (HW0.out.trans HW.out)
          by_cases hlt : k < u.writes.length
          · obtain ⟨b, o, eb, hb, d0⟩ := HS.out.at (New.below (HN0.out.trans HW.out)) hlt
            cases eb
            obtain ⟨⟨v0, n0⟩, f0⟩ := HP.out.next hlt 0 (by omega)
            obtain ⟨⟨v1, n1⟩, f1⟩ := HP.out.next hlt 1 (by omega)
            obtain ⟨⟨v2, n2⟩, f2⟩ := HP.out.next hlt 2 (by omega)
            rw [Nat.add_zero] at n0 f0
            have p2 := HP.out.put3 (k := k) (by rw [wcells_len, List.length_take]; omega) hlt (.string u.writes[k]) (.pointer none) (.pointer none)
            rw [← wcells_snoc hlt] at p2
            have q2 := ((HW.out.setCell (p := ⟨w5.heap.size, k * 3, none⟩) (.inl (Nat.le_refl _)) (.string u.writes[k])).setCell (p := ⟨w5.heap.size, k * 3 + 1, none⟩) (.inl (Nat.le_refl _)) (.pointer none)).setCell (p := ⟨w5.heap.size, k * 3 + 2, none⟩) (.inl (Nat.le_refl _)) (.pointer none)
            obtain ⟨r, hr⟩ : ∃ r, r = u.writes[k] := ⟨_, rfl⟩
            rw [← hr] at d0 p2 q2
            have HP' := Lib.hid p2
            have HW' := Lib.hid q2
            clear hr p2 q2 HP c0 c2 hres HW
            go_wp2
            go_roundw
            case rel => exact ⟨k + 1, by omega, by go_num, HP', HW'⟩
            case measure => simp [intOf]; omega
          · have hkk : k = u.writes.length := by omega
            subst hkk
            rw [List.take_length] at HP
            clear c0 c2 hres
            go_wp2_with fail
            go_meet
            exact ⟨_, _, _, rfl, Lib.hid (HP.out.full (wcells_len _)), HW⟩
    case rest =>
      obtain ⟨ya, yn, yc, rfl, HY, HW1⟩ := hcut
      obtain ⟨d0, d2, d3, hres'⟩ := to_facts (HW0.out.trans HW1.out)
      clear c0 c2 c3 hres d2 d3
      go_wp2_with (first | (refine wpList_store_row rfl 43 (.tmp 2) (.tmp 64) rfl (w.heap.size + 1) #[.string u.id, e0, e0, e0, e0, .pointer none, .pointer none, .pointer none, .slice xa xn xc, .slice ya yn yc] rfl rfl 43 _ hres' info43s rfl (by simp [Value.oneCell']) ?_) | go_in)
      (try simp only [Exit.inBlock, Exit.then])
      refine bodyPost_ret (results_cell_row rfl _ _ (w.heap.size + 1) 43 #[.string u.id, e0, e0, e0, e0, .pointer none, .pointer none, .pointer none, .slice xa xn xc, .slice ya yn yc] (0, 0) _ rfl (setRow_heap _ _ _ _ _ _ hres') Try.underlying43 rfl info43s) rfl ?_
      have hk : Kp (fun k => k = w.heap.size + 1) wc (wc.setRow (w.heap.size + 1) #[.string u.id, e0, e0, e0, e0, .pointer none, .pointer none, .pointer none, .slice xa xn xc, .slice ya yn yc]) := Kp.setRow (S := fun k => k = w.heap.size + 1) (Kp.refl _ wc) (.inr rfl) _
      have x1 := ownsRow_kp (ownsRow_kp HX.out HW1.out (fun _ _ h => h)) hk (fun g hg e => by have := own_base HX.out g hg; omega)
      have y1 := ownsRow_kp HY.out hk (fun g hg e => by have := own_base HY.out g hg; omega)
      exact ⟨xa, xn, xc, ya, yn, yc, rfl, own_mono x1 (by omega), own_mono y1 (by omega), (HN0.out.trans HW1.out).setRow (.inl (by omega)) _⟩
end Go.Proofs.Qxb6600552a.kt
