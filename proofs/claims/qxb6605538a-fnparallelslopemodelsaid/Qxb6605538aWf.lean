/-
  'cloneNested': the walk.
-/
import Derived.Test.Qxb6605538aWe
namespace Go.Proofs.Qxb6605538a.fl
open Go.ChangeShapes Go.WideShapes Go.RowKit
attribute [local go_sem] run_store_float

theorem info22 : (Try.prog.info? 22).map (fun i => (i.zero, i.size, i.bytes)) = some (some (.slice none 0 0), 1, 24) := by kernel_rfl

/-- where it lies, if anywhere: not below block L -/
def Hi (L : Nat) (v : Value) : Prop := ∀ a len c, v = .slice (some a) len c → L ≤ a.block
theorem ownsRow_below {w w' : World} {B base : Nat} {e : TypeId} {size n : Nat} {v : Value} {xs : List Value} (h : w.ownsRow base e size v n xs) (hb : Below B w w') (hv : ∀ g, v.ownBlock = some g → g < B) : w'.ownsRow base e size v n xs := by
  refine ⟨h.1, ?_⟩
  rcases h.2 with hn | ⟨g, cap, cur, rfl, hg0, hg, rest⟩
  · exact .inl hn
  · exact .inr ⟨g, cap, cur, rfl, hg0, by rw [hb.block g (hv g rfl)]; exact hg, rest⟩
theorem cell_setCell_ne {w : World} {a p : Addr} (u : Value) (h : p.block ≠ a.block) : (w.setCell a u).cell? p = w.cell? p :=
  World.cell?_of_block (heap_setCell_other w a p.block u h)
theorem FSrc.setCell {B L : Nat} {w : World} {v : Value} {xs : List Nat} (h : FSrc B w v xs) (hL : Hi L v) {a : Addr} (ha : a.block < L) (u : Value) : FSrc B (w.setCell a u) v xs := by
  obtain ⟨ad, cap, rfl, hn, hc⟩ := h
  refine ⟨ad, cap, rfl, hn, fun hne => ?_⟩
  obtain ⟨b, o, rfl, hbw, hcell⟩ := hc hne
  have := hL _ _ _ rfl
  exact ⟨b, o, rfl, hbw, fun i hi => by rw [cell_setCell_ne u (by show b ≠ _; have : L ≤ b := this; omega)]; exact hcell i hi⟩

theorem clone_hi (ad : Option Addr) (c : Nat) (l : List Nat) (w : World) (hlen : l.length ≤ 4096) (hs : FSrc w.heap.size w (.slice ad l.length c) l) :
    Calls Try.prog 10 #[.slice ad l.length c] w fun e w' => ∃ ad' c', e = .returned (.slice ad' l.length c') ∧ FSrc w'.heap.size w' (.slice ad' l.length c') l ∧ Hi w.heap.size (.slice ad' l.length c') ∧ Below w.heap.size w w' := by
  cases ad with
  | none =>
    obtain ⟨ad', cap', e1, hn, _⟩ := hs
    cases e1
    obtain ⟨rfl, rfl⟩ := hn rfl
    refine (clone_nil w).mono fun e w' ⟨he, hw⟩ => ⟨none, 0, he, ?_, (fun a _ _ h => by cases h), by rw [hw]; exact Below.refl _ _⟩
    exact ⟨none, 0, rfl, fun _ => ⟨rfl, rfl⟩, fun h => absurd rfl h⟩
  | some a => exact (clone_some a c l w hlen hs).mono fun e w' ⟨he, h1, h2⟩ => ⟨_, _, he, h1, (fun a _ _ h => by cases h; exact Nat.le_refl _), h2⟩

/-- a slice of slices of floats, in blocks below B -/
def NSrc (B : Nat) (w : World) (v : Value) (xss : List (List Nat)) : Prop :=
  ∃ ad cap, v = .slice ad xss.length cap ∧ (ad = none → cap = 0 ∧ xss = []) ∧ (xss ≠ [] → ∃ b o, ad = some ⟨b, o, none⟩ ∧ b < B ∧
    ∀ i (h : i < xss.length), ∃ a c, w.cell? ⟨b, o + i, none⟩ = some (.slice a (xss[i]).length c) ∧ FSrc B w (.slice a (xss[i]).length c) xss[i])
theorem NSrc.below {B B' : Nat} {w w' : World} {v : Value} {xss : List (List Nat)} (h : NSrc B w v xss) (hb : Below B w w') (hB : B ≤ B') : NSrc B' w' v xss := by
  obtain ⟨ad, cap, e, hn, hc⟩ := h
  refine ⟨ad, cap, e, hn, fun hne => ?_⟩
  obtain ⟨b, o, e1, hbw, hcell⟩ := hc hne
  refine ⟨b, o, e1, by omega, fun i hi => ?_⟩
  obtain ⟨a, c, h1, h2⟩ := hcell i hi
  exact ⟨a, c, by rw [hb.cell (p := ⟨b, o + i, none⟩) hbw]; exact h1, h2.below hb hB⟩
theorem NSrc.at {B : Nat} {w wr : World} {ad : Option Addr} {len cap : Nat} {xss : List (List Nat)} (h : NSrc B w (.slice ad len cap) xss) (hb : Below B w wr) {k : Nat} (hk : k < xss.length) :
    ∃ b o a c, ad = some ⟨b, o, none⟩ ∧ b < B ∧ wr.cell? ⟨b, o + k, none⟩ = some (.slice a (xss[k]).length c) ∧ FSrc B wr (.slice a (xss[k]).length c) xss[k] := by
  obtain ⟨ad', cap', e1, _, hc⟩ := h
  obtain ⟨b, o, rfl, hbw, hcell⟩ := hc (by intro e; rw [e] at hk; simp at hk)
  cases e1
  obtain ⟨a, c, h1, h2⟩ := hcell k hk
  exact ⟨b, o, a, c, rfl, hbw, by rw [hb.cell (p := ⟨b, o + k, none⟩) hbw]; exact h1, h2.below hb (Nat.le_refl _)⟩

/-- a row of slices behind k rounds: its first k are what they are, the rest nil -/
def npart (vs : List Value) (n : Nat) : List Value := vs ++ List.replicate (n - vs.length) (.slice none 0 0)
theorem npart_set (vs : List Value) (n : Nat) (v : Value) (h : vs.length < n) : (npart vs n).set vs.length v = npart (vs ++ [v]) n := by
  unfold npart
  rw [List.set_append_right _ _ (by omega), Nat.sub_self, List.length_append, show n - vs.length = (n - (vs.length + [v].length)) + 1 by simp; omega, List.replicate_succ, List.set_cons_zero, List.append_assoc]
  rfl

theorem nest_nil (w : World) : Calls Try.prog 15 #[.slice none 0 0] w fun e w' => e = .returned (.slice none 0 0) ∧ w' = w := by
  have hn := Lib.run_eql_slice_nil (P := Try.prog) w 30 22 none 0 0 0 0 Try.underlying30
  go_enter Try.func15, Try.ntmps15
  go_wp2
  go_ret
  exact ⟨rfl, rfl⟩

/-- the clones so far -/
def Kept (L : Nat) (W : World) (vs : List Value) (xss : List (List Nat)) : Prop :=
  ∀ i (h : i < vs.length) (h' : i < xss.length), (∃ a c, vs[i] = .slice a (xss[i]).length c) ∧ FSrc W.heap.size W vs[i] xss[i] ∧ Hi L vs[i]
theorem Kept.below {L : Nat} {W W' : World} {vs : List Value} {xss : List (List Nat)} (h : Kept L W vs xss) (hb : Below W.heap.size W W') : Kept L W' vs xss := fun i h1 h2 => by
  obtain ⟨a, b, c⟩ := h i h1 h2
  exact ⟨a, b.below hb hb.size, c⟩
theorem Kept.setCell {L : Nat} {W : World} {vs : List Value} {xss : List (List Nat)} (h : Kept L W vs xss) {a : Addr} (ha : a.block < L) (u : Value) : Kept L (W.setCell a u) vs xss := fun i h1 h2 => by
  obtain ⟨p, b, c⟩ := h i h1 h2
  rw [World.size_setCell]
  exact ⟨p, b.setCell c ha u, c⟩
theorem Kept.snoc {L : Nat} {W : World} {vs : List Value} {xss : List (List Nat)} (h : Kept L W vs xss) {v : Value} (hk : vs.length < xss.length) (hv : (∃ a c, v = .slice a (xss[vs.length]).length c) ∧ FSrc W.heap.size W v xss[vs.length] ∧ Hi L v) : Kept L W (vs ++ [v]) xss := fun i h1 h2 => by
  by_cases hi : i < vs.length
  · rw [List.getElem_append_left hi]; exact h i hi h2
  · have e : i = vs.length := by simp at h1; omega
    subst e
    rw [List.getElem_append_right (Nat.le_refl _)]
    simpa using hv

set_option maxHeartbeats 1000000 in
theorem nest_some (ad : Addr) (c : Nat) (xss : List (List Nat)) (w : World) (hlen : xss.length ≤ 4096) (hin : ∀ l, l ∈ xss → l.length ≤ 4096) (hs : NSrc w.heap.size w (.slice (some ad) xss.length c) xss) :
    Calls Try.prog 15 #[.slice (some ad) xss.length c] w fun e w' => e = .returned (.slice (some ⟨w.heap.size, 0, none⟩) xss.length xss.length) ∧
      NSrc w'.heap.size w' (.slice (some ⟨w.heap.size, 0, none⟩) xss.length xss.length) xss ∧ Below w.heap.size w w' := by
  obtain ⟨i0, hi, hz0, hz1, hz2⟩ := info_parts info22
  have hn := Lib.run_eql_slice_nil (P := Try.prog) w 30 22 (some ad) xss.length c 0 0 Try.underlying30
  have HS := Lib.hid hs
  have HI := Lib.hid hin
  clear hs hin
  go_enter Try.func15, Try.ntmps15
  go_wp2_with (at_make; refine wpList_make_full _ rfl _ _ 30 rfl w.heap.size 22 i0 (.slice none 0 0) 1 Try.underlying30 hi hz0 hz1 .i64 .i64 xss.length xss.length xss.length rfl rfl rfl rfl (by rw [hz2]; omega) (by unfold maxLen; omega) (Nat.le_refl _) ?_; intro w1 hown1 hg1)
  have R0 : w1.ownsRow w.heap.size 22 1 (.slice (some ⟨w.heap.size, 0, none⟩) xss.length xss.length) xss.length (npart [] xss.length) := by
    have e : (madeCells (Value.slice none 0 0).cells (xss.length * 1)).toList = npart [] xss.length := by
      rw [Nat.mul_one]; exact toList_madeCells_one _ _
    rw [e] at hown1
    exact hown1
  have hb1 : Below w.heap.size w w1 := (Below.refl _ _).grown hg1 (Nat.le_refl _) (by simp)
  clear hown1 hg1 hn
  go_loopw [4] (fun i W => ∃ vs : List Value, vs.length ≤ xss.length ∧ i = .int .i64 vs.length ∧ Hid (W.ownsRow w.heap.size 22 1 (.slice (some ⟨w.heap.size, 0, none⟩) xss.length xss.length) xss.length (npart vs xss.length)) ∧
    Hid (Kept (w.heap.size + 1) W vs xss) ∧ Below w.heap.size w W) (fun i _ => xss.length - (intOf i).toNat)
  case atStart => exact ⟨[], by simp, rfl, Lib.hid R0, Lib.hid (fun i h => by simp at h), hb1⟩
  case round =>
    obtain ⟨vs, hk, rfl, HO, HK, hb⟩ := hrel
    obtain ⟨k, hkk⟩ : ∃ k, k = vs.length := ⟨_, rfl⟩
    have HKK := Lib.hid hkk
    rw [← hkk] at hk ⊢
    by_cases hlt : k < xss.length
    · obtain ⟨b, o, a, c', eb, _, hc, hf⟩ := HS.out.at hb hlt
      cases eb
      obtain ⟨l, hl⟩ : ∃ l, l = xss[k] := ⟨_, rfl⟩
      have hll : l.length ≤ 4096 := by rw [hl]; exact HI.out _ (List.getElem_mem hlt)
      rw [← hl] at hc hf
      have HL := Lib.hid hl
      have HF := Lib.hid (hf.below (Below.refl w.heap.size wr) hb.size)
      have hsz : w.heap.size < wr.heap.size := (HO.out.lt w.heap.size rfl).2
      clear hl hf hkk
      go_wp2_with fail
      refine (clone_hi a c' l wr hll HF.out).mono ?_
      rintro e w2 ⟨ad', c2, rfl, hF2, hi2, hb2⟩
      have hown2 := ownsRow_below HO.out hb2 (fun g hg => by cases hg; exact hsz)
      have hb3 : Below w.heap.size w w2 := hb.trans (hb2.mono (by omega))
      obtain ⟨u0, hu0⟩ : ∃ u0, w2.cell? ⟨w.heap.size, k, none⟩ = some u0 := by
        rw [hown2.cellAt k (by omega)]
        have : k < (npart vs xss.length).length := by rw [hown2.1]; omega
        exact ⟨_, List.getElem?_eq_getElem this⟩
      have hfz : w2.frozen? ⟨w.heap.size, k, none⟩ = false := hown2.frozenAt k
      have hst := hown2.stored k (Value.slice ad' l.length c2)
      have HR : Hid ((w2.setCell ⟨w.heap.size, k, none⟩ (Value.slice ad' l.length c2)).ownsRow w.heap.size 22 1 (.slice (some ⟨w.heap.size, 0, none⟩) xss.length xss.length) xss.length (npart (vs ++ [Value.slice ad' l.length c2]) xss.length)) := by
        rw [← npart_set vs xss.length _ (by rw [← HKK.out]; exact hlt), ← HKK.out]
        exact Lib.hid hst.1
      have HB : Hid (Below w.heap.size w (w2.setCell ⟨w.heap.size, k, none⟩ (Value.slice ad' l.length c2))) := Lib.hid (hb3.setCell (by simp) _)
      have HK2 : Hid (Kept (w.heap.size + 1) (w2.setCell ⟨w.heap.size, k, none⟩ (Value.slice ad' l.length c2)) (vs ++ [Value.slice ad' l.length c2]) xss) := by
        refine Lib.hid (((HK.out.below hb2).setCell (by simp) _).snoc (by rw [← HKK.out]; exact hlt) ?_)
        have e0 : xss[vs.length]'(by rw [← HKK.out]; exact hlt) = l := by
          rw [HL.out]; congr 1; exact HKK.out.symm
        rw [e0, World.size_setCell]
        refine ⟨⟨_, _, rfl⟩, hF2.setCell hi2 (by exact hsz) _, fun a _ _ h => ?_⟩
        have := hi2 a _ _ h
        omega
      have hlen2 : ((vs ++ [Value.slice ad' l.length c2]).length : Int) = (k : Int) + 1 := by rw [List.length_append, ← HKK.out]; simp
      have HLN := Lib.hid hlen2
      clear hst hown2 hF2 hi2 hb2 hb3 hb HO HK hlen2
      go_wp2
      go_roundw
      case rel => exact ⟨vs ++ [Value.slice ad' l.length c2], by have := HLN.out; omega, by rw [HLN.out]; try go_num, HR, HK2, HB.out⟩
      case measure => simp [intOf]; omega
    · have hek : k = xss.length := by omega
      have hF : NSrc wr.heap.size wr (.slice (some ⟨w.heap.size, 0, none⟩) xss.length xss.length) xss := by
        refine ⟨_, _, rfl, (fun e => by cases e), fun _ => ⟨w.heap.size, 0, rfl, (HO.out.lt w.heap.size rfl).2, fun i hi => ?_⟩⟩
        have hiv : i < vs.length := by rw [← HKK.out, hek]; exact hi
        obtain ⟨⟨a, c', e⟩, h2, _⟩ := HK.out i hiv hi
        refine ⟨a, c', ?_, by rw [← e]; exact h2⟩
        rw [Nat.zero_add, HO.out.cellAt i (by omega)]
        unfold npart
        rw [List.getElem?_append_left hiv, List.getElem?_eq_getElem hiv, e]
      have HF := Lib.hid hF
      clear hF HO HK HS
      subst hek
      go_wp2
      go_ret
      exact ⟨rfl, HF.out, hb⟩

theorem nest_ok (ad : Option Addr) (c : Nat) (xss : List (List Nat)) (w : World) (hlen : xss.length ≤ 4096) (hin : ∀ l, l ∈ xss → l.length ≤ 4096) (hs : NSrc w.heap.size w (.slice ad xss.length c) xss) :
    Calls Try.prog 15 #[.slice ad xss.length c] w fun e w' => ∃ ad' c', e = .returned (.slice ad' xss.length c') ∧ NSrc w'.heap.size w' (.slice ad' xss.length c') xss ∧ Below w.heap.size w w' := by
  cases ad with
  | none =>
    obtain ⟨ad', cap', e1, hn, _⟩ := hs
    cases e1
    obtain ⟨rfl, rfl⟩ := hn rfl
    refine (nest_nil w).mono fun e w' ⟨he, hw⟩ => ⟨none, 0, he, ?_, by rw [hw]; exact Below.refl _ _⟩
    exact ⟨none, 0, rfl, fun _ => ⟨rfl, rfl⟩, fun h => absurd rfl h⟩
  | some a => exact (nest_some a c xss w hlen hin hs).mono fun e w' ⟨he, h1, h2⟩ => ⟨_, _, he, h1, h2⟩
end Go.Proofs.Qxb6605538a.fl
