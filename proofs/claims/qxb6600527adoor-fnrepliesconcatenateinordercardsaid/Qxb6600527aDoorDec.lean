/-
  'zzDecimal(n)': the decimal text of n, in a slice of the call's own: 'Lib.itoa n'.
-/
import Derived.Test.Qxb6600527aDoorRows
import Derived.WalkKit
import Derived.ProofKit
import Derived.OpenShut
import Derived.ShutString
import Derived.WalkSpells
import Derived.WalkLawsBesides
import Derived.Lib.ItoaMem
import Derived.Lib.ItoaLen
import Derived.Lib.UnsafeStr
namespace Go.Proofs.Qxb6600527aDoor.dec
open Go.ChangeShapes Go.WideShapes Go.ChangeAt Go.RowKit

theorem info5 : (Tryd.prog.info? 5).map (fun i => (i.zero, i.size, i.bytes)) = some (some (.int .u8 0), 1, 1) := by kernel_rfl

/-! ### The plain part: no Go in sight -/

/-- the array 'rev' behind j rounds -/
def rv (U j : Nat) : Array Value := ((List.range 20).map fun i => if i < j then Value.int .u8 (Lib.dg U i).toNat else Value.int .u8 0).toArray

theorem rv_zero (U : Nat) : rv U 0 = #[Value.int IntKind.u8 0, Value.int IntKind.u8 0, Value.int IntKind.u8 0, Value.int IntKind.u8 0,
      Value.int IntKind.u8 0, Value.int IntKind.u8 0, Value.int IntKind.u8 0, Value.int IntKind.u8 0,
      Value.int IntKind.u8 0, Value.int IntKind.u8 0, Value.int IntKind.u8 0, Value.int IntKind.u8 0,
      Value.int IntKind.u8 0, Value.int IntKind.u8 0, Value.int IntKind.u8 0, Value.int IntKind.u8 0,
      Value.int IntKind.u8 0, Value.int IntKind.u8 0, Value.int IntKind.u8 0, Value.int IntKind.u8 0] := by
  simp [rv, List.range, List.range.loop]

theorem rv_get (U j i : Nat) (hi : i < 20) : (rv U j)[i]? = some (if i < j then Value.int .u8 (Lib.dg U i).toNat else Value.int .u8 0) := by
  unfold rv
  simp [hi]

theorem dg_val (U j : Nat) (q : Int) (hq : q = ((U / 10 ^ j : Nat) : Int)) : ((Lib.dg U j).toNat : Int) = 48 + q % 10 := by
  subst hq
  unfold Lib.dg
  have h : 48 + U / 10 ^ j % 10 < 256 := by omega
  rw [UInt8.toNat_ofNat_of_lt' (by simpa using h)]
  omega

theorem rv_set (U j : Nat) (q : Int) (hq : q = ((U / 10 ^ j : Nat) : Int)) (_hj : j < 20) : (rv U j).setIfInBounds j (Value.int .u8 (48 + q % 10)) = rv U (j + 1) := by
  have hs : ∀ k, (rv U k).size = 20 := fun k => by simp [rv]
  apply Array.ext (by simp [hs])
  intro i h1 h2
  have hi : i < 20 := by simpa [hs] using h2
  have e1 := rv_get U j i hi
  have e2 := rv_get U (j + 1) i hi
  rw [Array.getElem?_eq_getElem (by rw [hs]; exact hi)] at e1 e2
  rw [Array.getElem_setIfInBounds (by rw [hs]; exact hi)]
  by_cases hij : j = i
  · subst hij
    rw [if_pos rfl]
    simp only [Option.some.injEq] at e2
    rw [e2, if_pos (by omega), dg_val U j q hq]
  · rw [if_neg hij]
    simp only [Option.some.injEq] at e1 e2
    rw [e1, e2]
    by_cases hlt : i < j
    · rw [if_pos hlt, if_pos (by omega)]
    · rw [if_neg hlt, if_neg (by omega)]

theorem div_step (U j : Nat) (q : Int) (hq : q = ((U / 10 ^ j : Nat) : Int)) : q / 10 = ((U / 10 ^ (j + 1) : Nat) : Int) := by
  subst hq
  rw [Nat.pow_succ, ← Nat.div_div_eq_div_mul]
  omega

/-- the loop stops behind as many rounds as there are digits -/
theorem stops (U j : Nat) (q : Int) (hq : q = ((U / 10 ^ j : Nat) : Int)) (hz : j = 0 ∨ q ≠ 0) (h : q / 10 = 0) : Lib.nDigits U = j + 1 := by
  have h1 := div_step U j q hq
  have hp : 0 < 10 ^ (j + 1) := Nat.pow_pos (by decide)
  have hlt : U < 10 ^ (j + 1) := by
    have : U / 10 ^ (j + 1) = 0 := by omega
    rcases (Nat.div_eq_zero_iff).1 this with h | h
    · omega
    · exact h
  rcases hz with hz | hz
  · subst hz
    exact Lib.nDigits_small (by simpa using hlt)
  · refine Lib.nDigits_unique j U ?_ hlt
    have : U / 10 ^ j ≠ 0 := by omega
    exact Nat.le_of_not_lt fun hh => this (Nat.div_eq_of_lt hh)

theorem short (U j : Nat) (q : Int) (hU : U ≤ 9223372036854775808) (hq : q = ((U / 10 ^ j : Nat) : Int)) (h : ¬ q / 10 = 0) : j + 1 ≤ 18 := by
  have h1 := div_step U j q hq
  apply Nat.le_of_not_lt
  intro hh
  apply h
  rw [h1]
  have : U / 10 ^ (j + 1) = 0 := Nat.div_eq_of_lt (Nat.lt_of_lt_of_le (by omega : U < 10 ^ 19) (Nat.pow_le_pow_right (by decide) (by omega)))
  omega

theorem take_step (U K t : Nat) (hK : Lib.nDigits U = K) (ht : t < K) :
    (Lib.decDigits U).take (t + 1) = (Lib.decDigits U).take t ++ [Lib.dg U (K - 1 - t)] := by
  have hl : (Lib.decDigits U).length = K := by rw [Lib.decDigits_length, hK]
  rw [List.take_succ_eq_append_getElem (by omega)]
  congr 2
  simp only [Lib.decDigits_eq U, List.getElem_map, List.getElem_range, hK]

theorem one_new (w : World) (x : Value) (T : TypeId) : ∀ j u, [x][j]? = some u → (w.alloc (.cells #[x] T)).cell? ((⟨w.heap.size, 0, none⟩ : Addr).add j) = some u := by
  intro j u hj
  match j, hj with
  | 0, hj => simp at hj; subst hj; simp [Addr.add]

theorem owns_mono {w : World} {B B' : Nat} {e : TypeId} {s : Nat} {v : Value} {n : Nat} {xs : List Value} (h : w.ownsRow B e s v n xs) (hB : B' ≤ B) : w.ownsRow B' e s v n xs := by
  obtain ⟨h1, h2⟩ := h
  refine ⟨h1, ?_⟩
  rcases h2 with h | ⟨g, cap, cur, a, b, c, d⟩
  · exact .inl h
  · exact .inr ⟨g, cap, cur, a, by omega, c, d⟩

theorem fin {B k : Nat} {U : Nat} {w1 : World} {v : Value} {pre L : List UInt8} (hl : (Lib.decDigits U).length = k) (hL : L = pre ++ Lib.decDigits U)
    (h : w1.ownsRow (B + 1) 5 1 v (pre.length + k) (Lib.byteCells (pre ++ Lib.decDigits U))) : w1.ownsRow B 5 1 v L.length (Lib.byteCells L) := by
  subst hl hL
  rw [List.length_append]
  exact owns_mono h (by omega)

theorem neg_wrap (U : Nat) (h0 : 1 ≤ U) (h1 : U ≤ 9223372036854775808) : IntKind.u64.wrap (-IntKind.u64.wrap (-(U : Int))) = (U : Int) := by
  simp only [IntKind.wrap, IntKind.bits, IntKind.signed, Bool.false_and, Bool.false_eq_true, if_false]
  omega

/-- what a round of the second loop does -/
theorem rel_step {U K t : Nat} {pre : List UInt8} {B : Nat} {w1 : World} {v' : Value} (hK : Lib.nDigits U = K) (ht : t < K)
    (h : w1.ownsRow B 5 1 v' (pre.length + t + 1) (Lib.byteCells (pre ++ (Lib.decDigits U).take t) ++ [Value.int .u8 (Lib.dg U (K - 1 - t)).toNat])) :
    w1.ownsRow B 5 1 v' (pre.length + (t + 1)) (Lib.byteCells (pre ++ (Lib.decDigits U).take (t + 1))) := by
  rw [take_step U K t hK ht, ← List.append_assoc, Lib.byteCells_append (pre ++ _)]
  exact h

set_option maxHeartbeats 1000000 in
theorem dec_pos (n : Int) (U : Nat) (L : List UInt8) (hn : 0 ≤ n) (hU : n = (U : Int)) (h1 : U ≤ 9223372036854775807) (w : World) (HLL : Hid (L = ([] : List UInt8) ++ Lib.decDigits U)) :
    Calls Tryd.prog 9 #[.int .i64 n] w fun e w' => ∃ v, e = .returned v ∧ w'.ownsRow w.heap.size 5 1 v L.length (Lib.byteCells L) ∧ Below w.heap.size w w' := by
  obtain ⟨i0, hi, hz0, hz1, hz2⟩ := info_parts info5
  obtain ⟨m, hm, Hm⟩ : ∃ m : Int, n = m ∧ Hid (m = (U : Int)) := ⟨_, rfl, hU⟩
  subst hm
  have hhi : n ≤ 9223372036854775807 := by omega
  have HU : Hid (n = (U : Int)) := hU
  clear hU
  go_enter Tryd.func9, Tryd.ntmps9
  go_wp2
  rw [← rv_zero U]
  go_loopw [3, 5] (fun u k W => ∃ (j : Nat) (q : Int), j ≤ 18 ∧ k = .int .i64 j ∧ u = .int .u64 q ∧ 0 ≤ q ∧ q ≤ 9223372036854775808 ∧ Hid (q = ((U / 10 ^ j : Nat) : Int)) ∧ Hid (j = 0 ∨ q ≠ 0) ∧ W = w.alloc (.cells (rv U j) 45)) (fun _ k _ => 20 - (intOf k).toNat)
  case atStart => exact ⟨0, n, by omega, rfl, rfl, by have := Hm.out; omega, by have := Hm.out; omega, by unfold Hid; simpa using Hm.out, Or.inl rfl, rfl⟩
  case round =>
    obtain ⟨j, q, hj, rfl, rfl, hq0, hq1, Hq, Hz, rfl⟩ := hrel
    have hcell : (rv U j)[j]? = some (Value.int .u8 0) := by rw [rv_get U j j (by omega), if_neg (by omega)]
    have hset := rv_set U j q Hq.out (by omega)
    by_cases hbr : q / 10 = 0
    · have hbr' : (q / 10 == 0) = true := by simpa using hbr
      have HK : Hid (Lib.nDigits U = j + 1) := stops U j q Hq.out Hz.out hbr
      have hb0 : Below (w.heap.size + 1) (w.alloc (.cells (rv U (j + 1)) 45)) (w.alloc (.cells (rv U (j + 1)) 45)) := Below.refl _ _
      have hdl : (Lib.decDigits U).length = j + 1 := by rw [Lib.decDigits_length]; exact HK.out
      have HL : Hid ((Lib.decDigits U).length = j + 1) := hdl
      clear hbr hdl
      go_wp2_with (at_make; refine wpList_make_own _ rfl _ _ 24 rfl (w.heap.size + 1) 5 i0 (.int .u8 0) 1 Tryd.underlying24 hi hz0 hz1 .i64 .i64 21 21 rfl rfl rfl (by rw [hz2]; decide) (by unfold maxLen; decide) (by simp) ?_; intro w1 hown1 hg1)
      have hb1 := hb0.grown hg1 (by simp) (by simp)
      simp only [World.size_alloc] at hown1
      have HV : Hid (Below w.heap.size w (w.alloc (Obj.cells (rv U (j + 1)) 45))) := (Below.refl _ _).alloc (Nat.le_refl _) _
      generalize hVW : (w.alloc (Obj.cells (rv U (j + 1)) 45)) = V at *
      have hVs : V.heap.size = w.heap.size + 1 := by rw [← hVW]; simp
      have hVc : ∀ i, i < j + 1 → V.cell? ⟨w.heap.size, i, none⟩ = some (Value.int .u8 (Lib.dg U i).toNat) := by
        intro i hij
        rw [← hVW, World.cell?_alloc_new, rv_get U (j + 1) i (by omega), if_pos hij]
      have HVc := Lib.hid hVc
      clear hVW hVc
      go_loopw [5, 6] (fun k out W => ∃ t : Nat, t ≤ j + 1 ∧ k = .int .i64 ((j + 1 - t : Nat) : Int) ∧ W.ownsRow (w.heap.size + 1) 5 1 out (([] : List UInt8).length + t) (Lib.byteCells (([] : List UInt8) ++ (Lib.decDigits U).take t)) ∧ Below (w.heap.size + 1) V W) (fun k _ _ => (intOf k).toNat)
      case atStart => exact ⟨0, by omega, by go_num, by simpa [Lib.byteCells] using hown1, hb1⟩
      case round =>
        obtain ⟨t, ht, rfl, hown, hb⟩ := hrel
        by_cases hlt : t < j + 1
        · obtain ⟨i, hi'⟩ : ∃ i, j + 1 - t = i + 1 := ⟨j - t, by omega⟩
          have hit : j - t = i := by omega
          rw [hi']
          have hc : wr.cell? ⟨w.heap.size, i, none⟩ = some (Value.int .u8 (Lib.dg U i).toNat) := by
            rw [hb.cell (p := ⟨w.heap.size, i, none⟩) (by simp)]; exact HVc.out i (by omega)
          go_wp2_with (at_builtin; refine wpList_append_own _ rfl _ _ 24 rfl (w.heap.size + 1) 5 i0 (.int .u8 0) 1 1 Tryd.underlying24 hi hz0 hz1 hz2 rfl (by decide) _ _ _ rfl (hown.alloc _) ⟨wr.heap.size, 0, none⟩ 1 1 [.int .u8 (Lib.dg U i).toNat] rfl rfl ?c1 ?c2 ?c3 ?c4 ?c5 ?_)
          case c1 => exact one_new _ _ _
          case c2 => intro u hu; simp at hu; subst hu; rfl
          case c3 => unfold maxLen; simp; omega
          case c4 => simp; omega
          case c5 => have := hb.size; simp; omega
          · intro v' w2 hown' hg' _
            have R1 : Hid (w2.ownsRow (w.heap.size + 1) 5 1 v' (([] : List UInt8).length + (t + 1)) (Lib.byteCells (([] : List UInt8) ++ (Lib.decDigits U).take (t + 1)))) := by
              refine rel_step HK.out hlt ?_
              rw [show j + 1 - 1 - t = i by omega]
              simpa using hown'
            have R2 : Below (w.heap.size + 1) V w2 := (hb.alloc (by have := hb.size; omega) _).grown hg' (by have := hb.size; simp; omega) (fun k hk => (hown.lt k hk).1)
            clear hown' hg' hown hc hb
            go_wp2
            go_roundw
            case rel => exact ⟨t + 1, by omega, by go_num, R1.out, R2⟩
            case measure => simp [intOf]
        · have het : t = j + 1 := by omega
          subst het
          go_wp2
          go_ret
          have hl := HL.out
          rw [List.take_of_length_le (by omega)] at hown
          exact ⟨_, rfl, fin hl HLL.out hown, HV.out.trans (hb.mono (by omega))⟩
    · have hbr' : (q / 10 == 0) = false := by simpa using hbr
      have hsh := short U j q (by omega) Hq.out hbr
      go_wp2
      go_roundw
      case rel => exact ⟨j + 1, q / 10, hsh, by go_num, rfl, by omega, by omega, div_step U j q Hq.out, .inr hbr, rfl⟩
      case measure => simp [intOf]; omega

set_option maxHeartbeats 1000000 in
theorem dec_neg (n : Int) (U : Nat) (L : List UInt8) (hn : n < 0) (hU : n = -(U : Int)) (h1 : U ≤ 9223372036854775808) (w : World) (HLL : Hid (L = ([45] : List UInt8) ++ Lib.decDigits U)) :
    Calls Tryd.prog 9 #[.int .i64 n] w fun e w' => ∃ v, e = .returned v ∧ w'.ownsRow w.heap.size 5 1 v L.length (Lib.byteCells L) ∧ Below w.heap.size w w' := by
  obtain ⟨i0, hi, hz0, hz1, hz2⟩ := info_parts info5
  obtain ⟨m, hm, Hm⟩ : ∃ m : Int, IntKind.u64.wrap (-IntKind.u64.wrap n) = m ∧ Hid (m = (U : Int)) := ⟨_, rfl, by unfold Hid; subst hU; exact neg_wrap U (by omega) h1⟩
  have hlo : -9223372036854775808 ≤ n := by omega
  have HU : Hid (n = -(U : Int)) := hU
  clear hU
  go_enter Tryd.func9, Tryd.ntmps9
  go_wp2
  rw [← rv_zero U]
  go_loopw [3, 5] (fun u k W => ∃ (j : Nat) (q : Int), j ≤ 18 ∧ k = .int .i64 j ∧ u = .int .u64 q ∧ 0 ≤ q ∧ q ≤ 9223372036854775808 ∧ Hid (q = ((U / 10 ^ j : Nat) : Int)) ∧ Hid (j = 0 ∨ q ≠ 0) ∧ W = w.alloc (.cells (rv U j) 45)) (fun _ k _ => 20 - (intOf k).toNat)
  case atStart => exact ⟨0, m, by omega, rfl, rfl, by have := Hm.out; omega, by have := Hm.out; omega, by unfold Hid; simpa using Hm.out, Or.inl rfl, rfl⟩
  case round =>
    obtain ⟨j, q, hj, rfl, rfl, hq0, hq1, Hq, Hz, rfl⟩ := hrel
    have hcell : (rv U j)[j]? = some (Value.int .u8 0) := by rw [rv_get U j j (by omega), if_neg (by omega)]
    have hset := rv_set U j q Hq.out (by omega)
    by_cases hbr : q / 10 = 0
    · have hbr' : (q / 10 == 0) = true := by simpa using hbr
      have HK : Hid (Lib.nDigits U = j + 1) := stops U j q Hq.out Hz.out hbr
      have hb0 : Below (w.heap.size + 1) (w.alloc (.cells (rv U (j + 1)) 45)) (w.alloc (.cells (rv U (j + 1)) 45)) := Below.refl _ _
      have hdl : (Lib.decDigits U).length = j + 1 := by rw [Lib.decDigits_length]; exact HK.out
      have HL : Hid ((Lib.decDigits U).length = j + 1) := hdl
      clear hbr hdl
      go_wp2_with (first | (at_make; refine wpList_make_own _ rfl _ _ 24 rfl (w.heap.size + 1) 5 i0 (.int .u8 0) 1 Tryd.underlying24 hi hz0 hz1 .i64 .i64 21 21 rfl rfl rfl (by rw [hz2]; decide) (by unfold maxLen; decide) (by simp) ?_; intro w1 hown1 hg1; simp only [World.size_alloc] at hown1) | (at_builtin; refine wpList_append_own _ rfl _ _ 24 rfl (w.heap.size + 1) 5 i0 (.int .u8 0) 1 1 Tryd.underlying24 hi hz0 hz1 hz2 rfl (by decide) _ _ _ rfl (hown1.alloc _) ⟨w1.heap.size, 0, none⟩ 1 1 [.int .u8 45] rfl rfl (one_new _ _ _) (by simp [Value.oneCell']) (by unfold maxLen; decide) (by decide) (by have := hg1.size; simp at this; simp; omega) ?_; intro v1 w2 hown2 hg2 _))
      have hbA := hb0.grown hg1 (by simp) (by simp)
      have hb1 := (hbA.alloc (by have := hbA.size; simp at this; omega) _).grown hg2 (by have := hbA.size; simp at this; simp; omega) (fun k hk => (hown1.lt k hk).1)
      have HV : Hid (Below w.heap.size w (w.alloc (Obj.cells (rv U (j + 1)) 45))) := (Below.refl _ _).alloc (Nat.le_refl _) _
      generalize hVW : (w.alloc (Obj.cells (rv U (j + 1)) 45)) = V at *
      have hVs : V.heap.size = w.heap.size + 1 := by rw [← hVW]; simp
      have hVc : ∀ i, i < j + 1 → V.cell? ⟨w.heap.size, i, none⟩ = some (Value.int .u8 (Lib.dg U i).toNat) := by
        intro i hij
        rw [← hVW, World.cell?_alloc_new, rv_get U (j + 1) i (by omega), if_pos hij]
      have HVc := Lib.hid hVc
      clear hVW hVc
      go_loopw [5, 6] (fun k out W => ∃ t : Nat, t ≤ j + 1 ∧ k = .int .i64 ((j + 1 - t : Nat) : Int) ∧ W.ownsRow (w.heap.size + 1) 5 1 out (([45] : List UInt8).length + t) (Lib.byteCells (([45] : List UInt8) ++ (Lib.decDigits U).take t)) ∧ Below (w.heap.size + 1) V W) (fun k _ _ => (intOf k).toNat)
      case atStart => exact ⟨0, by omega, by go_num, by simpa [Lib.byteCells] using hown2, hb1⟩
      case round =>
        obtain ⟨t, ht, rfl, hown, hb⟩ := hrel
        by_cases hlt : t < j + 1
        · obtain ⟨i, hi'⟩ : ∃ i, j + 1 - t = i + 1 := ⟨j - t, by omega⟩
          have hit : j - t = i := by omega
          rw [hi']
          have hc : wr.cell? ⟨w.heap.size, i, none⟩ = some (Value.int .u8 (Lib.dg U i).toNat) := by
            rw [hb.cell (p := ⟨w.heap.size, i, none⟩) (by simp)]; exact HVc.out i (by omega)
          go_wp2_with (at_builtin; refine wpList_append_own _ rfl _ _ 24 rfl (w.heap.size + 1) 5 i0 (.int .u8 0) 1 1 Tryd.underlying24 hi hz0 hz1 hz2 rfl (by decide) _ _ _ rfl (hown.alloc _) ⟨wr.heap.size, 0, none⟩ 1 1 [.int .u8 (Lib.dg U i).toNat] rfl rfl ?c1 ?c2 ?c3 ?c4 ?c5 ?_)
          case c1 => exact one_new _ _ _
          case c2 => intro u hu; simp at hu; subst hu; rfl
          case c3 => unfold maxLen; simp; omega
          case c4 => simp; omega
          case c5 => have := hb.size; simp; omega
          · intro v' w2 hown' hg' _
            have R1 : Hid (w2.ownsRow (w.heap.size + 1) 5 1 v' (([45] : List UInt8).length + (t + 1)) (Lib.byteCells (([45] : List UInt8) ++ (Lib.decDigits U).take (t + 1)))) := by
              refine rel_step HK.out hlt ?_
              rw [show j + 1 - 1 - t = i by omega]
              simpa using hown'
            have R2 : Below (w.heap.size + 1) V w2 := (hb.alloc (by have := hb.size; omega) _).grown hg' (by have := hb.size; simp; omega) (fun k hk => (hown.lt k hk).1)
            clear hown' hg' hown hc hb
            go_wp2
            go_roundw
            case rel => exact ⟨t + 1, by omega, by go_num, R1.out, R2⟩
            case measure => simp [intOf]
        · have het : t = j + 1 := by omega
          subst het
          go_wp2
          go_ret
          have hl := HL.out
          rw [List.take_of_length_le (by omega)] at hown
          exact ⟨_, rfl, fin hl HLL.out hown, HV.out.trans (hb.mono (by omega))⟩
    · have hbr' : (q / 10 == 0) = false := by simpa using hbr
      have hsh := short U j q (by omega) Hq.out hbr
      go_wp2
      go_roundw
      case rel => exact ⟨j + 1, q / 10, hsh, by go_num, rfl, by omega, by omega, div_step U j q Hq.out, .inr hbr, rfl⟩
      case measure => simp [intOf]; omega
/-- zzDecimal: THE CONTRACT: for every int64, its decimal text in a slice of the call's own. -/
theorem dec_any (n : Int) (h0 : -9223372036854775808 ≤ n) (h1 : n ≤ 9223372036854775807) (w : World) :
    Calls Tryd.prog 9 #[.int .i64 n] w fun e w' => ∃ v, e = .returned v ∧ w'.ownsRow w.heap.size 5 1 v (Lib.itoa n).length (Lib.byteCells (Lib.itoa n)) ∧ Below w.heap.size w w' := by
  by_cases h : n < 0
  · refine dec_neg n n.natAbs _ h (by omega) (by omega) w ?_
    show Lib.itoa n = _
    unfold Lib.itoa
    rw [if_pos h]
    rfl
  · refine dec_pos n n.toNat _ (by omega) (by omega) (by omega) w ?_
    show Lib.itoa n = _
    unfold Lib.itoa
    rw [if_neg h]
    rfl
end Go.Proofs.Qxb6600527aDoor.dec
