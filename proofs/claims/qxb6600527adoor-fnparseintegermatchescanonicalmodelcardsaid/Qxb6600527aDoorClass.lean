/-
  'zzClass(b)': the walk: it answers 'pl.CL' of the bytes.
-/
import Derived.Test.Qxb6600527aDoorParse
import Derived.Test.Qxb6600527aDoorLaws2
import Derived.Test.Qxb6600527aDoorSlices
namespace Go.Proofs.Qxb6600527aDoor.cls
open Go.ChangeShapes Go.WideShapes Go.ChangeAt Go.RowKit
open pl pin

theorem drew3 (w : World) (a b c : Nat) : ((w.drewN a).drewN b).drewN c = w.drewN (a + b + c) := by rw [World.drewN_drewN, World.drewN_drewN, Nat.add_assoc]

theorem class_empty (p1 : Option Addr) (c : Nat) (w : World) : Calls Tryd.prog 20 #[.slice p1 0 c] w fun e w' => e = .returned (.int .i64 (0 : Nat)) ∧ ∃ n, w' = w.drewN n := by
  go_enter Tryd.func20, Tryd.ntmps20
  go_wp2
  go_ret
  exact ⟨rfl, 0, rfl⟩

theorem class_dash (g c : Nat) (w : World) (hcell : w.cell? ⟨g, 0, none⟩ = some (.int .u8 45)) (_hc : 1 ≤ c) :
    Calls Tryd.prog 20 #[.slice (some ⟨g, 0, none⟩) 1 c] w fun e w' => e = .returned (.int .i64 (0 : Nat)) ∧ ∃ n, w' = w.drewN n := by
  go_enter Tryd.func20, Tryd.ntmps20
  go_wp2
  all_goals
    go_ret
    exact ⟨rfl, 0, rfl⟩

/-! ### What the bytes say, in the walk's own words: 'B i' is the i-th byte -/
section
variable {B : Nat → Int} {l : List UInt8} {o m k : Nat}

theorem byB (hB : ∀ i, B i = ((l.getD i 0).toNat : Int)) (i : Nat) : ((l[i]?.getD 0).toNat : Int) = B i := by
  rw [hB i, List.getD_eq_getElem?_getD]

theorem none_of (hB : ∀ i, B i = ((l.getD i 0).toNat : Int)) (ho : o + m = l.length) (hk : k < m) (hd : digitsOf l = l.drop o) (h : B (o + k) < 48 ∨ 57 < B (o + k)) : CL l = 0 :=
  CL_nodig (nodig_of ho hk hd (by rw [byB hB]; exact h))
theorem step_of (hB : ∀ i, B i = ((l.getD i 0).toNat : Int)) (ho : o + m = l.length) (hk : k < m) (hok : okTo l o k) (h1 : 48 ≤ B (o + k)) (h2 : B (o + k) ≤ 57) : okTo l o (k + 1) :=
  okTo_step ho hk hok (by rw [byB hB]; exact h1) (by rw [byB hB]; exact h2)
theorem zero_of (hB : ∀ i, B i = ((l.getD i 0).toNat : Int)) (ho : o + m = l.length) (hm : 1 ≤ m) (hd : digitsOf l = l.drop o) (h0 : B o = 48) (h : m < l.length ∨ 1 < m) : CL l = 0 :=
  CL_bad (bad_of ho hd hm (by rw [byB hB]; exact h0) h)
theorem fine_of (hB : ∀ i, B i = ((l.getD i 0).toNat : Int)) (ho : o + m = l.length) (hm : 1 ≤ m) (hd : digitsOf l = l.drop o) (h : ¬ B o = 48 ∨ (¬ m < l.length ∧ ¬ 1 < m)) : badHead l = false :=
  good_of ho hd hm (by rw [byB hB]; exact h)

/-- the class of a text that is well formed, by its number -/
theorem class_of (ho : o + m = l.length) (hd : digitsOf l = l.drop o) (hok : okTo l o m) (hg : badHead l = false) (neg : Bool) (hneg : decide (l.head? = some 45) = neg) :
    CL l = if val 0 (l.drop o) ≤ (if neg then 9223372036854775808 else 9223372036854775807) then 3 else (if neg then 2 else 1) := by
  have ha := dig_of ho hd hok
  cases neg with
  | true => rw [CL_neg hg ha (by simpa using hneg), hd]; rfl
  | false => rw [CL_pos hg ha (by simpa using hneg), hd]; rfl

theorem class_short (ho : o + m = l.length) (hd : digitsOf l = l.drop o) (hok : okTo l o m) (hg : badHead l = false) (neg : Bool) (hneg : decide (l.head? = some 45) = neg) (hm : m < 19) : CL l = 3 := by
  have ha := dig_of ho hd hok
  rw [hd] at ha
  have h := short_small ha (by rw [List.length_drop]; omega)
  rw [class_of ho hd hok hg neg hneg, if_pos (by cases neg <;> simp <;> omega)]

theorem class_long (hB : ∀ i, B i = ((l.getD i 0).toNat : Int)) (ho : o + m = l.length) (hd : digitsOf l = l.drop o) (hok : okTo l o m) (hg : badHead l = false) (neg : Bool) (hneg : decide (l.head? = some 45) = neg) (h0 : ¬ B o = 48) (hm : 19 < m) : CL l = if neg then 2 else 1 := by
  have ha := dig_of ho hd hok
  rw [hd] at ha
  have hlo : o < l.length := by omega
  have e : l.drop o = l[o] :: l.drop (o + 1) := List.drop_eq_getElem_cons hlo
  have hdig : 48 ≤ l[o].toNat ∧ l[o].toNat ≤ 57 := by
    rw [e, List.all_cons, Bool.and_eq_true, isDig_iff] at ha
    exact ha.1
  have h48 : ¬ l[o].toNat = 48 := by
    intro h
    apply h0
    rw [hB o]
    simp [hlo, h]
  have h := long_great e (by omega) (by rw [List.length_drop]; omega)
  rw [class_of ho hd hok hg neg hneg, if_neg (by cases neg <;> simp <;> omega)]

/-- the first k digits are the limit's -/
def sameTo (l : List UInt8) (o : Nat) (L : List UInt8) (k : Nat) : Prop := (l.drop o).take k = L.take k

theorem sameTo_step {L : List UInt8} (hB : ∀ i, B i = ((l.getD i 0).toNat : Int)) (ho : o + m = l.length) (hk : k < m) (hL : L.length = m) (h : sameTo l o L k) (he : B (o + k) = ((L.getD k 0).toNat : Int)) : sameTo l o L (k + 1) := by
  unfold sameTo at *
  rw [take_one ho hk, h, List.take_succ_eq_append_getElem (by omega)]
  congr 2
  apply uint8_ext
  have h1 := byB hB (o + k)
  rw [he] at h1
  have h2 : L.getD k 0 = L[k] := by simp [hL, hk]
  rw [h2] at h1
  omega

def lim (neg : Bool) : List UInt8 := if neg then limNeg else limPos
theorem lim_len (neg : Bool) : (lim neg).length = 19 := by cases neg <;> rfl
theorem lim_val (neg : Bool) : val 0 (lim neg) = if neg then 9223372036854775808 else 9223372036854775807 := by
  cases neg
  · exact val_limPos
  · exact val_limNeg
theorem lim_dig (neg : Bool) : (lim neg).all isDig = true := by
  cases neg
  · exact dig_limPos
  · exact dig_limNeg

theorem lim_get_class_pos : ∀ (i : Nat) (hi : i < ({ data := #[57, 50, 50, 51, 51, 55, 50, 48, 51, 54, 56, 53, 52, 55, 55, 53, 56, 48, 55] } : ByteArray).size), i < 19 →
    ((({ data := #[57, 50, 50, 51, 51, 55, 50, 48, 51, 54, 56, 53, 52, 55, 55, 53, 56, 48, 55] } : ByteArray)[i].toNat : Nat) : Int) = (((lim false).getD i 0).toNat : Int) := by
  intro i hi h
  have : i = 0 ∨ i = 1 ∨ i = 2 ∨ i = 3 ∨ i = 4 ∨ i = 5 ∨ i = 6 ∨ i = 7 ∨ i = 8 ∨ i = 9 ∨ i = 10 ∨ i = 11 ∨ i = 12 ∨ i = 13 ∨ i = 14 ∨ i = 15 ∨ i = 16 ∨ i = 17 ∨ i = 18 := by omega
  rcases this with h | h | h | h | h | h | h | h | h | h | h | h | h | h | h | h | h | h | h <;> subst h <;> rfl
theorem lim_get_class_neg : ∀ (i : Nat) (hi : i < ({ data := #[57, 50, 50, 51, 51, 55, 50, 48, 51, 54, 56, 53, 52, 55, 55, 53, 56, 48, 56] } : ByteArray).size), i < 19 →
    ((({ data := #[57, 50, 50, 51, 51, 55, 50, 48, 51, 54, 56, 53, 52, 55, 55, 53, 56, 48, 56] } : ByteArray)[i].toNat : Nat) : Int) = (((lim true).getD i 0).toNat : Int) := by
  intro i hi h
  have : i = 0 ∨ i = 1 ∨ i = 2 ∨ i = 3 ∨ i = 4 ∨ i = 5 ∨ i = 6 ∨ i = 7 ∨ i = 8 ∨ i = 9 ∨ i = 10 ∨ i = 11 ∨ i = 12 ∨ i = 13 ∨ i = 14 ∨ i = 15 ∨ i = 16 ∨ i = 17 ∨ i = 18 := by omega
  rcases this with h | h | h | h | h | h | h | h | h | h | h | h | h | h | h | h | h | h | h <;> subst h <;> rfl

theorem class_less (hB : ∀ i, B i = ((l.getD i 0).toNat : Int)) (ho : o + 19 = l.length) (hd : digitsOf l = l.drop o) (hok : okTo l o 19) (hg : badHead l = false) (neg : Bool) (hneg : decide (l.head? = some 45) = neg)
    (hk : k < 19) (hs : sameTo l o (lim neg) k) (h : B (o + k) < (((lim neg).getD k 0).toNat : Int)) : CL l = 3 := by
  have ha := dig_of ho hd hok
  rw [hd] at ha
  have hlen : (l.drop o).length = (lim neg).length := by rw [List.length_drop, lim_len]; omega
  have hv := lex_lt ha (lim_dig neg) hlen (by rw [List.length_drop]; omega) hs (by
    have h1 := byB hB (o + k)
    have h2 : (l.drop o).getD k 0 = l[o + k]?.getD 0 := by rw [List.getD_eq_getElem?_getD, List.getElem?_drop]
    rw [h2]
    omega)
  rw [lim_val] at hv
  rw [class_of ho hd hok hg neg hneg, if_pos (by omega)]

theorem class_more (hB : ∀ i, B i = ((l.getD i 0).toNat : Int)) (ho : o + 19 = l.length) (hd : digitsOf l = l.drop o) (hok : okTo l o 19) (hg : badHead l = false) (neg : Bool) (hneg : decide (l.head? = some 45) = neg)
    (hk : k < 19) (hs : sameTo l o (lim neg) k) (h : (((lim neg).getD k 0).toNat : Int) < B (o + k)) : CL l = if neg then 2 else 1 := by
  have ha := dig_of ho hd hok
  rw [hd] at ha
  have hlen : (lim neg).length = (l.drop o).length := by rw [List.length_drop, lim_len]; omega
  have hv := lex_lt (lim_dig neg) ha hlen (by rw [lim_len]; exact hk) hs.symm (by
    have h1 := byB hB (o + k)
    have h2 : (l.drop o).getD k 0 = l[o + k]?.getD 0 := by rw [List.getD_eq_getElem?_getD, List.getElem?_drop]
    rw [h2]
    omega)
  rw [lim_val] at hv
  rw [class_of ho hd hok hg neg hneg, if_neg (by omega)]

theorem class_same (ho : o + 19 = l.length) (hd : digitsOf l = l.drop o) (hok : okTo l o 19) (hg : badHead l = false) (neg : Bool) (hneg : decide (l.head? = some 45) = neg) (hs : sameTo l o (lim neg) 19) : CL l = 3 := by
  unfold sameTo at hs
  rw [List.take_of_length_le (by rw [List.length_drop]; omega), List.take_of_length_le (by rw [lim_len]; omega)] at hs
  rw [class_of ho hd hok hg neg hneg, hs, lim_val, if_pos (Nat.le_refl _)]
end

set_option maxHeartbeats 4000000 in
theorem class_pos (g m c R : Nat) (B : Nat → Int) (l : List UInt8) (w : World) (hn : m ≤ 1099511627776)
    (HB : Hid (∀ i, B i = ((l.getD i 0).toNat : Int))) (hcell : ∀ i, i < m → w.cell? ⟨g, i, none⟩ = some (.int .u8 (B i)))
    (HO : Hid (0 + m = l.length)) (hm : 1 ≤ m) (hlc : m ≤ c) (HD : Hid (digitsOf l = l.drop 0)) (HN : Hid (decide (l.head? = some 45) = false)) (HR : Hid (CL l = R))
    (h45 : (B 0 == 45) = false) :
    Calls Tryd.prog 20 #[.slice (some ⟨g, 0, none⟩) m c] w fun e w' => e = .returned (.int .i64 R) ∧ ∃ n, w' = w.drewN n := by
  have hc0 := hcell 0 (by omega)
  have hc1 : ∀ k, k < m → w.cell? ⟨g, k, none⟩ = some (.int .u8 (B k)) := fun k hk => hcell _ (by omega)
  have hpos : (0 : Int) < (m : Int) := by omega
  have hm0 : ((m : Int) == 0) = false := by rw [beq_eq_false_iff_ne]; omega
  have H1 := Lib.hid hc1
  have hc1z := hc0
  skip
  clear hc1 hcell
  go_enter Tryd.func20, Tryd.ntmps20
  go_wp2
  go_loop [2, 5] (fun _ i => ∃ k : Nat, k ≤ m ∧ i = .int .i64 k ∧ okTo l 0 k) (fun _ i => m - (intOf i).toNat)
  case atStart => exact ⟨0, by omega, rfl, okTo_zero l 0⟩
  case round =>
    obtain ⟨k, hk, rfl, hok⟩ := hrel
    by_cases hlt : k < m
    · have hck := H1.out k hlt
      by_cases h48 : 48 ≤ B k
      · by_cases h57 : B k ≤ 57
        · have hok' := step_of HB.out HO.out hlt hok (by simpa using h48) (by simpa using h57)
          go_wp2
          go_round
          case rel => first | exact ⟨k + 1, by omega, by go_num, hok'⟩ | exact ⟨_, _, ⟨k + 1, by omega, rfl, hok'⟩, rfl, by go_num⟩
          case measure => simp [intOf]; omega
        · have h57' : 57 < B k := by omega
          have HZ := Lib.hid (none_of HB.out HO.out hlt HD.out (.inr (by simpa using h57')))
          go_wp2
          go_ret
          exact ⟨by rw [← HR.out, HZ.out]; rfl, 0, rfl⟩
      · have h48' : B k < 48 := by omega
        have HZ := Lib.hid (none_of HB.out HO.out hlt HD.out (.inl (by simpa using h48')))
        go_wp2
        go_ret
        exact ⟨by rw [← HR.out, HZ.out]; rfl, 0, rfl⟩
    · have hek : k = m := by omega
      subst hek
      have HK := Lib.hid hok
      clear hok
      by_cases hz : B 0 = 48
      · have hz' : (B 0 == 48) = true := by simpa using hz
        by_cases h1 : 1 < k
        · have HZ := Lib.hid (zero_of HB.out HO.out hm HD.out hz (.inr h1))
          clear hz
          go_wp2
          go_ret
          exact ⟨by rw [← HR.out, HZ.out]; rfl, 0, rfl⟩
        · have HG := Lib.hid (fine_of HB.out HO.out hm HD.out (.inr ⟨by have := HO.out; omega, h1⟩))
          have hk1 : k < 19 := by omega
          have hd1 : decide ((1 : Int) < (k : Int)) = false := by rw [decide_eq_false_iff_not]; omega
          have HZ := Lib.hid (class_short HO.out HD.out HK.out HG.out false HN.out hk1)
          clear hz
          have hne : ((k : Int) != 19) = true := by rw [bne_iff_ne]; omega
          go_wp2
          go_ret
          exact ⟨by rw [← HR.out, HZ.out]; rfl, 0, rfl⟩
      · have hz' : (B 0 == 48) = false := by simpa using hz
        have HG := Lib.hid (fine_of HB.out HO.out hm HD.out (.inl hz))
        have HZ := Lib.hid hz
        clear hz
        by_cases hs : k < 19
        · have HC := Lib.hid (class_short HO.out HD.out HK.out HG.out false HN.out hs)
          have hne : ((k : Int) != 19) = true := by rw [bne_iff_ne]; omega
          go_wp2
          go_ret
          exact ⟨by rw [← HR.out, HC.out]; rfl, 0, rfl⟩
        · by_cases hg : 19 < k
          · have HC := Lib.hid (class_long HB.out HO.out HD.out HK.out HG.out false HN.out HZ.out hg)
            have hne : ((k : Int) != 19) = true := by rw [bne_iff_ne]; omega
            go_wp2
            go_ret
            exact ⟨by rw [← HR.out, HC.out]; rfl, 0, rfl⟩
          · have he : k = 19 := by omega
            subst he
            obtain ⟨Lf, HL⟩ : ∃ Lf : Nat → Int, Hid (∀ i, Lf i = (((lim false).getD i 0).toNat : Int)) := ⟨_, fun _ => rfl⟩
            go_wp2
            obtain ⟨S, hS⟩ : ∃ S : ByteArray, S = { data := #[57, 50, 50, 51, 51, 55, 50, 48, 51, 54, 56, 53, 52, 55, 55, 53, 56, 48, 55] } := ⟨_, rfl⟩
            rw [← hS]
            have sS : S.size = 19 := by rw [hS]; rfl
            have HSk : Hid (∀ i (hi : i < S.size), ((S[i].toNat : Nat) : Int) = Lf i) := by
              intro i hi
              rw [HL.out i]
              subst hS
              have h19 : i < 19 := hi
              revert hi h19
              exact lim_get_class_pos i
            clear hS
            go_loopw [2, 8] (fun _ i W => ∃ k : Nat, k ≤ 19 ∧ i = .int .i64 k ∧ sameTo l 0 (lim false) k ∧ ∃ n, W = w.drewN n) (fun _ i _ => 19 - (intOf i).toNat)
            case atStart => exact ⟨0, by omega, rfl, rfl, 0, rfl⟩
            case round =>
              obtain ⟨k, hk, rfl, hsame, n, rfl⟩ := hrel
              by_cases hlt : k < 19
              · have hck := H1.out k hlt
                have hkk : (k : Int) < 19 := by omega
                have hSk := HSk.out k (by omega)
                by_cases heq : B k = Lf k
                · have heq' : (B k != Lf k) = false := by rw [heq]; simp
                  have hs' := sameTo_step HB.out HO.out hlt (lim_len false) hsame (by rw [← HL.out k]; simpa using heq)
                  clear heq
                  go_wp2
                  go_quiet (fail)
                  go_wp2
                  go_roundw
                  case rel => first | exact ⟨k + 1, by omega, by go_num, hs', _, rfl⟩ | exact ⟨_, _, ⟨k + 1, by omega, rfl, hs', _, rfl⟩, rfl, by go_num⟩
                  case measure => simp [intOf]; omega
                · have heq' : (B k != Lf k) = true := by simpa using heq
                  by_cases hls : B k < Lf k
                  · have HC := Lib.hid (class_less HB.out HO.out HD.out HK.out HG.out false HN.out hlt hsame (by rw [← HL.out k]; simpa using hls))
                    clear heq
                    go_wp2
                    go_quiet (fail)
                    go_wp2
                    go_quiet (fail)
                    go_wp2
                    go_ret
                    exact ⟨by rw [← HR.out, HC.out]; rfl, _, drew3 w _ _ _⟩
                  · have HC := Lib.hid (class_more HB.out HO.out HD.out HK.out HG.out false HN.out hlt hsame (by rw [← HL.out k]; rw [Nat.zero_add]; omega))
                    clear heq
                    go_wp2
                    go_quiet (fail)
                    go_wp2
                    go_quiet (fail)
                    go_wp2
                    go_ret
                    exact ⟨by rw [← HR.out, HC.out]; rfl, _, drew3 w _ _ _⟩
              · have hek : k = 19 := by omega
                subst hek
                have HC := Lib.hid (class_same HO.out HD.out HK.out HG.out false HN.out hsame)
                go_wp2
                go_ret
                exact ⟨by rw [← HR.out, HC.out]; rfl, n, rfl⟩

set_option maxHeartbeats 4000000 in
theorem class_neg (g m c R : Nat) (B : Nat → Int) (l : List UInt8) (w : World) (hn : m ≤ 1099511627776)
    (HB : Hid (∀ i, B i = ((l.getD i 0).toNat : Int))) (hcell : ∀ i, i < (m + 1) → w.cell? ⟨g, i, none⟩ = some (.int .u8 (B i)))
    (HO : Hid (1 + m = l.length)) (hm : 1 ≤ m) (hlc : (m + 1) ≤ c) (HD : Hid (digitsOf l = l.drop 1)) (HN : Hid (decide (l.head? = some 45) = true)) (HR : Hid (CL l = R))
    (h45 : (B 0 == 45) = true) :
    Calls Tryd.prog 20 #[.slice (some ⟨g, 0, none⟩) (m + 1) c] w fun e w' => e = .returned (.int .i64 R) ∧ ∃ n, w' = w.drewN n := by
  have hc0 := hcell 0 (by omega)
  have hc1 : ∀ k, k < m → w.cell? ⟨g, 1 + k, none⟩ = some (.int .u8 (B (1 + k))) := fun k hk => hcell _ (by omega)
  have hcc : ¬ c = 1 := by omega
  have hm0 : ((m : Int) == 0) = false := by rw [beq_eq_false_iff_ne]; omega
  have H1 := Lib.hid hc1
  have hc1z := hc1 0 (by omega)
  simp only [Nat.add_zero] at hc1z
  clear hc1 hcell
  go_enter Tryd.func20, Tryd.ntmps20
  go_wp2
  go_loop [2, 5] (fun _ i => ∃ k : Nat, k ≤ m ∧ i = .int .i64 k ∧ okTo l 1 k) (fun _ i => m - (intOf i).toNat)
  case atStart => exact ⟨0, by omega, rfl, okTo_zero l 1⟩
  case round =>
    obtain ⟨k, hk, rfl, hok⟩ := hrel
    by_cases hlt : k < m
    · have hck := H1.out k hlt
      by_cases h48 : 48 ≤ B (1 + k)
      · by_cases h57 : B (1 + k) ≤ 57
        · have hok' := step_of HB.out HO.out hlt hok h48 h57
          go_wp2
          go_round
          case rel => first | exact ⟨k + 1, by omega, by go_num, hok'⟩ | exact ⟨_, _, ⟨k + 1, by omega, rfl, hok'⟩, rfl, by go_num⟩
          case measure => simp [intOf]; omega
        · have h57' : 57 < B (1 + k) := by omega
          have HZ := Lib.hid (none_of HB.out HO.out hlt HD.out (.inr h57'))
          go_wp2
          go_ret
          exact ⟨by rw [← HR.out, HZ.out]; rfl, 0, rfl⟩
      · have h48' : B (1 + k) < 48 := by omega
        have HZ := Lib.hid (none_of HB.out HO.out hlt HD.out (.inl h48'))
        go_wp2
        go_ret
        exact ⟨by rw [← HR.out, HZ.out]; rfl, 0, rfl⟩
    · have hek : k = m := by omega
      subst hek
      have HK := Lib.hid hok
      clear hok
      by_cases hz : B 1 = 48
      · have hz' : (B 1 == 48) = true := by simpa using hz
        have HZ := Lib.hid (zero_of HB.out HO.out hm HD.out hz (.inl (by have := HO.out; omega)))
        clear hz
        go_wp2
        go_ret
        exact ⟨by rw [← HR.out, HZ.out]; rfl, 0, rfl⟩
      · have hz' : (B 1 == 48) = false := by simpa using hz
        have HG := Lib.hid (fine_of HB.out HO.out hm HD.out (.inl hz))
        have HZ := Lib.hid hz
        clear hz
        by_cases hs : k < 19
        · have HC := Lib.hid (class_short HO.out HD.out HK.out HG.out true HN.out hs)
          have hne : ((k : Int) != 19) = true := by rw [bne_iff_ne]; omega
          go_wp2
          go_ret
          exact ⟨by rw [← HR.out, HC.out]; rfl, 0, rfl⟩
        · by_cases hg : 19 < k
          · have HC := Lib.hid (class_long HB.out HO.out HD.out HK.out HG.out true HN.out HZ.out hg)
            have hne : ((k : Int) != 19) = true := by rw [bne_iff_ne]; omega
            go_wp2
            go_ret
            exact ⟨by rw [← HR.out, HC.out]; rfl, 0, rfl⟩
          · have he : k = 19 := by omega
            subst he
            obtain ⟨Lf, HL⟩ : ∃ Lf : Nat → Int, Hid (∀ i, Lf i = (((lim true).getD i 0).toNat : Int)) := ⟨_, fun _ => rfl⟩
            go_wp2
            obtain ⟨S, hS⟩ : ∃ S : ByteArray, S = { data := #[57, 50, 50, 51, 51, 55, 50, 48, 51, 54, 56, 53, 52, 55, 55, 53, 56, 48, 56] } := ⟨_, rfl⟩
            rw [← hS]
            have sS : S.size = 19 := by rw [hS]; rfl
            have HSk : Hid (∀ i (hi : i < S.size), ((S[i].toNat : Nat) : Int) = Lf i) := by
              intro i hi
              rw [HL.out i]
              subst hS
              have h19 : i < 19 := hi
              revert hi h19
              exact lim_get_class_neg i
            clear hS
            go_loopw [2, 8] (fun _ i W => ∃ k : Nat, k ≤ 19 ∧ i = .int .i64 k ∧ sameTo l 1 (lim true) k ∧ ∃ n, W = w.drewN n) (fun _ i _ => 19 - (intOf i).toNat)
            case atStart => exact ⟨0, by omega, rfl, rfl, 0, rfl⟩
            case round =>
              obtain ⟨k, hk, rfl, hsame, n, rfl⟩ := hrel
              by_cases hlt : k < 19
              · have hck := H1.out k hlt
                have hkk : (k : Int) < 19 := by omega
                have hSk := HSk.out k (by omega)
                by_cases heq : B (1 + k) = Lf k
                · have heq' : (B (1 + k) != Lf k) = false := by rw [heq]; simp
                  have hs' := sameTo_step HB.out HO.out hlt (lim_len true) hsame (by rw [← HL.out k]; exact heq)
                  clear heq
                  go_wp2
                  go_quiet (fail)
                  go_wp2
                  go_roundw
                  case rel => first | exact ⟨k + 1, by omega, by go_num, hs', _, rfl⟩ | exact ⟨_, _, ⟨k + 1, by omega, rfl, hs', _, rfl⟩, rfl, by go_num⟩
                  case measure => simp [intOf]; omega
                · have heq' : (B (1 + k) != Lf k) = true := by simpa using heq
                  by_cases hls : B (1 + k) < Lf k
                  · have HC := Lib.hid (class_less HB.out HO.out HD.out HK.out HG.out true HN.out hlt hsame (by rw [← HL.out k]; exact hls))
                    clear heq
                    go_wp2
                    go_quiet (fail)
                    go_wp2
                    go_quiet (fail)
                    go_wp2
                    go_ret
                    exact ⟨by rw [← HR.out, HC.out]; rfl, _, drew3 w _ _ _⟩
                  · have HC := Lib.hid (class_more HB.out HO.out HD.out HK.out HG.out true HN.out hlt hsame (by rw [← HL.out k]; omega))
                    clear heq
                    go_wp2
                    go_quiet (fail)
                    go_wp2
                    go_quiet (fail)
                    go_wp2
                    go_ret
                    exact ⟨by rw [← HR.out, HC.out]; rfl, _, drew3 w _ _ _⟩
              · have hek : k = 19 := by omega
                subst hek
                have HC := Lib.hid (class_same HO.out HD.out HK.out HG.out true HN.out hsame)
                go_wp2
                go_ret
                exact ⟨by rw [← HR.out, HC.out]; rfl, n, rfl⟩
/-- zzClass: THE CONTRACT. -/
theorem klass (g c : Nat) (l : List UInt8) (w : World) (hn : l.length ≤ 1048576) (hlc : l.length ≤ c)
    (hcell : ∀ i, i < l.length → w.cell? ⟨g, i, none⟩ = some (.int .u8 (l.getD i 0).toNat)) :
    Calls Tryd.prog 20 #[.slice (some ⟨g, 0, none⟩) l.length c] w fun e w' => e = .returned (.int .i64 (CL l : Nat)) ∧ ∃ n, w' = w.drewN n := by
  cases l with
  | nil => exact class_empty _ c w
  | cons a r =>
    by_cases h45 : a.toNat = 45
    · have ha : a = 45 := uint8_ext h45
      by_cases hr : r = []
      · subst hr ha
        exact class_dash g c w (hcell 0 (by simp)) hlc
      · have hr1 : 1 ≤ r.length := by
          cases r with
          | nil => exact absurd rfl hr
          | cons _ _ => simp
        rw [List.length_cons] at hn hlc
        refine class_neg g r.length c (CL (a :: r)) (fun i => (((a :: r).getD i 0).toNat : Int)) (a :: r) w (by omega) (fun _ => rfl) (fun i hi => hcell i (by simpa using hi)) ?_ hr1 hlc ?_ ?_ rfl ?_
        · show 1 + r.length = (a :: r).length
          rw [List.length_cons]; omega
        · show digitsOf (a :: r) = _
          rw [digitsOf, if_pos h45]
          rfl
        · show decide ((a :: r).head? = some 45) = true
          simp [ha]
        · simp [h45]
    · refine class_pos g (a :: r).length c (CL (a :: r)) (fun i => (((a :: r).getD i 0).toNat : Int)) (a :: r) w (by omega) (fun _ => rfl) hcell ?_ (by simp) hlc ?_ ?_ rfl ?_
      · show 0 + (a :: r).length = (a :: r).length
        omega
      · show digitsOf (a :: r) = _
        rw [digitsOf, if_neg h45]
        rfl
      · show decide ((a :: r).head? = some 45) = false
        rw [decide_eq_false_iff_not]
        intro e
        simp at e
        subst e
        exact h45 rfl
      · simp only [List.getD_cons_zero, beq_eq_false_iff_ne]
        omega
end Go.Proofs.Qxb6600527aDoor.cls
