/-
  'ParseInteger(b)': the walk: it answers 'pl.PI' of the bytes.
-/
import Derived.Test.Qxb6600527aDoorRows
import Derived.Test.Qxb6600527aDoorShelf
import Derived.Test.Qxb6600527aDoorPlain
import Derived.WalkKit
import Derived.ProofKit
import Derived.OpenShut
import Derived.ShutString
import Derived.WalkSpells
import Derived.WalkLawsBesides
import Derived.Deep.QuietTactic
import Derived.BigQuiet
import Derived.Lib.UnsafeStr
import Derived.Laws.IdiomStrings
import Derived.Lib.SlBytesConst
import Derived.Lib.SmallJoins
namespace Go.Proofs.Qxb6600527aDoor.pin
open Go.ChangeShapes Go.WideShapes Go.ChangeAt Go.RowKit
open pl

theorem gER : Tryd.prog.globalNamed "strconv.ErrRange" = some 1 := by kernel_rfl

theorem bad_of {l : List UInt8} {o m : Nat} (ho : o + m = l.length) (hd : digitsOf l = l.drop o) (hm : 1 ≤ m) (h0 : ((l[o]?.getD 0).toNat : Int) = 48) (h : m < l.length ∨ 1 < m) : badHead l = true := by
  have hlen : (digitsOf l).length = m := by rw [hd, List.length_drop]; omega
  have hlo : o < l.length := by omega
  have hh : (digitsOf l).head? = some l[o] := by rw [hd, List.head?_drop, List.getElem?_eq_getElem hlo]
  rw [List.getElem?_eq_getElem hlo, Option.getD_some] at h0
  have h48 : l[o].toNat = 48 := by omega
  unfold badHead
  rw [hh, hlen]
  simp [h48, h]

theorem good_of {l : List UInt8} {o m : Nat} (ho : o + m = l.length) (hd : digitsOf l = l.drop o) (hm : 1 ≤ m) (h : ¬ ((l[o]?.getD 0).toNat : Int) = 48 ∨ (¬ m < l.length ∧ ¬ 1 < m)) : badHead l = false := by
  have hlen : (digitsOf l).length = m := by rw [hd, List.length_drop]; omega
  have hlo : o < l.length := by omega
  have hh : (digitsOf l).head? = some l[o] := by rw [hd, List.head?_drop, List.getElem?_eq_getElem hlo]
  rw [List.getElem?_eq_getElem hlo] at h
  have he : (digitsOf l).isEmpty = false := by
    cases hx : digitsOf l with
    | nil => rw [hx] at hlen; simp at hlen; omega
    | cons a r => rfl
  unfold badHead
  rw [hh, hlen, he]
  rcases h with h | h
  · have : ¬ l[o].toNat = 48 := by intro e; apply h; simp [e]
    simp [this]
  · simp [h.1, h.2]

/-- the first k digits are digits -/
def okTo (l : List UInt8) (o k : Nat) : Prop := ((l.drop o).take k).all isDig = true
theorem okTo_zero (l : List UInt8) (o : Nat) : okTo l o 0 := by simp [okTo]
theorem take_one {l : List UInt8} {o m k : Nat} (ho : o + m = l.length) (hk : k < m) : (l.drop o).take (k + 1) = (l.drop o).take k ++ [(l[o + k]?).getD 0] := by
  rw [List.take_succ_eq_append_getElem (by rw [List.length_drop]; omega), List.getElem_drop, List.getElem?_eq_getElem (by omega), Option.getD_some]
theorem okTo_step {l : List UInt8} {o m k : Nat} (ho : o + m = l.length) (hk : k < m) (h : okTo l o k) (h1 : (48 : Int) ≤ ((l[o + k]?.getD 0).toNat : Int)) (h2 : ((l[o + k]?.getD 0).toNat : Int) ≤ 57) : okTo l o (k + 1) := by
  unfold okTo at *
  rw [take_one ho hk, List.all_append, h]
  simp [isDig]
  omega
theorem nodig_of {l : List UInt8} {o m k : Nat} (ho : o + m = l.length) (hk : k < m) (hd : digitsOf l = l.drop o) (h : ((l[o + k]?.getD 0).toNat : Int) < 48 ∨ 57 < ((l[o + k]?.getD 0).toNat : Int)) : (digitsOf l).all isDig = false := by
  rw [hd, List.all_eq_false]
  refine ⟨l[o + k], List.mem_drop_iff_getElem.2 ⟨k, by omega, rfl⟩, ?_⟩
  rw [List.getElem?_eq_getElem (by omega), Option.getD_some] at h
  simp [isDig]
  omega
theorem dig_of {l : List UInt8} {o m : Nat} (ho : o + m = l.length) (hd : digitsOf l = l.drop o) (h : okTo l o m) : (digitsOf l).all isDig = true := by
  unfold okTo at h
  rw [List.take_of_length_le (by rw [List.length_drop]; omega)] at h
  rw [hd, h]

set_option maxHeartbeats 1000000 in
theorem core (b o m c c' : Nat) (l : List UInt8) (w : World) (hb : b < w.heap.size) (hn : l.length ≤ 1099511627776) (hglob : 2 ≤ w.heap.size)
    (hcell : ∀ i, i < l.length → w.cell? ⟨b, i, none⟩ = some (.int .u8 (l.getD i 0).toNat))
    (HO : Hid (o + m = l.length)) (_ho1 : o ≤ 1) (hm : 1 ≤ m) (hmn : m ≤ l.length) (HD : Hid (digitsOf l = l.drop o))
    (HV : Hid (∃ tp p, w.var? Tryd.prog "strconv.ErrRange" = some #[.iface tp p]))
    (HT : Hid (Calls Tryd.prog 21 #[.slice (some ⟨b, 0, none⟩) l.length c, .slice (some ⟨w.heap.size, 0, none⟩) 1 1] (w.alloc (.cells #[.int .u8 45] 5 (1, 2))) fun e w' => e = .returned (.slice (some ⟨b, o, none⟩) m c') ∧ w' = w.alloc (.cells #[.int .u8 45] 5 (1, 2)))) :
    Calls Tryd.prog 8 #[.slice (some ⟨b, 0, none⟩) l.length c] w fun e w' => e = .returned (.tuple #[.int .i64 (PI l).1, .bool (PI l).2]) ∧ Below w.heap.size w w' := by
  have hB : Below w.heap.size w (w.alloc (.cells #[.int .u8 45] 5 (1, 2))) := (Below.refl _ _).alloc (Nat.le_refl _) _
  have hc1 : ∀ k, k < m → (w.alloc (.cells #[.int .u8 45] 5 (1, 2))).cell? ⟨b, o + k, none⟩ = some (.int .u8 ((l.drop o).getD k 0).toNat) := by
    intro k hk
    rw [hB.cell (by exact hb), hcell _ (by have := HO.out; omega)]
    simp
  have hc0 := hc1 0 hm
  rw [Nat.add_zero] at hc0
  have hcv := run_convert_bytes_back (P := Tryd.prog) (w.alloc (.cells #[.int .u8 45] 5 (1, 2))) 24 9 5 ⟨b, 0, none⟩ c l Tryd.underlying24 Tryd.underlying5 Tryd.underlying9 (fun j hj => by
    rw [show (⟨b, 0, none⟩ : Addr).add j = ⟨b, j, none⟩ from by unfold Addr.add; split <;> simp_all, hB.cell (by exact hb), hcell j hj]; simp [hj])
  have kc := Lib.run_convert_bytes_const (P := Tryd.prog) w 24 5 #[.int .u8 45] 1 1 Tryd.underlying24 Tryd.underlying5
  by_cases hd0 : ((l[o]?.getD 0).toNat : Int) = 48
  · by_cases hlt : m < l.length
    · have R := PI_bad (bad_of HO.out HD.out hm (by omega) (.inl hlt))
      have HR := Lib.hid R
      clear R
      go_enter Tryd.func8, Tryd.ntmps8
      go_wp2_with (go_at_call 21; refine HT.out.mono ?_; rintro e w' ⟨rfl, rfl⟩)
      go_ret2
      exact ⟨by rw [HR.out]; rfl, hB⟩
    · by_cases h1 : 1 < m
      · have R := PI_bad (bad_of HO.out HD.out hm (by omega) (.inr h1))
        have HR := Lib.hid R
        clear R
        go_enter Tryd.func8, Tryd.ntmps8
        go_wp2_with (go_at_call 21; refine HT.out.mono ?_; rintro e w' ⟨rfl, rfl⟩)
        go_ret2
        exact ⟨by rw [HR.out]; rfl, hB⟩
      · have HG := Lib.hid (good_of HO.out HD.out hm (.inr ⟨hlt, h1⟩))
        have e0 : ((m : Int) == 0) = false := by rw [beq_eq_false_iff_ne]; omega
        have e1 : decide (m < l.length) = false := by simpa using hlt
        have e2 : decide ((1 : Int) < (m : Int)) = false := by rw [decide_eq_false_iff_not]; omega
        go_enter Tryd.func8, Tryd.ntmps8
        go_wp2_with (go_at_call 21; refine HT.out.mono ?_; rintro e w' ⟨rfl, rfl⟩)
        go_loop [2, 3, 7, 38] (fun _ _ _ i => ∃ k : Nat, k ≤ m ∧ i = .int .i64 k ∧ okTo l o k) (fun _ _ _ i => m - (intOf i).toNat)
        case atStart => exact ⟨0, by omega, rfl, okTo_zero l o⟩
        case round =>
          obtain ⟨k, hk, rfl, hok⟩ := hrel
          by_cases hlt : k < m
          · have hck := hc1 k hlt
            by_cases h48 : (48 : Int) ≤ ((l[o + k]?.getD 0).toNat : Int)
            · by_cases h57 : ((l[o + k]?.getD 0).toNat : Int) ≤ 57
              · have hok' := okTo_step HO.out hlt hok h48 h57
                go_wp2
                go_round
                case rel => first | exact ⟨k + 1, by omega, by go_num, hok'⟩ | exact ⟨_, _, _, _, ⟨k + 1, by omega, rfl, hok'⟩, rfl, rfl, rfl, by go_num⟩
                case measure => simp [intOf]; omega
              · have h57' : (57 : Int) < ((l[o + k]?.getD 0).toNat : Int) := by omega
                have HR := Lib.hid (PI_nodig HG.out (nodig_of HO.out hlt HD.out (.inr h57')))
                go_wp2
                go_ret2
                exact ⟨by rw [HR.out]; rfl, hB⟩
            · have h48' : ((l[o + k]?.getD 0).toNat : Int) < 48 := by omega
              have HR := Lib.hid (PI_nodig HG.out (nodig_of HO.out hlt HD.out (.inl h48')))
              go_wp2
              go_ret2
              exact ⟨by rw [HR.out]; rfl, hB⟩
          · have hek : k = m := by omega
            subst hek
            have HA := Lib.hid (dig_of HO.out HD.out hok)
            clear hok
            have hsz : (ByteArray.mk l.toArray).size ≤ 9223372036854775806 := by show l.toArray.size ≤ _; simp; omega
            have hsz2 : (ByteArray.mk l.toArray).size ≤ 281474976710656 := by show l.toArray.size ≤ _; simp; omega
            cases hp : Lib.parseIntB 64 l with
            | ok v =>
              have HP := Lib.hid hp
              have HR := Lib.hid (PI_ok HG.out HA.out hp)
              clear hp
              go_wp2_with (go_at_call 22; refine (Tryd.strconv_ParseInt_10_at64_ok ⟨l.toArray⟩ hsz v HP.out _).mono ?_; rintro e w' ⟨rfl, hw'⟩; refine Hid.out ?_)
              refine Lib.hid ?_
              have hB2 : Below w.heap.size w w' := by
                rcases hw' with rfl | ⟨t, rfl⟩
                · exact hB
                · exact hB.trans (Joins.below_bytesWorld _ _ _ _ (by simp))
              clear hw' hcv kc
              go_wp2
              go_quiet (fail)
              go_wp2
              go_ret2
              exact ⟨by rw [HR.out]; rfl, below_drewN hB2 _⟩
            | range =>
              obtain ⟨tp, p, hv⟩ := HV.out
              have HP := Lib.hid hp
              have HR := Lib.hid (PI_range HG.out HA.out hp)
              have hvar : (w.alloc (.cells #[.int .u8 45] 5 (1, 2))).var? Tryd.prog "strconv.ErrRange" = some #[.iface tp p] := var?_below (hB) gER (by have := hglob; omega) hv
              have HVR := Lib.hid hvar
              clear hp hv hvar
              go_wp2_with (go_at_call 22; refine (Tryd.strconv_ParseInt_10_at64_range_var ⟨l.toArray⟩ hsz2 HP.out tp p _ HVR.out).mono ?_; rintro e w' ⟨N, rfl, hN, -, hbel⟩; refine Hid.out ?_)
              refine Lib.hid ?_
              have hB2 : Below w.heap.size w w' := hB.trans (hbel.mono (by simp))
              clear hbel hN hcv kc
              go_wp2
              go_quiet (fail)
              go_wp2
              go_ret2
              exact ⟨by rw [HR.out]; rfl, below_drewN hB2 _⟩
            | _ => exact absurd hp (no_syntax HG.out HA.out)
  
  · have HG := Lib.hid (good_of HO.out HD.out hm (.inl hd0))
    go_enter Tryd.func8, Tryd.ntmps8
    go_wp2_with (go_at_call 21; refine HT.out.mono ?_; rintro e w' ⟨rfl, rfl⟩)
    go_loop [2, 3, 7, 38] (fun _ _ _ i => ∃ k : Nat, k ≤ m ∧ i = .int .i64 k ∧ okTo l o k) (fun _ _ _ i => m - (intOf i).toNat)
    case atStart => exact ⟨0, by omega, rfl, okTo_zero l o⟩
    case round =>
      obtain ⟨k, hk, rfl, hok⟩ := hrel
      by_cases hlt : k < m
      · have hck := hc1 k hlt
        by_cases h48 : (48 : Int) ≤ ((l[o + k]?.getD 0).toNat : Int)
        · by_cases h57 : ((l[o + k]?.getD 0).toNat : Int) ≤ 57
          · have hok' := okTo_step HO.out hlt hok h48 h57
            go_wp2
            go_round
            case rel => first | exact ⟨k + 1, by omega, by go_num, hok'⟩ | exact ⟨_, _, _, _, ⟨k + 1, by omega, rfl, hok'⟩, rfl, rfl, rfl, by go_num⟩
            case measure => simp [intOf]; omega
          · have h57' : (57 : Int) < ((l[o + k]?.getD 0).toNat : Int) := by omega
            have HR := Lib.hid (PI_nodig HG.out (nodig_of HO.out hlt HD.out (.inr h57')))
            go_wp2
            go_ret2
            exact ⟨by rw [HR.out]; rfl, hB⟩
        · have h48' : ((l[o + k]?.getD 0).toNat : Int) < 48 := by omega
          have HR := Lib.hid (PI_nodig HG.out (nodig_of HO.out hlt HD.out (.inl h48')))
          go_wp2
          go_ret2
          exact ⟨by rw [HR.out]; rfl, hB⟩
      · have hek : k = m := by omega
        subst hek
        have HA := Lib.hid (dig_of HO.out HD.out hok)
        clear hok
        have hsz : (ByteArray.mk l.toArray).size ≤ 9223372036854775806 := by show l.toArray.size ≤ _; simp; omega
        have hsz2 : (ByteArray.mk l.toArray).size ≤ 281474976710656 := by show l.toArray.size ≤ _; simp; omega
        cases hp : Lib.parseIntB 64 l with
        | ok v =>
          have HP := Lib.hid hp
          have HR := Lib.hid (PI_ok HG.out HA.out hp)
          clear hp
          go_wp2_with (go_at_call 22; refine (Tryd.strconv_ParseInt_10_at64_ok ⟨l.toArray⟩ hsz v HP.out _).mono ?_; rintro e w' ⟨rfl, hw'⟩; refine Hid.out ?_)
          refine Lib.hid ?_
          have hB2 : Below w.heap.size w w' := by
            rcases hw' with rfl | ⟨t, rfl⟩
            · exact hB
            · exact hB.trans (Joins.below_bytesWorld _ _ _ _ (by simp))
          clear hw' hcv kc
          go_wp2
          go_quiet (fail)
          go_wp2
          go_ret2
          exact ⟨by rw [HR.out]; rfl, below_drewN hB2 _⟩
        | range =>
          obtain ⟨tp, p, hv⟩ := HV.out
          have HP := Lib.hid hp
          have HR := Lib.hid (PI_range HG.out HA.out hp)
          have hvar : (w.alloc (.cells #[.int .u8 45] 5 (1, 2))).var? Tryd.prog "strconv.ErrRange" = some #[.iface tp p] := var?_below (hB) gER (by have := hglob; omega) hv
          have HVR := Lib.hid hvar
          clear hp hv hvar
          go_wp2_with (go_at_call 22; refine (Tryd.strconv_ParseInt_10_at64_range_var ⟨l.toArray⟩ hsz2 HP.out tp p _ HVR.out).mono ?_; rintro e w' ⟨N, rfl, hN, -, hbel⟩; refine Hid.out ?_)
          refine Lib.hid ?_
          have hB2 : Below w.heap.size w w' := hB.trans (hbel.mono (by simp))
          clear hbel hN hcv kc
          go_wp2
          go_quiet (fail)
          go_wp2
          go_ret2
          exact ⟨by rw [HR.out]; rfl, below_drewN hB2 _⟩
        | _ => exact absurd hp (no_syntax HG.out HA.out)

theorem bytesOf_nums (l : List UInt8) : Lib.bytesOf (l.map fun c => (c.toNat : Int)) = l := by
  unfold Lib.bytesOf
  rw [List.map_map]
  conv => rhs; rw [← List.map_id l]
  refine List.map_congr_left fun c _ => ?_
  simp

/-- bytes.TrimPrefix(b, []byte("-")), in the world behind the literal -/
theorem trim (b c : Nat) (l : List UInt8) (w : World) (hb : b < w.heap.size) (hnc : l.length ≤ c)
    (hcell : ∀ i, i < l.length → w.cell? ⟨b, i, none⟩ = some (.int .u8 (l.getD i 0).toNat)) :
    Calls Tryd.prog 21 #[.slice (some ⟨b, 0, none⟩) l.length c, .slice (some ⟨w.heap.size, 0, none⟩) 1 1] (w.alloc (.cells #[.int .u8 45] 5 (1, 2))) fun e w' =>
      e = .returned (if l.head? = some 45 then Lib.sliceFrom b 0 l.length c 1 else .slice (some ⟨b, 0, none⟩) l.length c) ∧ w' = w.alloc (.cells #[.int .u8 45] 5 (1, 2)) := by
  have hB : Below w.heap.size w (w.alloc (.cells #[.int .u8 45] 5 (1, 2))) := (Below.refl _ _).alloc (Nat.le_refl _) _
  refine (Tryd.bytes_TrimPrefix b 0 l.length c w.heap.size 0 1 1 (l.map fun c => (c.toNat : Int)) [45] _ (by simp) rfl hnc ?_ ?_).mono ?_
  · intro i hi
    rw [hB.cell (by exact hb), Nat.zero_add, hcell i hi]
    simp [hi]
  · intro i hi
    obtain rfl : i = 0 := by omega
    rw [World.cell?_alloc_mark]
    rfl
  · rintro e w' ⟨rfl, rfl⟩
    refine ⟨?_, rfl⟩
    have e1 : Lib.bytesOf [45] = [45] := by decide
    unfold Lib.bytesTrimPrefix
    rw [bytesOf_nums, e1]
    have e2 : Lib.hasPrefix l [45] = decide (l.head? = some 45) := by
      unfold Lib.hasPrefix
      cases l with
      | nil => rfl
      | cons a r =>
        simp only [List.isPrefixOf, Bool.and_true, List.head?_cons, Option.some.injEq]
        rw [Bool.eq_iff_iff]
        simp
        exact eq_comm
    rw [e2]
    by_cases h : l.head? = some 45
    · rw [if_pos h, if_pos (by simpa using h)]
      rfl
    · rw [if_neg h, if_neg (by simpa using h)]

/-- ParseInteger of an empty text, nil or not -/
theorem parse_empty (p1 : Option Addr) (c : Nat) (w : World) :
    Calls Tryd.prog 8 #[.slice p1 0 c] w fun e w' => e = .returned (.tuple #[.int .i64 0, .bool false]) ∧ Below w.heap.size w w' := by
  have hB : Below w.heap.size w (w.alloc (.cells #[.int .u8 45] 5 (1, 2))) := (Below.refl _ _).alloc (Nat.le_refl _) _
  have kc := Lib.run_convert_bytes_const (P := Tryd.prog) w 24 5 #[.int .u8 45] 1 1 Tryd.underlying24 Tryd.underlying5
  go_enter Tryd.func8, Tryd.ntmps8
  go_wp2_with (go_at_call 21; refine (Tryd.bytes_TrimPrefix_e1 p1 _ c 1 1 (by decide) _).mono ?_; rintro e w' ⟨rfl, rfl⟩)
  go_ret2
  exact ⟨rfl, hB⟩

/-- ParseInteger of the text "-" -/
theorem parse_dash (b c : Nat) (w : World) (hb : b < w.heap.size) (hnc : 1 ≤ c) (hcell : w.cell? ⟨b, 0, none⟩ = some (.int .u8 45)) :
    Calls Tryd.prog 8 #[.slice (some ⟨b, 0, none⟩) 1 c] w fun e w' => e = .returned (.tuple #[.int .i64 0, .bool false]) ∧ Below w.heap.size w w' := by
  have hB : Below w.heap.size w (w.alloc (.cells #[.int .u8 45] 5 (1, 2))) := (Below.refl _ _).alloc (Nat.le_refl _) _
  have kc := Lib.run_convert_bytes_const (P := Tryd.prog) w 24 5 #[.int .u8 45] 1 1 Tryd.underlying24 Tryd.underlying5
  have HT := trim b c [45] w hb hnc (by intro i hi; obtain rfl : i = 0 := by simpa using hi
                                        exact hcell)
  obtain ⟨p1, c1, hp1⟩ : ∃ p1 c1, (if ([45] : List UInt8).head? = some 45 then Lib.sliceFrom b 0 ([45] : List UInt8).length c 1 else .slice (some ⟨b, 0, none⟩) ([45] : List UInt8).length c) = Value.slice p1 0 c1 := ⟨_, _, rfl⟩
  rw [hp1, List.length_singleton] at HT
  have HT' := Lib.hid HT
  clear HT hp1
  go_enter Tryd.func8, Tryd.ntmps8
  go_wp2_with (go_at_call 21; refine HT'.out.mono ?_; rintro e w' ⟨rfl, rfl⟩)
  go_ret2
  exact ⟨rfl, hB⟩

/-- ParseInteger: THE CONTRACT. -/
theorem parse (b c : Nat) (l : List UInt8) (w : World) (hb : b < w.heap.size) (hn : l.length ≤ 1099511627776) (hglob : 2 ≤ w.heap.size) (hnc : l.length ≤ c)
    (hcell : ∀ i, i < l.length → w.cell? ⟨b, i, none⟩ = some (.int .u8 (l.getD i 0).toNat))
    (hV : ∃ tp p, w.var? Tryd.prog "strconv.ErrRange" = some #[.iface tp p]) :
    Calls Tryd.prog 8 #[.slice (some ⟨b, 0, none⟩) l.length c] w fun e w' => e = .returned (.tuple #[.int .i64 (PI l).1, .bool (PI l).2]) ∧ Below w.heap.size w w' := by
  cases l with
  | nil => exact parse_empty _ c w
  | cons a r =>
    have HT := trim b c (a :: r) w hb hnc hcell
    by_cases h45 : a.toNat = 45
    · have ha : a = 45 := by rw [← UInt8.toNat_inj]; exact h45
      rw [if_pos (by rw [ha]; rfl)] at HT
      by_cases hr : r = []
      · subst hr ha
        exact parse_dash b c w hb hnc (hcell 0 (by simp))
      · have hr1 : 1 ≤ r.length := by
          cases r with
          | nil => exact absurd rfl hr
          | cons _ _ => simp
        refine core b 1 r.length c (c - 1) (a :: r) w hb hn hglob hcell (by unfold Hid; simp; omega) (by omega) hr1 (by simp) ?_ hV ?_
        · show digitsOf (a :: r) = _
          rw [digitsOf, if_pos h45]
          rfl
        · unfold Lib.sliceFrom at HT
          rw [if_neg (by rw [List.length_cons] at hnc; omega)] at HT
          exact HT
    · rw [if_neg (by intro e; simp at e; subst e; exact h45 rfl)] at HT
      refine core b 0 (a :: r).length c c (a :: r) w hb hn hglob hcell (by unfold Hid; simp) (by omega) (by simp) (by simp) ?_ hV HT
      show digitsOf (a :: r) = _
      rw [digitsOf, if_neg h45]
      rfl
end Go.Proofs.Qxb6600527aDoor.pin
