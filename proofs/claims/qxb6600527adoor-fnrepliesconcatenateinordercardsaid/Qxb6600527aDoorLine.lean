/-
  '(*Buffer).line', 'ZZLine': the walks.
-/
import Derived.Test.Qxb6600527aDoorBuf
namespace Go.Proofs.Qxb6600527aDoor.buf
open Go.ChangeShapes Go.WideShapes Go.ChangeAt Go.RowKit

/-- a CR or LF is written as a space -/
def san (c : UInt8) : UInt8 := if c.toNat = 13 ∨ c.toNat = 10 then 32 else c
def lineOf (c : UInt8) (s : List UInt8) : List UInt8 := c :: s.map san ++ [13, 10]

theorem san_step (s : ByteArray) (j : Nat) (hj : j < s.size) (l : List UInt8) (c : UInt8) :
    (l ++ c :: (s.data.toList.take j).map san) ++ [san s[j]] = l ++ c :: (s.data.toList.take (j + 1)).map san := by
  have h : j < s.data.toList.length := by simpa using hj
  rw [List.take_succ_eq_append_getElem h, List.map_append]
  have e : s.data.toList[j] = s[j] := rfl
  rw [e]
  simp

set_option maxHeartbeats 4000000 in
theorem line (B k : Nat) (l : List UInt8) (c : UInt8) (s : ByteArray) (w : World) (hbuf : Buf w B k l) (hB : B ≤ w.heap.size) (hlim : l.length + s.size ≤ 1099511627776) :
    Calls Tryd.prog 24 #[.pointer (some ⟨k, 0, none⟩), .int .u8 (c.toNat : Int), .string s] w fun e w' => e = .returned (.tuple #[]) ∧ Buf w' B k (l ++ lineOf c s.data.toList) ∧ KB B k w w' := by
  obtain ⟨i0, hi, hz0, hz1, hz2⟩ := info_parts dec.info5
  obtain ⟨v, hk, hown⟩ := hbuf
  obtain ⟨ad, cap, rfl⟩ := shape hown
  have hc0 := cell_of_one hk
  have HK := Lib.hid hk
  have HO := Lib.hid hown
  clear hk hown
  go_enter Tryd.func24, Tryd.ntmps24
  go_wp2_with (at_builtin; refine wpList_append_own _ rfl _ _ 24 rfl B 5 i0 (.int .u8 0) 1 1 Tryd.underlying24 hi hz0 hz1 hz2 rfl (by decide) _ _ _ rfl (HO.out.alloc _) ⟨w.heap.size, 0, none⟩ 1 1 [.int .u8 (c.toNat : Int)] rfl rfl (dec.one_new _ _ _) (by intro u hu; simp at hu; subst hu; rfl) (by unfold maxLen; simp; omega) (by simp; omega) (by simp; omega) ?_; intro v1 w1 hown1 hg1 _; obtain ⟨ad1, cap1, hv_v1⟩ := shape hown1; subst hv_v1; have hk1 := kept HK.out HO.out (.inr ⟨_, rfl⟩) hg1; have hc1 := cell_of_one hk1; have hf1 := free_of_one hk1; rw [cells_snoc] at hown1; have HP := Lib.hid (put HK.out HO.out (.inr ⟨_, rfl⟩) hg1 hB hown1 (by simp)); clear hown1 hg1 hk1)
  obtain ⟨hP1, hP2⟩ := HP.out
  clear HP hc1 hf1 hc0
  generalize hW0 : w1.setCell ⟨k, 0, none⟩ (Value.slice ad1 (l.length + 1) cap1) = W0 at *
  clear hW0
  go_loopw [6, 7, 20] (fun _ _ i W => ∃ j : Nat, j ≤ s.size ∧ i = .int .i64 j ∧ Buf W B k (l ++ c :: (s.data.toList.take j).map san) ∧ KB B k w W) (fun _ _ i _ => s.size - (intOf i).toNat)
  case atStart => exact ⟨0, by omega, rfl, by simpa using hP1, hP2⟩
  case round =>
    obtain ⟨j, hj, rfl, hbr, hkb⟩ := hrel
    obtain ⟨v, hk, hown⟩ := hbr
    obtain ⟨adr, capr, rfl⟩ := shape hown
    have hcr := cell_of_one hk
    have HKr := Lib.hid hk
    have HOr := Lib.hid hown
    have HKB := Lib.hid hkb
    have hBr : B ≤ wr.heap.size := by have := hkb.size; omega
    have hll : (l ++ c :: (s.data.toList.take j).map san).length ≤ l.length + 1 + s.size := by
      have : s.data.toList.length = s.size := by simp
      simp; omega
    clear hk hown hkb hP1 hP2
    obtain ⟨L, hL⟩ : ∃ L, L = l ++ c :: (s.data.toList.take j).map san := ⟨_, rfl⟩
    rw [← hL] at HKr HOr hcr hll
    have HL := Lib.hid hL
    clear hL
    by_cases hlt : j < s.size
    · have HS := Lib.hid (san_step s j hlt l c)
      rw [← HL.out] at HS
      by_cases h13 : ((s[j].toNat : Nat) : Int) = 13
      · have hsan : san s[j] = 32 := by unfold san; rw [if_pos (by left; omega)]
        rw [hsan] at HS
        have h13' : (((s[j].toNat : Nat) : Int) == 13) = true := by simpa using h13
        go_wp2_with (at_builtin; refine wpList_append_own _ rfl _ _ 24 rfl B 5 i0 (.int .u8 0) 1 1 Tryd.underlying24 hi hz0 hz1 hz2 rfl (by decide) _ _ _ rfl (HOr.out.alloc _) ⟨wr.heap.size, 0, none⟩ 1 1 [.int .u8 ((32 : UInt8).toNat : Int)] rfl rfl (dec.one_new _ _ _) (by intro u hu; simp at hu; subst hu; rfl) (by unfold maxLen; simp; omega) (by simp; omega) (by simp; omega) ?_; intro v2 w2 hown2 hg2 _; obtain ⟨ad2, cap2, hv_v2⟩ := shape hown2; subst hv_v2; have hk2 := kept HKr.out HOr.out (.inr ⟨_, rfl⟩) hg2; have hc2 := cell_of_one hk2; have hf2 := free_of_one hk2; rw [cells_snoc] at hown2; have HP2 := Lib.hid (put HKr.out HOr.out (.inr ⟨_, rfl⟩) hg2 hBr hown2 (by simp)); clear hown2 hg2 hk2)
        obtain ⟨hP3, hP4⟩ := HP2.out
        rw [HS.out] at hP3
        have HP3 := Lib.hid hP3
        have HP4 := Lib.hid (HKB.out.trans hP4)
        clear HP2 hP3 hP4 HS
        go_wp2
        go_roundw
        case rel => first | exact ⟨j + 1, by omega, by go_num, HP3.out, HP4.out⟩ | exact ⟨_, _, _, ⟨j + 1, by omega, rfl, HP3.out, HP4.out⟩, rfl, rfl, by go_num⟩
        case measure => simp [intOf]; omega
      · have h13' : (((s[j].toNat : Nat) : Int) == 13) = false := by simpa using h13
        by_cases h10 : ((s[j].toNat : Nat) : Int) = 10
        · have hsan : san s[j] = 32 := by unfold san; rw [if_pos (by right; omega)]
          rw [hsan] at HS
          have h10' : (((s[j].toNat : Nat) : Int) == 10) = true := by simpa using h10
          go_wp2_with (at_builtin; refine wpList_append_own _ rfl _ _ 24 rfl B 5 i0 (.int .u8 0) 1 1 Tryd.underlying24 hi hz0 hz1 hz2 rfl (by decide) _ _ _ rfl (HOr.out.alloc _) ⟨wr.heap.size, 0, none⟩ 1 1 [.int .u8 ((32 : UInt8).toNat : Int)] rfl rfl (dec.one_new _ _ _) (by intro u hu; simp at hu; subst hu; rfl) (by unfold maxLen; simp; omega) (by simp; omega) (by simp; omega) ?_; intro v2 w2 hown2 hg2 _; obtain ⟨ad2, cap2, hv_v2⟩ := shape hown2; subst hv_v2; have hk2 := kept HKr.out HOr.out (.inr ⟨_, rfl⟩) hg2; have hc2 := cell_of_one hk2; have hf2 := free_of_one hk2; rw [cells_snoc] at hown2; have HP2 := Lib.hid (put HKr.out HOr.out (.inr ⟨_, rfl⟩) hg2 hBr hown2 (by simp)); clear hown2 hg2 hk2)
          obtain ⟨hP3, hP4⟩ := HP2.out
          rw [HS.out] at hP3
          have HP3 := Lib.hid hP3
          have HP4 := Lib.hid (HKB.out.trans hP4)
          clear HP2 hP3 hP4 HS
          go_wp2
          go_roundw
          case rel => first | exact ⟨j + 1, by omega, by go_num, HP3.out, HP4.out⟩ | exact ⟨_, _, _, ⟨j + 1, by omega, rfl, HP3.out, HP4.out⟩, rfl, rfl, by go_num⟩
          case measure => simp [intOf]; omega
        · have h10' : (((s[j].toNat : Nat) : Int) == 10) = false := by simpa using h10
          have hsan : san s[j] = s[j] := by unfold san; rw [if_neg (by omega)]
          rw [hsan] at HS
          go_wp2_with (at_builtin; refine wpList_append_own _ rfl _ _ 24 rfl B 5 i0 (.int .u8 0) 1 1 Tryd.underlying24 hi hz0 hz1 hz2 rfl (by decide) _ _ _ rfl (HOr.out.alloc _) ⟨wr.heap.size, 0, none⟩ 1 1 [.int .u8 (s[j].toNat : Int)] rfl rfl (dec.one_new _ _ _) (by intro u hu; simp at hu; subst hu; rfl) (by unfold maxLen; simp; omega) (by simp; omega) (by simp; omega) ?_; intro v2 w2 hown2 hg2 _; obtain ⟨ad2, cap2, hv_v2⟩ := shape hown2; subst hv_v2; have hk2 := kept HKr.out HOr.out (.inr ⟨_, rfl⟩) hg2; have hc2 := cell_of_one hk2; have hf2 := free_of_one hk2; rw [cells_snoc] at hown2; have HP2 := Lib.hid (put HKr.out HOr.out (.inr ⟨_, rfl⟩) hg2 hBr hown2 (by simp)); clear hown2 hg2 hk2)
          obtain ⟨hP3, hP4⟩ := HP2.out
          rw [HS.out] at hP3
          have HP3 := Lib.hid hP3
          have HP4 := Lib.hid (HKB.out.trans hP4)
          clear HP2 hP3 hP4 HS
          go_wp2
          go_roundw
          case rel => first | exact ⟨j + 1, by omega, by go_num, HP3.out, HP4.out⟩ | exact ⟨_, _, _, ⟨j + 1, by omega, rfl, HP3.out, HP4.out⟩, rfl, rfl, by go_num⟩
          case measure => simp [intOf]; omega
    · have hej : j = s.size := by omega
      subst hej
      have HF : Hid (L ++ [13, 10] = l ++ lineOf c s.data.toList) := by
        show _ = _
        rw [HL.out, List.take_of_length_le (by simp), lineOf]
        simp
      go_wp2_with (at_builtin; refine wpList_append_own _ rfl _ _ 24 rfl B 5 i0 (.int .u8 0) 1 1 Tryd.underlying24 hi hz0 hz1 hz2 rfl (by decide) _ _ _ rfl (HOr.out.alloc _) ⟨wr.heap.size, 0, none⟩ 2 2 [.int .u8 13, .int .u8 10] rfl rfl (two_new _ _ _ _) (by intro u hu; simp at hu; rcases hu with rfl | rfl <;> rfl) (by unfold maxLen; simp; omega) (by simp; omega) (by simp; omega) ?_; intro v2 w2 hown2 hg2 _; obtain ⟨ad2, cap2, hv_v2⟩ := shape hown2; subst hv_v2; have hk2 := kept HKr.out HOr.out (.inr ⟨_, rfl⟩) hg2; have hc2 := cell_of_one hk2; have hf2 := free_of_one hk2; rw [cells_crlf] at hown2; have HP2 := Lib.hid (put HKr.out HOr.out (.inr ⟨_, rfl⟩) hg2 hBr hown2 (by simp)); clear hown2 hg2 hk2)
      obtain ⟨hP3, hP4⟩ := HP2.out
      go_end0
      rw [HF.out] at hP3
      exact ⟨rfl, hP3, HKB.out.trans hP4⟩
end Go.Proofs.Qxb6600527aDoor.buf
