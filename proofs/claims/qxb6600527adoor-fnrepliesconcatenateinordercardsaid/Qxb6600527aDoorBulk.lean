/-
  'ZZLine', '(*Buffer).header', '(*Buffer).Bulk', 'ZZBytes', 'ZZNewBuffer': the walks.
-/
import Derived.Test.Qxb6600527aDoorLine
import Derived.Test.Qxb6600527aDoorShelf
import Derived.Lib.ItoaLen
import Derived.Lib.BufferWrite
namespace Go.Proofs.Qxb6600527aDoor.buf
open Go.ChangeShapes Go.WideShapes Go.ChangeAt Go.RowKit

theorem zzLine (B k : Nat) (l : List UInt8) (c : UInt8) (s : ByteArray) (w : World) (hbuf : Buf w B k l) (hB : B ≤ w.heap.size) (hlim : l.length + s.size ≤ 1099511627776) :
    Calls Tryd.prog 18 #[.pointer (some ⟨k, 0, none⟩), .int .u8 (c.toNat : Int), .string s] w fun e w' => e = .returned (.tuple #[]) ∧ Buf w' B k (l ++ lineOf c s.data.toList) ∧ KB B k w w' := by
  go_enter Tryd.func18, Tryd.ntmps18
  go_wp2_with (go_at_call 24; refine (line B k l c s _ hbuf hB hlim).mono ?_; rintro e w' ⟨rfl, h1, h2⟩)
  go_end0
  exact ⟨rfl, h1, h2⟩

theorem zzBytes (B k : Nat) (l : List UInt8) (w : World) (hbuf : Buf w B k l) :
    Calls Tryd.prog 14 #[.pointer (some ⟨k, 0, none⟩)] w fun e w' => ∃ v, e = .returned v ∧ w' = w ∧ w.heap[k]? = some (.cells #[v] 30 (0, 0)) ∧ w.ownsRow B 5 1 v l.length (Lib.byteCells l) := by
  obtain ⟨v, hk, hown⟩ := hbuf
  obtain ⟨ad, cap, rfl⟩ := shape hown
  have hc0 := cell_of_one hk
  have HK := Lib.hid hk
  have HO := Lib.hid hown
  clear hk hown
  go_enter Tryd.func14, Tryd.ntmps14
  go_wp2
  go_ret
  exact ⟨_, rfl, rfl, HK.out, HO.out⟩

theorem zzNew (ad : Option Addr) (n cap : Nat) (w : World) :
    Calls Tryd.prog 17 #[.slice ad n cap] w fun e w' => e = .returned (.pointer (some ⟨w.heap.size, 0, none⟩)) ∧ w' = w.alloc (.cells #[.slice ad n cap] 30) := by
  go_enter Tryd.func17, Tryd.ntmps17
  go_wp2
  go_ret
  exact ⟨rfl, rfl⟩

abbrev pow10 : String := "internal/strconv.uint64pow10"
theorem gTab : Tryd.prog.globalNamed pow10 = some 2 := by kernel_rfl

theorem tab_on {B k : Nat} {w w' : World} (h : Lib.TabIs Tryd.prog w pow10 .u64 Lib.pow10Tab) (hk : KB B k w w') (h2 : 2 < B) (hne : 2 ≠ k) : Lib.TabIs Tryd.prog w' pow10 .u64 Lib.pow10Tab := by
  unfold Lib.TabIs World.var? at *
  simp only [gTab, Option.bind_some] at h ⊢
  rw [hk.block 2 h2 hne]
  exact h
theorem tab_below {B : Nat} {w : World} (h : Lib.TabIs Tryd.prog w pow10 .u64 Lib.pow10Tab) (h2 : 2 < B) : Lib.TabBelow Tryd.prog B w pow10 .u64 Lib.pow10Tab := fun w' hb =>
  tab_on (k := B) h (KB.of_below hb) h2 (by omega)

/-- a store of a new row into the Buffer, whatever made the row -/
theorem put' {w w1 : World} {B k n' : Nat} {l' : List UInt8} {v v' : Value} (hk1 : w1.heap[k]? = some (.cells #[v] 30 (0, 0))) (hb : Below B w w1) (hown' : w1.ownsRow B 5 1 v' n' (Lib.byteCells l')) (hn : n' = l'.length) :
    Buf (w1.setCell ⟨k, 0, none⟩ v') B k l' ∧ KB B k w (w1.setCell ⟨k, 0, none⟩ v') := by
  subst hn
  refine ⟨⟨v', one_setCell hk1, ownsRow_setCell_other hown' (row_ne hk1 hown') _⟩, ?_⟩
  exact ⟨hb.os, hb.tape, hb.output, by rw [World.size_setCell]; exact hb.size, fun j hj hjk => by rw [Below.heap_setCell _ _ _ _ (by simpa using hjk)]; exact hb.block j hj⟩

theorem others_kept {w w1 : World} {k : Nat} {v : Value} (hk : w.heap[k]? = some (.cells #[v] 30 (0, 0))) (h : Lib.OthersKept 5 none w w1) : w1.heap[k]? = some (.cells #[v] 30 (0, 0)) :=
  h k _ hk (by simp) (by intro c fz e; simp at e)

theorem putV {w w0 w1 : World} {B k n n' : Nat} {l l' : List UInt8} {v v' : Value} (hk : w.heap[k]? = some (.cells #[v] 30 (0, 0))) (hown : w.ownsRow B 5 1 v n (Lib.byteCells l))
    (h0 : w0 = w ∨ ∃ o, w0 = w.alloc o) (hg : w0.grownBy w1 v.ownBlock) (hB : B ≤ w.heap.size) (hown' : w1.ownsRow B 5 1 v' n' (Lib.byteCells l')) (hn : n' = l'.length) :
    (w1.setCell ⟨k, 0, none⟩ v').heap[k]? = some (.cells #[v'] 30 (0, 0)) ∧ (w1.setCell ⟨k, 0, none⟩ v').ownsRow B 5 1 v' n' (Lib.byteCells l') ∧ KB B k w (w1.setCell ⟨k, 0, none⟩ v') := by
  have hk1 := kept hk hown h0 hg
  exact ⟨one_setCell hk1, ownsRow_setCell_other hown' (row_ne hk1 hown') _, (put hk hown h0 hg hB hown' hn).2⟩

theorem set_same {w : World} {k : Nat} {v : Value} (hk : w.heap[k]? = some (.cells #[v] 30 (0, 0))) : w.setCell ⟨k, 0, none⟩ v = w := by
  have hlt := lt_of_block hk
  have h' : w.heap[k] = .cells #[v] 30 (0, 0) := by simpa [Array.getElem?_eq_getElem hlt] using hk
  have e : ∀ (f : Obj → Obj), f (.cells #[v] 30 (0, 0)) = .cells #[v] 30 (0, 0) → w.heap.modify k f = w.heap := by
    intro f hf
    apply Array.ext (by simp)
    intro i h1 h2
    rw [Array.getElem_modify]
    by_cases hi : k = i
    · subst hi
      rw [if_pos rfl, h', hf]
    · rw [if_neg hi]
  unfold World.setCell
  rw [e _ rfl]

def headOf (c : UInt8) (n : Int) : List UInt8 := c :: Lib.itoa n ++ [13, 10]

set_option maxHeartbeats 4000000 in
theorem header (B k : Nat) (l : List UInt8) (c : UInt8) (n : Int) (h0 : -9223372036854775808 ≤ n) (h1 : n ≤ 9223372036854775807) (w : World) (hbuf : Buf w B k l) (hB : B ≤ w.heap.size) (hlim : l.length ≤ 1099511627776)
    (h2B : 2 < B) (h2k : 2 ≠ k) (htab : Lib.TabIs Tryd.prog w pow10 .u64 Lib.pow10Tab) :
    Calls Tryd.prog 23 #[.pointer (some ⟨k, 0, none⟩), .int .u8 (c.toNat : Int), .int .i64 n] w fun e w' => e = .returned (.tuple #[]) ∧ Buf w' B k (l ++ headOf c n) ∧ KB B k w w' := by
  obtain ⟨i0, hi, hz0, hz1, hz2⟩ := info_parts dec.info5
  have hil := Lib.itoa_length_le n h0 h1
  have HT := Lib.hid htab
  obtain ⟨v, hk, hown⟩ := hbuf
  obtain ⟨ad, cap, rfl⟩ := shape hown
  have hc0 := cell_of_one hk
  have HK := Lib.hid hk
  have HO := Lib.hid hown
  clear hk hown htab
  go_enter Tryd.func23, Tryd.ntmps23
  go_wp2_with (at_builtin; refine wpList_append_own _ rfl _ _ 24 rfl B 5 i0 (.int .u8 0) 1 1 Tryd.underlying24 hi hz0 hz1 hz2 rfl (by decide) _ _ _ rfl (HO.out.alloc _) ⟨w.heap.size, 0, none⟩ 1 1 [.int .u8 (c.toNat : Int)] rfl rfl (dec.one_new _ _ _) (by intro u hu; simp at hu; subst hu; rfl) (by unfold maxLen; simp; omega) (by simp; omega) (by simp; omega) ?_; intro v1 w1 hown1 hg1 _; obtain ⟨ad1, cap1, hv_v1⟩ := shape hown1; subst hv_v1; have hk1 := kept HK.out HO.out (.inr ⟨_, rfl⟩) hg1; have hc1 := cell_of_one hk1; have hf1 := free_of_one hk1; rw [cells_snoc] at hown1; have HP := Lib.hid (putV HK.out HO.out (.inr ⟨_, rfl⟩) hg1 hB hown1 (by simp)); clear hown1 hg1 hk1; refine Hid.out ?_)
  refine Lib.hid ?_
  obtain ⟨hk2, hown2, hkb2⟩ := HP.out
  have HK2 := Lib.hid hk2
  have HO2 := Lib.hid hown2
  have HKB2 := Lib.hid hkb2
  have hB2 : B ≤ (w1.setCell ⟨k, 0, none⟩ (.slice ad1 (l.length + 1) cap1)).heap.size := by have := hkb2.size; omega
  have HT2 := Lib.hid (tab_below (tab_on HT.out hkb2 h2B h2k) h2B)
  clear HP hk2 hown2 hkb2
  go_wp2_with fail
  refine (Tryd.strconv_AppendInt_10 B (l.length + 1) n h0 h1 _ _ _ HO2.out hB2 (by omega) HT2.out).mono ?_
  rintro e w3 ⟨v3, rfl, hown3, hb3, hok3⟩
  obtain ⟨ad3, cap3, rfl⟩ := shape hown3
  have hk3 := others_kept HK2.out hok3
  have hc3 := cell_of_one hk3
  have hf3 := free_of_one hk3
  rw [← Lib.byteCells_append] at hown3
  have hP3 := put' (l' := l ++ [c] ++ Lib.itoa n) hk3 hb3 hown3 (by simp only [List.length_append, List.length_singleton])
  have HK4 := Lib.hid (one_setCell (u := .slice ad3 (l.length + 1 + (Lib.itoa n).length) cap3) hk3)
  have HO4 := Lib.hid (ownsRow_setCell_other hown3 (a := ⟨k, 0, none⟩) (row_ne hk3 hown3) (.slice ad3 (l.length + 1 + (Lib.itoa n).length) cap3))
  have HKB4 := Lib.hid (HKB2.out.trans hP3.2)
  have hB4 : B ≤ (w3.setCell ⟨k, 0, none⟩ (.slice ad3 (l.length + 1 + (Lib.itoa n).length) cap3)).heap.size := by have := HKB4.out.size; omega
  have hB4s : B ≤ w3.heap.size := by simpa using hB4
  clear hok3 hb3 hown3 hk3 hP3 hc1 hf1 hc0
  go_wp2_with (at_builtin; refine wpList_append_own _ rfl _ _ 24 rfl B 5 i0 (.int .u8 0) 1 1 Tryd.underlying24 hi hz0 hz1 hz2 rfl (by decide) _ _ _ rfl (HO4.out.alloc _) ⟨w3.heap.size, 0, none⟩ 2 2 [.int .u8 13, .int .u8 10] rfl rfl (by simpa using two_new (w3.setCell ⟨k, 0, none⟩ (.slice ad3 (l.length + 1 + (Lib.itoa n).length) cap3)) (.int .u8 13) (.int .u8 10) 5) (by intro u hu; simp at hu; rcases hu with rfl | rfl <;> rfl) (by unfold maxLen; simp; omega) (by simp; omega) (by simp; omega) ?_; intro v5 w5 hown5 hg5 _; obtain ⟨ad5, cap5, hv_v5⟩ := shape hown5; subst hv_v5; have hk5 := kept HK4.out HO4.out (.inr ⟨_, rfl⟩) hg5; have hc5 := cell_of_one hk5; have hf5 := free_of_one hk5; rw [cells_crlf] at hown5; have HP5 := Lib.hid (put HK4.out HO4.out (.inr ⟨_, rfl⟩) hg5 hB4 hown5 (by rw [List.length_append, List.length_append, List.length_append]; rfl)); clear hown5 hg5 hk5)
  obtain ⟨hP5, hP6⟩ := HP5.out
  go_end0
  have e5 : l ++ [c] ++ Lib.itoa n ++ [13, 10] = l ++ headOf c n := by simp [headOf]
  rw [e5] at hP5
  exact ⟨rfl, hP5, HKB4.out.trans hP6⟩
/-- what Bulk writes -/
def bulkOf (p : List UInt8) : List UInt8 := headOf 36 (p.length : Int) ++ p ++ [13, 10]

set_option maxHeartbeats 4000000 in
theorem bulk_some (B k gp cp : Nat) (l p : List UInt8) (w : World) (hbuf : Buf w B k l) (hB : B ≤ w.heap.size) (hlim : l.length + p.length ≤ 1099511627776)
    (h2B : 2 < B) (h2k : 2 ≠ k) (htab : Lib.TabIs Tryd.prog w pow10 .u64 Lib.pow10Tab)
    (hgp : gp < B) (hgk : gp ≠ k) (hcell : ∀ i, i < p.length → w.cell? ⟨gp, i, none⟩ = some (.int .u8 (p.getD i 0).toNat)) :
    Calls Tryd.prog 13 #[.pointer (some ⟨k, 0, none⟩), .slice (some ⟨gp, 0, none⟩) p.length cp] w fun e w' => e = .returned (.tuple #[]) ∧ Buf w' B k (l ++ bulkOf p) ∧ KB B k w w' := by
  obtain ⟨i0, hi, hz0, hz1, hz2⟩ := info_parts dec.info5
  have HT := Lib.hid htab
  have HC := Lib.hid hcell
  have HBUF := Lib.hid hbuf
  have e36 : ((36 : UInt8).toNat : Int) = 36 := rfl
  have hil := Lib.itoa_length_le (p.length : Int) (by omega) (by omega)
  clear htab hcell hbuf
  go_enter Tryd.func13, Tryd.ntmps13
  go_wp2_with fail
  refine (header B k l 36 (p.length : Int) (by omega) (by omega) w HBUF.out hB (by omega) h2B h2k HT.out).mono ?_
  rintro e W1 ⟨rfl, hbuf1, hkb1⟩
  have hB1 : B ≤ W1.heap.size := by have := hkb1.size; omega
  have hcell1 : ∀ i, i < p.length → W1.cell? ⟨gp, i, none⟩ = some (.int .u8 (p.getD i 0).toNat) := fun i hi' => by rw [hkb1.cell (p := ⟨gp, i, none⟩) hgp hgk]; exact HC.out i hi'
  have HNEW : Hid (∀ j u, (Lib.byteCells p)[j]? = some u → W1.cell? ((⟨gp, 0, none⟩ : Addr).add j) = some u) := by
    intro j u hu
    have hj : j < p.length := by
      rcases Nat.lt_or_ge j p.length with h | h
      · exact h
      · rw [List.getElem?_eq_none (by rw [Lib.byteCells_length]; exact h)] at hu; cases hu
    rw [show (⟨gp, 0, none⟩ : Addr).add j = ⟨gp, j, none⟩ from by unfold Addr.add; split <;> simp_all, hcell1 j hj, ← hu]
    simp [Lib.byteCells, hj]
  obtain ⟨L, hL⟩ : ∃ L, L = l ++ headOf 36 (p.length : Int) := ⟨_, rfl⟩
  have hLlen : L.length ≤ l.length + 24 := by rw [hL]; simp [headOf]; omega
  rw [← hL] at hbuf1
  have HL := Lib.hid hL
  have HKB1 := Lib.hid hkb1
  obtain ⟨v, hk, hown⟩ := hbuf1
  obtain ⟨ad, cap, rfl⟩ := shape hown
  have hc1 := cell_of_one hk
  have HK1 := Lib.hid hk
  have HO1 := Lib.hid hown
  clear hk hown hkb1 hcell1 hL
  go_wp2_with (at_builtin; refine wpList_append_own _ rfl _ _ 24 rfl B 5 i0 (.int .u8 0) 1 1 Tryd.underlying24 hi hz0 hz1 hz2 rfl (by decide) _ _ _ rfl HO1.out ⟨gp, 0, none⟩ p.length cp (Lib.byteCells p) rfl (by rw [Lib.byteCells_length, Nat.mul_one]) HNEW.out (Lib.byteCells_one _) (by unfold maxLen; omega) (by omega) hB1 ?_; intro v2 w2 hown2 hg2 _; obtain ⟨ad2, cap2, hv_v2⟩ := shape hown2; subst hv_v2; have hk2 := kept HK1.out HO1.out (.inl rfl) hg2; have hc2 := cell_of_one hk2; have hf2 := free_of_one hk2; rw [← Lib.byteCells_append] at hown2; have HP2 := Lib.hid (putV HK1.out HO1.out (.inl rfl) hg2 hB1 hown2 (by rw [List.length_append])); clear hown2 hg2 hk2; refine Hid.out ?_)
  refine Lib.hid ?_
  obtain ⟨hk3, hown3, hkb3⟩ := HP2.out
  have HK4 := Lib.hid hk3
  have HO4 := Lib.hid hown3
  have HKB4 := Lib.hid (HKB1.out.trans hkb3)
  have hB4 : B ≤ (w2.setCell ⟨k, 0, none⟩ (.slice ad2 (L.length + p.length) cap2)).heap.size := by have := hkb3.size; omega
  have hB4s : B ≤ w2.heap.size := by simpa using hB4
  clear hk3 hown3 hkb3 HP2 hc1
  go_wp2_with (at_builtin; refine wpList_append_own _ rfl _ _ 24 rfl B 5 i0 (.int .u8 0) 1 1 Tryd.underlying24 hi hz0 hz1 hz2 rfl (by decide) _ _ _ rfl (HO4.out.alloc _) ⟨w2.heap.size, 0, none⟩ 2 2 [.int .u8 13, .int .u8 10] rfl rfl (by simpa using two_new (w2.setCell ⟨k, 0, none⟩ (.slice ad2 (L.length + p.length) cap2)) (.int .u8 13) (.int .u8 10) 5) (by intro u hu; simp at hu; rcases hu with rfl | rfl <;> rfl) (by unfold maxLen; simp; omega) (by simp; omega) (by simp; omega) ?_; intro v5 w5 hown5 hg5 _; obtain ⟨ad5, cap5, hv_v5⟩ := shape hown5; subst hv_v5; have hk5 := kept HK4.out HO4.out (.inr ⟨_, rfl⟩) hg5; have hc5 := cell_of_one hk5; have hf5 := free_of_one hk5; rw [cells_crlf] at hown5; have HP5 := Lib.hid (put HK4.out HO4.out (.inr ⟨_, rfl⟩) hg5 hB4 hown5 (by rw [List.length_append, List.length_append]; rfl)); clear hown5 hg5 hk5)
  obtain ⟨hP5, hP6⟩ := HP5.out
  go_end0
  have e5 : L ++ p ++ [13, 10] = l ++ bulkOf p := by rw [HL.out]; simp [bulkOf]
  rw [e5] at hP5
  exact ⟨rfl, hP5, HKB4.out.trans hP6⟩

set_option maxHeartbeats 4000000 in
theorem bulk_nil (B k : Nat) (l : List UInt8) (w : World) (hbuf : Buf w B k l) (hB : B ≤ w.heap.size) (hlim : l.length ≤ 1099511627776)
    (h2B : 2 < B) (h2k : 2 ≠ k) (htab : Lib.TabIs Tryd.prog w pow10 .u64 Lib.pow10Tab) :
    Calls Tryd.prog 13 #[.pointer (some ⟨k, 0, none⟩), .slice none 0 0] w fun e w' => e = .returned (.tuple #[]) ∧ Buf w' B k (l ++ bulkOf []) ∧ KB B k w w' := by
  obtain ⟨i0, hi, hz0, hz1, hz2⟩ := info_parts dec.info5
  have HT := Lib.hid htab
  have HBUF := Lib.hid hbuf
  have hil := Lib.itoa_length_le 0 (by omega) (by omega)
  clear htab hbuf
  go_enter Tryd.func13, Tryd.ntmps13
  go_wp2_with fail
  refine (header B k l 36 0 (by omega) (by omega) w HBUF.out hB (by omega) h2B h2k HT.out).mono ?_
  rintro e W1 ⟨rfl, hbuf1, hkb1⟩
  have hB1 : B ≤ W1.heap.size := by have := hkb1.size; omega
  obtain ⟨L, hL⟩ : ∃ L, L = l ++ headOf 36 0 := ⟨_, rfl⟩
  have hLlen : L.length ≤ l.length + 24 := by rw [hL]; simp [headOf]; omega
  rw [← hL] at hbuf1
  have HL := Lib.hid hL
  have HKB1 := Lib.hid hkb1
  obtain ⟨v, hk, hown⟩ := hbuf1
  obtain ⟨ad, cap, rfl⟩ := shape hown
  have hc1 := cell_of_one hk
  have hf1 := free_of_one hk
  have hset := set_same hk
  have HK1 := Lib.hid hk
  have HO1 := Lib.hid hown
  clear hk hown hkb1 hL
  go_wp2_with (first | (at_builtin; refine wpList_append_own_none rfl _ (.tmp 13) 24 rfl B 5 i0 1 Tryd.underlying24 hi _ _ _ rfl HO1.out rfl ?_) | (at_builtin; refine wpList_append_own _ rfl _ _ 24 rfl B 5 i0 (.int .u8 0) 1 1 Tryd.underlying24 hi hz0 hz1 hz2 rfl (by decide) _ _ _ rfl (HO1.out.alloc _) ⟨W1.heap.size, 0, none⟩ 2 2 [.int .u8 13, .int .u8 10] rfl rfl (two_new _ _ _ _) (by intro u hu; simp at hu; rcases hu with rfl | rfl <;> rfl) (by unfold maxLen; simp; omega) (by simp; omega) (by simp; omega) ?_; intro v5 w5 hown5 hg5 _; obtain ⟨ad5, cap5, hv_v5⟩ := shape hown5; subst hv_v5; have hk5 := kept HK1.out HO1.out (.inr ⟨_, rfl⟩) hg5; have hc5 := cell_of_one hk5; have hf5 := free_of_one hk5; rw [cells_crlf] at hown5; have HP5 := Lib.hid (put HK1.out HO1.out (.inr ⟨_, rfl⟩) hg5 hB1 hown5 (by rw [List.length_append]; rfl)); clear hown5 hg5 hk5))
  obtain ⟨hP5, hP6⟩ := HP5.out
  go_end0
  have e5 : L ++ [13, 10] = l ++ bulkOf [] := by rw [HL.out]; simp [bulkOf]
  rw [e5] at hP5
  exact ⟨rfl, hP5, HKB1.out.trans hP6⟩
end Go.Proofs.Qxb6600527aDoor.buf
