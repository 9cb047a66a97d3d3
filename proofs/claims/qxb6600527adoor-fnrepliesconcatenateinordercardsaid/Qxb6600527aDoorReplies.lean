/-
  'FnRepliesConcatenateInOrder': the walk.
-/
import Derived.Test.Qxb6600527aDoorKeep
import Derived.Test.Qxb6600527aDoorFrame
namespace Go.Proofs.Qxb6600527aDoor.rep
open Go.ChangeShapes Go.WideShapes Go.ChangeAt Go.RowKit
open buf

theorem clone_arg (a : Option Addr) (len cap : Nat) (l : List UInt8) (w : World) (h : fra.IsBytes w a len cap l) (hlen : len ≤ 1048576) :
    Calls Tryd.prog 11 #[.slice a len cap] w fun e w' => ∃ v, e = .returned v ∧ w'.ownsRow w.heap.size 5 1 v l.length (Lib.byteCells l) ∧ Below w.heap.size w w' := by
  obtain ⟨_, _, rfl, h⟩ := h
  rcases h with ⟨rfl, h0, rfl⟩ | ⟨x, rfl, hc⟩
  · have hl : l = [] := List.length_eq_zero_iff.1 h0
    subst hl
    exact (sl.clone_nil w).mono fun e w' ⟨he, hw⟩ => ⟨_, he, by subst hw; exact World.ownsRow_nil _ _ _ _, by subst hw; exact Below.refl _ _⟩
  · exact (sl.clone_some x cap l w hlen hc).mono fun e w' ⟨he, h2, h3⟩ => ⟨_, he, h2, h3⟩

theorem bytes_below {w w' : World} {a : Option Addr} {len cap : Nat} {l : List UInt8} (h : fra.IsBytes w a len cap l) (hb : Below w.heap.size w w') : fra.IsBytes w' a len cap l := by
  obtain ⟨h1, h2, h3, h⟩ := h
  refine ⟨h1, h2, h3, ?_⟩
  rcases h with h | ⟨x, rfl, hc⟩
  · exact .inl h
  · refine .inr ⟨x, rfl, fun hne => ?_⟩
    obtain ⟨b, o, e, hlt, hcell⟩ := hc hne
    exact ⟨b, o, e, Nat.lt_of_lt_of_le hlt hb.size, fun i hi => by rw [hb.cell (p := ⟨b, o + i, none⟩) hlt]; exact hcell i hi⟩

theorem tab_on_below {w w' : World} (h : Lib.TabIs Tryd.prog w pow10 .u64 Lib.pow10Tab) (hb : Below w.heap.size w w') (h2 : 2 < w.heap.size) : Lib.TabIs Tryd.prog w' pow10 .u64 Lib.pow10Tab :=
  tab_on (k := w.heap.size) h (KB.of_below hb) h2 (by omega)

/-- a Buffer whose block and row lie below block B -/
def LowBuf (B : Nat) (w : World) (k : Nat) (l : List UInt8) : Prop := k < B ∧ ∃ v, w.heap[k]? = some (.cells #[v] 30 (0, 0)) ∧ SrcIn B w v l
theorem low_of {w w' : World} {B k : Nat} {l : List UInt8} (h : Buf w B k l) (hb : Below w.heap.size w w') : LowBuf w.heap.size w' k l := by
  obtain ⟨v, h1, h2⟩ := h
  exact ⟨lt_of_block h1, v, by rw [hb.block k (lt_of_block h1)]; exact h1, (src_of_owns h2).below hb (Nat.le_refl _)⟩
theorem LowBuf.below {B k : Nat} {w w' : World} {l : List UInt8} (h : LowBuf B w k l) (hb : Below B w w') : LowBuf B w' k l := by
  obtain ⟨h0, v, h1, h2⟩ := h
  exact ⟨h0, v, by rw [hb.block k h0]; exact h1, h2.below hb (Nat.le_refl _)⟩
theorem src_shape {B : Nat} {w : World} {v : Value} {p : List UInt8} (h : SrcIn B w v p) : ∃ ad c, v = .slice ad p.length c := by
  rcases h with ⟨rfl, rfl⟩ | ⟨g, c, cur, _, rfl, _⟩
  · exact ⟨_, _, rfl⟩
  · exact ⟨_, _, rfl⟩
theorem low_bytes (B k : Nat) (l : List UInt8) (w : World) (h : LowBuf B w k l) :
    Calls Tryd.prog 14 #[.pointer (some ⟨k, 0, none⟩)] w fun e w' => ∃ v, e = .returned v ∧ w = w' ∧ SrcIn B w v l := by
  obtain ⟨_, v, hk, hs⟩ := h
  obtain ⟨ad, cap, rfl⟩ := src_shape hs
  have hc0 := cell_of_one hk
  have HS := Lib.hid hs
  clear hk hs
  go_enter Tryd.func14, Tryd.ntmps14
  go_wp2
  go_ret
  exact ⟨_, rfl, rfl, HS.out⟩

theorem equal_src (B1 B2 : Nat) (v1 v2 : Value) (l : List UInt8) (w : World) (hlen : l.length ≤ 1099511627776) (hne : l ≠ []) (h1 : SrcIn B1 w v1 l) (h2 : SrcIn B2 w v2 l) :
    Calls Tryd.prog 15 #[v1, v2] w fun e w' => e = .returned (.bool true) ∧ ∃ n, w' = w.drewN n := by
  have k1 := h1
  have k2 := h2
  rcases h1 with ⟨_, rfl⟩ | ⟨g1, c1, cur1, _, rfl, _⟩
  · exact absurd rfl hne
  · rcases h2 with ⟨_, rfl⟩ | ⟨g2, c2, cur2, _, rfl, _⟩
    · exact absurd rfl hne
    · exact sl.equal_true g1 g2 c1 c2 l w hlen k1.cells k2.cells

theorem line_len (k : UInt8) (s : ByteArray) : (lineOf k s.data.toList).length ≤ s.size + 3 := by
  have e1 : s.data.toList.length = s.size := by simp
  simp [lineOf]

theorem bulk_len (p : List UInt8) (h : p.length ≤ 1048576) : (bulkOf p).length ≤ p.length + 30 := by
  have := Lib.itoa_length_le (p.length : Int) (by omega) (by omega)
  simp [bulkOf, headOf]
  omega

/-- a new Buffer, empty -/
theorem fresh_buf (w : World) (B : Nat) : Buf (w.alloc (.cells #[.slice none 0 0] 30)) B w.heap.size [] :=
  ⟨_, heap_alloc_new w _, World.ownsRow_nil _ _ _ _⟩

theorem alloc_block {w : World} {k : Nat} {o o' : Obj} (h : w.heap[k]? = some o) : (w.alloc o').heap[k]? = some o := by
  rw [Below.heap_alloc w o' k (lt_of_block h)]; exact h

theorem buf_alloc {w : World} {B k : Nat} {l : List UInt8} (h : Buf w B k l) (o : Obj) : Buf (w.alloc o) B k l :=
  h.below ((Below.refl _ _).alloc (Nat.le_refl _) o)

set_option maxHeartbeats 2000000 in
theorem walk_long (a0 a3 : Option Addr) (n0 c0 n3 c3 : Nat) (k1 k2 : Int) (s1 s2 : ByteArray) (w : World)
    (h0 : n0 ≤ 9223372036854775807) (h1 : s1.size ≤ 9223372036854775807) (h3 : n3 ≤ 9223372036854775807) (h5 : s2.size ≤ 9223372036854775807) (hlong : ¬ n0 + s1.size + n3 + s2.size ≤ 1048576) :
    Calls Tryd.prog 6 #[.slice a0 n0 c0, .int .u8 k1, .string s1, .slice a3 n3 c3, .int .u8 k2, .string s2] w fun e w' => e = .returned (.bool true) ∧ Below w.heap.size w w' := by
  go_enter Tryd.func6, Tryd.ntmps6
  go_wp2_with (go_at_call 16; go_in)
  all_goals
    go_ret
    exact ⟨rfl, Below.refl _ _⟩

set_option maxHeartbeats 4000000 in
theorem walk (a0 a3 : Option Addr) (n0 c0 n3 c3 : Nat) (k1 k2 : UInt8) (s1 s2 : ByteArray) (px p : List UInt8) (w : World)
    (hpx : fra.IsBytes w a0 n0 c0 px) (hp : fra.IsBytes w a3 n3 c3 p) (hsum : n0 + s1.size + n3 + s2.size ≤ 1048576)
    (hglob : 2 < w.heap.size) (htab : Lib.TabIs Tryd.prog w pow10 .u64 Lib.pow10Tab) :
    Calls Tryd.prog 6 #[.slice a0 n0 c0, .int .u8 (k1.toNat : Int), .string s1, .slice a3 n3 c3, .int .u8 (k2.toNat : Int), .string s2] w fun e w' => e = .returned (.bool true) ∧ Below w.heap.size w w' := by
  have l0 : px.length = n0 := hpx.2.2.1
  have l3 : p.length = n3 := hp.2.2.1
  have HPX := Lib.hid hpx
  have HP := Lib.hid hp
  have HT := Lib.hid htab
  have L0 := Lib.hid l0
  have L3 := Lib.hid l3
  have hs0 : n0 ≤ 1048576 := by omega
  have hs1 : s1.size ≤ 1048576 := by omega
  have hs3 : n3 ≤ 1048576 := by omega
  have hs5 : s2.size ≤ 1048576 := by omega
  clear hpx hp htab l0 l3
  go_enter Tryd.func6, Tryd.ntmps6
  go_wp2_with (go_at_call 16; go_in)
  -- prefix = zzClone(prefix)
  refine (clone_arg a0 n0 c0 px w HPX.out hs0).mono ?_
  rintro e w1 ⟨v0, rfl, hown1, hb1⟩
  have S0 := src_of_owns hown1
  obtain ⟨ad0, cap0, rfl⟩ := buf.shape hown1
  have HP1 := Lib.hid (bytes_below HP.out hb1)
  have HT1 := Lib.hid (tab_on_below HT.out hb1 hglob)
  have hz1 : w.heap.size ≤ w1.heap.size := hb1.size
  have HB1 := Lib.hid hb1
  clear hown1 hb1 HPX HP HT
  -- p = zzClone(p)
  go_wp2_with fail
  refine (clone_arg a3 n3 c3 p w1 HP1.out hs3).mono ?_
  rintro e w2 ⟨vp, rfl, hown2, hb2⟩
  have SP := src_of_owns hown2
  obtain ⟨adp, capp, rfl⟩ := buf.shape hown2
  have S0' := S0.below hb2 (Nat.le_refl _)
  have HT2 := Lib.hid (tab_on_below HT1.out hb2 (by omega))
  have hz2 : w1.heap.size ≤ w2.heap.size := hb2.size
  have HB2 := Lib.hid (HB1.out.trans (hb2.mono (by omega)))
  have HS0 := Lib.hid (S0'.mono hz2)
  have HSP := Lib.hid SP
  clear hown2 hb2 HP1 HT1 HB1 S0 S0' SP
  -- seed := zzClone(prefix)
  go_wp2_with fail
  refine (clone_src w2.heap.size _ px w2 (Nat.le_refl _) HS0.out (by have := L0.out; omega)).mono ?_
  rintro e w3 ⟨vs, rfl, hown3, hb3⟩
  obtain ⟨ads, caps, rfl⟩ := buf.shape hown3
  have hz3 : w2.heap.size ≤ w3.heap.size := hb3.size
  have HT3 := Lib.hid (tab_on_below HT2.out hb3 (by omega))
  have HB3 := Lib.hid (HB2.out.trans (hb3.mono (by omega)))
  have HS03 := Lib.hid (HS0.out.below hb3 (Nat.le_refl _))
  have HSP3 := Lib.hid (HSP.out.below hb3 (Nat.le_refl _))
  have HO3 := Lib.hid hown3
  clear hown3 hb3 HT2 HB2 HS0 HSP
  -- buf := resp.ZZNewBuffer(seed)
  go_wp2_with fail
  refine (zzNew ads px.length caps w3).mono ?_
  rintro e w4 ⟨rfl, hw4⟩
  have hbuf4 : Buf w4 w2.heap.size w3.heap.size px := by
    subst hw4
    exact ⟨_, heap_alloc_new w3 _, HO3.out.alloc _⟩
  have hb4 : Below w3.heap.size w3 w4 := by subst hw4; exact (Below.refl _ _).alloc (Nat.le_refl _) _
  have hz4 : w3.heap.size < w4.heap.size := by subst hw4; simp
  have HT4 := Lib.hid (tab_on_below HT3.out hb4 (by omega))
  have HB4 := Lib.hid (HB3.out.trans (hb4.mono (by omega)))
  have HS4 := Lib.hid (HS03.out.below hb4 hz3)
  have HSP4 := Lib.hid (HSP3.out.below hb4 hz3)
  have HBUF4 := Lib.hid hbuf4
  clear hw4 hbuf4 hb4 HT3 HB3 HS03 HSP3 HO3
  -- ZZLine(buf, k1, s1)
  go_wp2_with fail
  refine (zzLine w2.heap.size w3.heap.size px k1 s1 w4 HBUF4.out (by omega) (by have := L0.out; omega)).mono ?_
  rintro e w5 ⟨rfl, hbuf5, hkb5⟩
  obtain ⟨u4, hk4⟩ := HBUF4.out.block
  have hz5 : w4.heap.size ≤ w5.heap.size := hkb5.size
  have HT5 := Lib.hid (tab_on HT4.out hkb5 (by omega) (by omega))
  have HB5 := Lib.hid (HB4.out.trans (hkb5.below (B' := w.heap.size) (by omega) (by omega)))
  have HS5 := Lib.hid (HS4.out.keep hk4 hkb5 (Nat.le_refl _))
  have HSP5 := Lib.hid (HSP4.out.keep hk4 hkb5 (Nat.le_refl _))
  have HBUF5 := Lib.hid hbuf5
  have hl5 : (px ++ lineOf k1 s1.data.toList).length = n0 + s1.size + 3 := by
    have e1 : s1.data.toList.length = s1.size := by simp
    have := L0.out
    simp [lineOf]; omega
  have HL5 := Lib.hid hl5
  clear hbuf5 hkb5 hk4 hl5 HT4 HB4 HS4 HSP4 HBUF4
  -- buf.Bulk(p)
  go_wp2_with fail
  refine (bulk_src w2.heap.size w3.heap.size _ _ p w5 HBUF5.out (by omega) (by have := HL5.out; have := L3.out; omega) (by omega) (by omega) HT5.out HSP5.out).mono ?_
  rintro e w6 ⟨rfl, hbuf6, hkb6⟩
  obtain ⟨u5, hk5⟩ := HBUF5.out.block
  have hz6 : w5.heap.size ≤ w6.heap.size := hkb6.size
  have HT6 := Lib.hid (tab_on HT5.out hkb6 (by omega) (by omega))
  have HB6 := Lib.hid (HB5.out.trans (hkb6.below (B' := w.heap.size) (by omega) (by omega)))
  have HS6 := Lib.hid (HS5.out.keep hk5 hkb6 (Nat.le_refl _))
  have HSP6 := Lib.hid (HSP5.out.keep hk5 hkb6 (Nat.le_refl _))
  have HBUF6 := Lib.hid hbuf6
  have hl6 : (px ++ lineOf k1 s1.data.toList ++ bulkOf p).length ≤ n0 + s1.size + n3 + 40 := by
    rw [List.length_append, HL5.out]
    have := bulk_len p (by have := L3.out; omega)
    have := L3.out
    omega
  have HL6 := Lib.hid hl6
  clear hbuf6 hkb6 hk5 hl6 HT5 HB5 HS5 HSP5 HBUF5
  -- ZZLine(buf, k2, s2)
  go_wp2_with fail
  refine (zzLine w2.heap.size w3.heap.size _ k2 s2 w6 HBUF6.out (by omega) (by have := HL6.out; omega)).mono ?_
  rintro e w7 ⟨rfl, hbuf7, hkb7⟩
  obtain ⟨u6, hk6⟩ := HBUF6.out.block
  have hz7 : w6.heap.size ≤ w7.heap.size := hkb7.size
  have HT7 := Lib.hid (tab_on HT6.out hkb7 (by omega) (by omega))
  have HB7 := Lib.hid (HB6.out.trans (hkb7.below (B' := w.heap.size) (by omega) (by omega)))
  have HS7 := Lib.hid (HS6.out.keep hk6 hkb7 (Nat.le_refl _))
  have HSP7 := Lib.hid (HSP6.out.keep hk6 hkb7 (Nat.le_refl _))
  have HBUF7 := Lib.hid hbuf7
  clear hbuf7 hkb7 hk6 HT6 HB6 HS6 HSP6 HBUF6
  obtain ⟨OUT, hOUT⟩ : ∃ O, O = px ++ lineOf k1 s1.data.toList ++ bulkOf p ++ lineOf k2 s2.data.toList := ⟨_, rfl⟩
  rw [← hOUT] at HBUF7
  have HOUT := Lib.hid hOUT
  clear hOUT
  -- out := resp.ZZBytes(buf)
  go_wp2_with fail
  refine (zzBytes w2.heap.size w3.heap.size OUT w7 HBUF7.out).mono ?_
  rintro e w7' ⟨vo, rfl, rfl, hk7, hown7⟩
  obtain ⟨ado, capo, rfl⟩ := buf.shape hown7
  have HSO := Lib.hid (src_of_owns hown7)
  clear hk7 hown7 HBUF7
  -- var a, b, c resp.Buffer
  go_wp2_with fail
  obtain ⟨w8, hw8⟩ : ∃ w8, w8 = ((w7'.alloc (Obj.cells #[Value.slice none 0 0] 30)).alloc (Obj.cells #[Value.slice none 0 0] 30)).alloc (Obj.cells #[Value.slice none 0 0] 30) := ⟨_, rfl⟩
  rw [← hw8]
  have hz8 : w8.heap.size = w7'.heap.size + 3 := by subst hw8; simp
  have hbA : ∀ B, Buf w8 B w7'.heap.size [] := fun B => by subst hw8; exact buf_alloc (buf_alloc (fresh_buf w7' B) _) _
  have hbB : ∀ B, Buf w8 B (w7'.heap.size + 1) [] := fun B => by
    subst hw8
    have h := fresh_buf (w7'.alloc (Obj.cells #[Value.slice none 0 0] 30)) B
    rw [World.size_alloc] at h
    exact buf_alloc h _
  have hbC : ∀ B, Buf w8 B (w7'.heap.size + 2) [] := fun B => by
    subst hw8
    have h := fresh_buf ((w7'.alloc (Obj.cells #[Value.slice none 0 0] 30)).alloc (Obj.cells #[Value.slice none 0 0] 30)) B
    rw [World.size_alloc, World.size_alloc] at h
    exact h
  have hb8 : Below w7'.heap.size w7' w8 := by
    subst hw8
    exact (((Below.refl _ _).alloc (Nat.le_refl _) _).alloc (by simp) _).alloc (by simp; omega) _
  have hz8' : w7'.heap.size + 3 ≤ w8.heap.size := by omega
  have HT8 := Lib.hid (tab_on_below HT7.out hb8 (by omega))
  have HB8 := Lib.hid (HB7.out.trans (hb8.mono (by omega)))
  have HS8 := Lib.hid (HS7.out.below hb8 (by omega))
  have HSP8 := Lib.hid (HSP7.out.below hb8 (by omega))
  have HSO8 := Lib.hid (HSO.out.below hb8 (Nat.le_refl _))
  have HBA := Lib.hid hbA
  have HBB := Lib.hid hbB
  have HBC := Lib.hid hbC
  have HZ8 := Lib.hid hz8
  clear hw8 hz8 hbA hbB hbC hb8 HT7 HB7 HS7 HSP7 HSO
  -- ZZLine(&a, k1, s1)
  refine (zzLine w8.heap.size w7'.heap.size [] k1 s1 w8 (HBA.out _) (Nat.le_refl _) (by simp; omega)).mono ?_
  rintro e w9 ⟨rfl, hbuf9, hkb9⟩
  obtain ⟨u8, hk8⟩ := (HBA.out 0).block
  have hz9 : w8.heap.size ≤ w9.heap.size := hkb9.size
  have HT9 := Lib.hid (tab_on HT8.out hkb9 (by omega) (by omega))
  have HB9 := Lib.hid (HB8.out.trans (hkb9.below (B' := w.heap.size) (by omega) (by omega)))
  have HS9 := Lib.hid (HS8.out.keep hk8 hkb9 (by omega))
  have HSP9 := Lib.hid (HSP8.out.keep hk8 hkb9 (by omega))
  have HSO9 := Lib.hid (HSO8.out.keep hk8 hkb9 (by omega))
  have HBB9 := Lib.hid (fun B => (HBB.out B).keep hk8 hkb9 (by omega))
  have HBC9 := Lib.hid (fun B => (HBC.out B).keep hk8 hkb9 (by omega))
  rw [List.nil_append] at hbuf9
  have HBA9 := Lib.hid hbuf9
  clear hbuf9 hkb9 hk8 HT8 HB8 HS8 HSP8 HSO8 HBA HBB HBC
  -- b.Bulk(p)
  go_wp2_with fail
  refine (bulk_src w9.heap.size (w7'.heap.size + 1) _ [] p w9 (HBB9.out _) (Nat.le_refl _) (by have := L3.out; simp; omega) (by omega) (by omega) HT9.out (HSP9.out.mono (by omega))).mono ?_
  rintro e w10 ⟨rfl, hbuf10, hkb10⟩
  obtain ⟨u9, hk9⟩ := (HBB9.out 0).block
  have hz10 : w9.heap.size ≤ w10.heap.size := hkb10.size
  have HB10 := Lib.hid (HB9.out.trans (hkb10.below (B' := w.heap.size) (by omega) (by omega)))
  have HS10 := Lib.hid (HS9.out.keep hk9 hkb10 (by omega))
  have HSO10 := Lib.hid (HSO9.out.keep hk9 hkb10 (by omega))
  have HBA10 := Lib.hid (HBA9.out.keep hk9 hkb10 (by omega))
  have HBC10 := Lib.hid (fun B => (HBC9.out B).keep hk9 hkb10 (by omega))
  rw [List.nil_append] at hbuf10
  have HBB10 := Lib.hid hbuf10
  clear hbuf10 hkb10 hk9 HT9 HB9 HS9 HSP9 HSO9 HBA9 HBB9 HBC9
  -- ZZLine(&c, k2, s2)
  go_wp2_with fail
  refine (zzLine w10.heap.size (w7'.heap.size + 2) [] k2 s2 w10 (HBC10.out _) (Nat.le_refl _) (by simp; omega)).mono ?_
  rintro e w11 ⟨rfl, hbuf11, hkb11⟩
  obtain ⟨u10, hk10⟩ := (HBC10.out 0).block
  have hz11 : w10.heap.size ≤ w11.heap.size := hkb11.size
  have HB11 := Lib.hid (HB10.out.trans (hkb11.below (B' := w.heap.size) (by omega) (by omega)))
  have HS11 := Lib.hid (HS10.out.keep hk10 hkb11 (by omega))
  have HSO11 := Lib.hid (HSO10.out.keep hk10 hkb11 (by omega))
  have HBA11 := Lib.hid (HBA10.out.keep hk10 hkb11 (by omega))
  have HBB11 := Lib.hid (HBB10.out.keep hk10 hkb11 (by omega))
  rw [List.nil_append] at hbuf11
  have HBC11 := Lib.hid hbuf11
  clear hbuf11 hkb11 hk10 HB10 HS10 HSO10 HBA10 HBB10 HBC10
  -- want := make([]byte, 0, ..)
  obtain ⟨i0, hi, hz0, hzs, hzb⟩ := info_parts dec.info5
  have hpl : px.length ≤ 1048576 := by have := L0.out; omega
  have hppl : p.length ≤ 1048576 := by have := L3.out; omega
  go_wp2_with (at_make; refine wpList_make_own _ rfl _ _ 24 rfl w11.heap.size 5 i0 (.int .u8 0) 1 Tryd.underlying24 hi hz0 hzs .i64 .i64 _ (px.length + s1.size + p.length + s2.size + 32) rfl rfl (by omega) (by rw [hzb]; omega) (by unfold maxLen; omega) (Nat.le_refl _) ?_; intro w12 hown12 hg12; refine Hid.out ?_)
  refine Lib.hid ?_
  have hb12 : Below w11.heap.size w11 w12 := (Below.refl _ _).grown hg12 (Nat.le_refl _) (by simp)
  have hz12 : w11.heap.size ≤ w12.heap.size := hb12.size
  have HB12 := Lib.hid (HB11.out.trans (hb12.mono (by omega)))
  have HS12 := Lib.hid ((HS11.out.mono (B' := w11.heap.size) (by omega)).below hb12 (Nat.le_refl _))
  have HSO12 := Lib.hid ((HSO11.out.mono (B' := w11.heap.size) (by omega)).below hb12 (Nat.le_refl _))
  have HBA12 := Lib.hid (low_of HBA11.out hb12)
  have HBB12 := Lib.hid (low_of HBB11.out hb12)
  have HBC12 := Lib.hid (low_of HBC11.out hb12)
  have HO12 := Lib.hid hown12
  clear hown12 hg12 hb12 HB11 HS11 HSO11 HBA11 HBB11 HBC11
  have hll1 := line_len k1 s1
  have hll2 := line_len k2 s2
  have hblen := bulk_len p hppl
  -- want = append(want, prefix...)
  go_wp2_with (at_builtin; refine append_src rfl _ _ rfl w11.heap.size _ _ (([] : List UInt8)) (px) rfl HO12.out rfl w11.heap.size HS12.out (by first | omega | (simp only [List.length_nil]; omega)) (by omega) ?_; intro v13 w13 hown13 hg13; refine Hid.out ?_)
  refine Lib.hid ?_
  obtain ⟨L13, hL13⟩ : ∃ L, L = (([] : List UInt8)) ++ (px) := ⟨_, rfl⟩
  rw [← hL13] at hown13
  have HLE13 := Lib.hid hL13
  have hlb13 : L13.length ≤ (([] : List UInt8)).length + (px).length := by rw [hL13, List.length_append]; exact Nat.le_refl _
  simp only [List.length_nil, Nat.zero_add] at hlb13
  clear hL13
  obtain ⟨ad13, cap13, rfl⟩ := buf.shape hown13
  have hb13 : Below w11.heap.size w12 w13 := (Below.refl _ _).grown hg13 (by omega) (fun k hk => (HO12.out.lt k hk).1)
  have hz13 : w11.heap.size ≤ w13.heap.size := by have := hb13.size; omega
  have HB13 := Lib.hid (HB12.out.trans (hb13.mono (by omega)))
  have HSO13 := Lib.hid (HSO12.out.below hb13 (Nat.le_refl _))
  have HO13 := Lib.hid hown13
  have HBA13 := Lib.hid (HBA12.out.below hb13)
  have HBB13 := Lib.hid (HBB12.out.below hb13)
  have HBC13 := Lib.hid (HBC12.out.below hb13)
  clear hown13 hg13 hb13 HS12 HB12 HSO12 HBA12 HBB12 HBC12 HO12
  -- want = append(want, resp.ZZBytes(&a)...)
  go_wp2_with fail
  refine (low_bytes _ _ _ _ HBA13.out).mono ?_
  rintro e wa ⟨va, rfl, rfl, SA⟩
  obtain ⟨ada, capa, rfl⟩ := src_shape SA
  have HSA := Lib.hid SA
  clear SA
  go_wp2_with (at_builtin; refine append_src rfl _ _ rfl w11.heap.size _ _ (L13) (lineOf k1 s1.data.toList) rfl HO13.out rfl w11.heap.size HSA.out (by first | omega | (simp only [List.length_nil]; omega)) (by omega) ?_; intro v14 w14 hown14 hg14; refine Hid.out ?_)
  refine Lib.hid ?_
  obtain ⟨L14, hL14⟩ : ∃ L, L = (L13) ++ (lineOf k1 s1.data.toList) := ⟨_, rfl⟩
  rw [← hL14] at hown14
  have HLE14 := Lib.hid hL14
  have hlb14 : L14.length ≤ (L13).length + (lineOf k1 s1.data.toList).length := by rw [hL14, List.length_append]; exact Nat.le_refl _
  skip
  clear hL14
  obtain ⟨ad14, cap14, rfl⟩ := buf.shape hown14
  have hb14 : Below w11.heap.size w13 w14 := (Below.refl _ _).grown hg14 (by omega) (fun k hk => (HO13.out.lt k hk).1)
  have hz14 : w11.heap.size ≤ w14.heap.size := by have := hb14.size; omega
  have HB14 := Lib.hid (HB13.out.trans (hb14.mono (by omega)))
  have HSO14 := Lib.hid (HSO13.out.below hb14 (Nat.le_refl _))
  have HO14 := Lib.hid hown14
  have HBB14 := Lib.hid (HBB13.out.below hb14)
  have HBC14 := Lib.hid (HBC13.out.below hb14)
  clear hown14 hg14 hb14 HB13 HSO13 HBA13 HBB13 HBC13 HO13 HSA
  -- want = append(want, resp.ZZBytes(&b)...)
  go_wp2_with fail
  refine (low_bytes _ _ _ _ HBB14.out).mono ?_
  rintro e wb ⟨vb, rfl, rfl, SB⟩
  obtain ⟨adb, capb, rfl⟩ := src_shape SB
  have HSB := Lib.hid SB
  clear SB
  go_wp2_with (at_builtin; refine append_src rfl _ _ rfl w11.heap.size _ _ (L14) (bulkOf p) rfl HO14.out rfl w11.heap.size HSB.out (by first | omega | (simp only [List.length_nil]; omega)) (by omega) ?_; intro v15 w15 hown15 hg15; refine Hid.out ?_)
  refine Lib.hid ?_
  obtain ⟨L15, hL15⟩ : ∃ L, L = (L14) ++ (bulkOf p) := ⟨_, rfl⟩
  rw [← hL15] at hown15
  have HLE15 := Lib.hid hL15
  have hlb15 : L15.length ≤ (L14).length + (bulkOf p).length := by rw [hL15, List.length_append]; exact Nat.le_refl _
  skip
  clear hL15
  obtain ⟨ad15, cap15, rfl⟩ := buf.shape hown15
  have hb15 : Below w11.heap.size w14 w15 := (Below.refl _ _).grown hg15 (by omega) (fun k hk => (HO14.out.lt k hk).1)
  have hz15 : w11.heap.size ≤ w15.heap.size := by have := hb15.size; omega
  have HB15 := Lib.hid (HB14.out.trans (hb15.mono (by omega)))
  have HSO15 := Lib.hid (HSO14.out.below hb15 (Nat.le_refl _))
  have HO15 := Lib.hid hown15
  have HBC15 := Lib.hid (HBC14.out.below hb15)
  clear hown15 hg15 hb15 HB14 HSO14 HBB14 HBC14 HO14 HSB
  -- want = append(want, resp.ZZBytes(&c)...)
  go_wp2_with fail
  refine (low_bytes _ _ _ _ HBC15.out).mono ?_
  rintro e wc ⟨vc, rfl, rfl, SC⟩
  obtain ⟨adc, capc, rfl⟩ := src_shape SC
  have HSC := Lib.hid SC
  clear SC
  go_wp2_with (at_builtin; refine append_src rfl _ _ rfl w11.heap.size _ _ (L15) (lineOf k2 s2.data.toList) rfl HO15.out rfl w11.heap.size HSC.out (by first | omega | (simp only [List.length_nil]; omega)) (by omega) ?_; intro v16 w16 hown16 hg16; refine Hid.out ?_)
  refine Lib.hid ?_
  obtain ⟨L16, hL16⟩ : ∃ L, L = (L15) ++ (lineOf k2 s2.data.toList) := ⟨_, rfl⟩
  rw [← hL16] at hown16
  have HLE16 := Lib.hid hL16
  have hlb16 : L16.length ≤ (L15).length + (lineOf k2 s2.data.toList).length := by rw [hL16, List.length_append]; exact Nat.le_refl _
  skip
  clear hL16
  obtain ⟨ad16, cap16, rfl⟩ := buf.shape hown16
  have hb16 : Below w11.heap.size w15 w16 := (Below.refl _ _).grown hg16 (by omega) (fun k hk => (HO15.out.lt k hk).1)
  have hz16 : w11.heap.size ≤ w16.heap.size := by have := hb16.size; omega
  have HB16 := Lib.hid (HB15.out.trans (hb16.mono (by omega)))
  have HSO16 := Lib.hid (HSO15.out.below hb16 (Nat.le_refl _))
  have HO16 := Lib.hid hown16
  clear hown16 hg16 hb16 HB15 HSO15 HBC15 HO15 HSC
  have hfin : L16 = OUT := by rw [HLE16.out, HLE15.out, HLE14.out, HLE13.out, HOUT.out, List.nil_append]
  have hne : OUT ≠ [] := by rw [HOUT.out]; simp [lineOf]
  have hol : L16.length ≤ 1099511627776 := by omega
  clear HLE13 HLE14 HLE15 HLE16 HOUT
  subst hfin
  have HNE := Lib.hid hne
  clear hne
  go_wp2_with fail
  refine (equal_src _ _ _ _ _ w16 hol HNE.out HSO16.out (src_of_owns HO16.out)).mono ?_
  rintro e w17 ⟨rfl, n, rfl⟩
  go_wp2
  go_ret
  exact ⟨rfl, below_drewN HB16.out _⟩
end Go.Proofs.Qxb6600527aDoor.rep
