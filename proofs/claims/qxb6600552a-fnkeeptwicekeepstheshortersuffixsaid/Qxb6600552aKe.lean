/-
  'Keep': the walk.
-/
import Derived.Test.Qxb6600552aKd
set_option linter.unusedVariables false
set_option linter.unusedSimpArgs false
namespace Go.Proofs.Qxb6600552a.kt
open Go.ChangeShapes Go.WideShapes Go.RowKit Go.Maps

/-- a unit's ten cells -/
abbrev ulist (u : U) (ra wa : Option Addr) (rc wk : Nat) : List Value := [.string u.id, e0, e0, e0, e0, .pointer none, .pointer none, .pointer none, .slice ra u.reads.length rc, .slice wa u.writes.length wk]
/-- a loop's variable: a copy of a unit -/
def VarU (W : World) (g : Nat) (u : U) (ra wa : Option Addr) (rc wk : Nat) : Prop := W.heap[g]? = some (.cells (ulist u ra wa rc wk).toArray 43 (0, 0))
theorem VarU.kp {W W' : World} {g : Nat} {u : U} {ra wa : Option Addr} {rc wk : Nat} {S : Nat → Prop} (h : VarU W g u ra wa rc wk) (hk : Kp S W W') (hs : ¬ S g) : VarU W' g u ra wa rc wk := by
  unfold VarU
  rw [hk.block g (Array.getElem?_eq_some_iff.1 h).1 hs]
  exact h
theorem VarU.cell {W : World} {g : Nat} {u : U} {ra wa : Option Addr} {rc wk : Nat} (h : VarU W g u ra wa rc wk) : W.cell? ⟨g, 0, none⟩ = some (.string u.id) ∧ W.cell? ⟨g, 8, none⟩ = some (.slice ra u.reads.length rc) ∧ W.cell? ⟨g, 9, none⟩ = some (.slice wa u.writes.length wk) :=
  ⟨cell_of_row _ _ _ _ _ _ h, cell_of_row _ _ _ _ _ _ h, cell_of_row _ _ _ _ _ _ h⟩
theorem cl_len (us : List U) : (cl us).length = (pl us).length := by
  unfold cl pl
  induction us with
  | nil => rfl
  | cons u l ih => simp only [List.flatMap_cons, List.length_append, List.length_map] at ih ⊢; omega
theorem upd_id {α : Type} (f : ByteArray → α) (c : ByteArray) : upd f c (f c) = f := by
  funext d
  by_cases h : d = c
  · subst h; rw [upd_same]
  · rw [upd_other _ _ h]
theorem Ls_mem {us : List U} {d : Nat} {done : List ByteArray} {c x : ByteArray} (h : x ∈ Ls us d done c) : ∃ i, ∃ hi : i < us.length, (us[i]).id = x := by
  have h1 : x ∈ rd (pl us) c := by
    unfold Ls at h
    split at h
    · exact (List.mem_filter.1 h).1
    · exact h
  obtain ⟨i, hi, e, _⟩ := mem_pl (mem_rd h1)
  exact ⟨i, hi, e⟩
theorem Ls_more {us : List U} {d : Nat} {a b : List ByteArray} {c : ByteArray} (h : Ls us d (a ++ b) c ≠ []) : Ls us d a c ≠ [] := by
  have h2 := Ls_sub h
  by_cases q : c ∈ a
  · unfold Ls at h ⊢
    rw [if_pos (by simp [q])] at h
    rw [if_pos q]; exact h
  · unfold Ls
    rw [if_neg q]; exact h2
section
variable {B Bk bb m1 m2 m3 n1 n2 n3 : Nat} {W W7 W8 : World} {us : List U} {uv pv : Value} {xs : List UV} {blk cap : ByteArray → Nat} {L : ByteArray → List ByteArray} {Ra Rw : Value → Value → Prop} {c : ByteArray} {l : List ByteArray}
/-- a list of readers sifted in place: what is left is stored -/
theorem KS.put (h : KS B Bk W bb us uv pv m1 m2 m3 xs blk cap L Ra Rw n1 n2 n3) (hL : L c ≠ []) (hk : Kp (fun j => j = blk c) W W7) (hs : Strs W7 B (blk c) (cap c) l) (hl : l ≠ []) (ht : W7.drew.mapTurned W8 m3)
    (hm : MV W8 9 m3 (n3 + 1) (putR (Rrd L blk cap) (.string c) (.slice (some ⟨blk c, 0, none⟩) l.length (cap c)))) : KS B Bk W8 bb us uv pv m1 m2 m3 xs blk cap (upd L c l) Ra Rw n1 n2 (n3 + 1) := by
  have hk1 : Kp (fun j => L c ≠ [] ∧ j = blk c) W W7.drew := (hk.drew).mono fun j _ e => ⟨hL, e⟩
  have hr := h.mrd.put (c := c) (l := l) (g := blk c) (k := cap c) hl hk1 hs (.inl ⟨hL, rfl⟩) ht hm
  rw [upd_id, upd_id] at hr
  refine h.rd (c := c) ((hk1.mono fun _ _ e => .inl e).turned ht (.inr (.inr rfl))) hr fun e he => ?_
  by_cases q : e = c
  · rw [q]; exact hL
  · rw [upd_other _ _ q] at he; exact he
/-- .. nothing is left: it is struck -/
theorem KS.strike (h : KS B Bk W bb us uv pv m1 m2 m3 xs blk cap L Ra Rw n1 n2 n3) (hL : L c ≠ []) (hk : Kp (fun j => j = blk c) W W7) (ht : W7.drew.mapTurned W8 m3) (hm : MV W8 9 m3 n3 (delR (Rrd L blk cap) (.string c))) :
    KS B Bk W8 bb us uv pv m1 m2 m3 xs blk cap (upd L c []) Ra Rw n1 n2 n3 := by
  have hk1 : Kp (fun j => L c ≠ [] ∧ j = blk c) W W7.drew := (hk.drew).mono fun j _ e => ⟨hL, e⟩
  have hr := h.mrd.del (c := c) hk1 ht hm
  refine h.rd (c := c) ((hk1.mono fun _ _ e => .inl e).turned ht (.inr (.inr rfl))) hr fun e he => ?_
  by_cases q : e = c
  · rw [q]; exact hL
  · rw [upd_other _ _ q] at he; exact he
theorem KS.more (h : KS B Bk W bb us uv pv m1 m2 m3 xs blk cap L Ra Rw n1 n2 n3) {n : Nat} (hn : n3 ≤ n) : KS B Bk W bb us uv pv m1 m2 m3 xs blk cap L Ra Rw n1 n2 n :=
  ⟨h.cells, h.hxs, h.hu, h.hp, h.hx, h.iu, h.ip, h.mat, h.mwr, ⟨h.mrd.map.mono hn, h.mrd.row, h.mrd.inj, h.mrd.ne⟩, h.ge, h.ne, h.fre, h.lt⟩
end
theorem ucells_drop (xs : List UV) (d : Nat) : (ucells xs).drop (d * 10) = ucells (xs.drop d) := by
  induction d generalizing xs with
  | zero => simp
  | succ d ih =>
    cases xs with
    | nil => simp [ucells]
    | cons x l =>
      rw [show ucells (x :: l) = ucell x ++ ucells l from rfl, show (d + 1) * 10 = (ucell x).length + d * 10 by show _ = 10 + _; omega, List.drop_append, List.drop_succ_cons]
      rw [show (ucell x).drop ((ucell x).length + d * 10) = [] from List.drop_of_length_le (by omega), List.nil_append, show (ucell x).length + d * 10 - (ucell x).length = d * 10 by omega]
      exact ih l
theorem uv_one {xs : List UV} {B : Nat} {w : World} {p : Nat → Prop} (h : ∀ x, x ∈ xs → UOk B w p x) : ∀ v, v ∈ ucells xs → v.oneCell' = true := by
  intro v hv
  obtain ⟨x, hx, hv⟩ := List.mem_flatMap.1 hv
  obtain ⟨o1, o2, _⟩ := h x hx
  obtain ⟨a, c, e1⟩ := own_shape o1
  obtain ⟨a', c', e2⟩ := own_shape o2
  unfold ucell at hv
  rw [e1, e2] at hv
  simp only [List.mem_cons, List.not_mem_nil, or_false] at hv
  rcases hv with rfl | rfl | rfl | rfl | rfl | rfl | rfl | rfl | rfl | rfl <;> rfl
/-- the end of it -/
theorem KS.finish {B Bk bb m1 m2 m3 n1 n2 n3 N' d : Nat} {W W' : World} {us : List U} {uv pv v v2 : Value} {xs : List UV} {blk cap : ByteArray → Nat}
    (h : KS B Bk W bb us uv pv m1 m2 m3 xs blk cap (Ls us d (cl (us.take d))) (R1 us d) (R2 us (wl (us.take d))) n1 n2 n3) (hd : Dist us us.length) (hBk : Bk ≤ W.heap.size) (hB : B ≤ Bk)
    (hk : Kp (fun k => k = bb ∨ k = m1) W W') (hc : W'.heap[bb]? = some (.cells #[v, v2, .map (some m1), .map (some m2), .map (some m3)] 61 (0, 0)))
    (hu : W'.ownsRow W.heap.size 43 10 v (us.drop d).length (ucells (xs.drop d))) (hp : W'.ownsRow W.heap.size 9 1 v2 (us.drop d).length ((us.drop d).map fun u => .string u.place))
    (hm : MV W' 9 m1 N' (R5 us d (us.drop d).length)) (h2 : n2 ≤ N') (h3 : n3 ≤ N') : BS B N' W' bb (us.drop d) := by
  have k := h.same (fun _ _ => Iff.rfl) (R2_end hd) (Ls_end hd)
  obtain ⟨e1, e2, e3, e4, e5, e6⟩ := k.ne
  obtain ⟨l0, l1, l2, l3, l4⟩ := k.lt
  obtain ⟨f0, f1, f2⟩ := k.fre
  have hnew : ∀ g, W.heap.size ≤ g → Imm bb m1 m2 m3 (_root_.Go.Proofs.Qxb6600552a.kt.rd (pl (us.drop d))) blk g := by
    intro g hg
    exact ⟨by omega, by omega, by omega, by omega, fun c hc => by have := l4 c hc; omega⟩
  refine ⟨v, v2, m1, m2, m3, xs.drop d, blk, cap, hc, by rw [List.map_drop, h.hxs], own_mono hu (by omega), own_mono hp (by omega), fun x hx => ?_, fun g hg => hnew g (own_base hu g hg), fun g hg => hnew g (own_base hp g hg), hm.congr R5_end, (k.mwr.kp hk ?_).mono h2, ?_, k.ge, k.ne, k.fre⟩
  · have hx' := k.hx x (List.mem_of_mem_drop hx)
    refine (hx'.kp hk ?_).imp fun g _ hg => hg.1
    rintro g hg (e | e)
    · exact hg.1.1 e
    · exact hg.1.2.1 e
  · rintro (e | e)
    · exact e2 e.symm
    · exact e4 e.symm
  · have hr := k.mrd.kp hk (by
      rintro j (rfl | ⟨c, hc, rfl⟩) (e | e)
      · exact e3 e.symm
      · exact e5 e.symm
      · exact f0 c hc e
      · exact f1 c hc e)
    exact ⟨hr.map.mono h3, hr.row, hr.inj, hr.ne⟩
theorem run_makeMap_n (d : Nat) (w : World) : (Instr.makeMap 51 (some (.int .i64 d))).run Try.prog w = .ok (.map (some w.heap.size)) (w.alloc (.map #[] 0)) := by
  simp [Instr.makeMap, asInt, asIntOf]
set_option maxRecDepth 100000 in
set_option maxHeartbeats 16000000 in
theorem keep_ok (B N bb : Nat) (us : List U) (k : Nat) (w : World) (hok : Ok us) (hN : N ≤ 100000000) (hk63 : k ≤ 9223372036854775807) (h : BS B N w bb us) :
    Calls Try.prog 11 #[.pointer (some ⟨bb, 0, none⟩), .int .i64 k] w fun e w' => e = .returned (.tuple #[]) ∧ BS B (N + 2000000) w' bb (us.drop (us.length - k)) ∧ Below B w w' := by
  obtain ⟨uv, pv, m1, m2, m3, xs, blk, cap, hb⟩ := h
  obtain ⟨ua, ucap, rfl⟩ := own_shape hb.hu
  obtain ⟨pa, pcap, rfl⟩ := own_shape hb.hp
  have hks := hb.ks
  have HK := Lib.hid hok
  have hl := hok.len
  obtain ⟨c0, c1, c2, c3, c4⟩ := hks.cell
  by_cases hle : us.length ≤ k
  case pos =>
    have HB : Hid (BS B (N + 2000000) w bb us) := Lib.hid ⟨_, _, m1, m2, m3, xs, blk, cap, hb.cells, hb.hxs, hb.hu, hb.hp, hb.hx, hb.iu, hb.ip, hb.mat.mono (by omega), hb.mwr.mono (by omega), ⟨hb.mrd.map.mono (by omega), hb.mrd.row, hb.mrd.inj, hb.mrd.ne⟩, hb.ge, hb.ne, hb.fre⟩
    have HE : Hid (us.length - k = 0) := Lib.hid (by omega)
    clear hb hks c1 c2 c3 c4
    have hdec : decide ((us.length : Int) - (k : Int) ≤ 0) = true := decide_eq_true (by omega)
    go_enter Try.func11, Try.ntmps11
    go_wp2
    (try simp only [Exit.inBlock, Exit.then])
    refine bodyPost_ret (results_none rfl _ _ _) rfl ?_
    refine ⟨rfl, ?_, Below.refl _ _⟩
    rw [HE.out]
    exact HB.out
  case neg =>
  obtain ⟨d, hd⟩ : ∃ d, d = us.length - k := ⟨_, rfl⟩
  have hd0 : 0 < d := by omega
  have hdl : d ≤ us.length := by omega
  have hdi : (us.length : Int) - (k : Int) = (d : Int) := by omega
  obtain ⟨gu, ucap', eu, hucap⟩ := own_some hb.hu (by omega)
  cases eu
  obtain ⟨gp, pcap', ep, hpcap⟩ := own_some hb.hp (by omega)
  cases ep
  have HKS : Hid (KS B w.heap.size w bb us (.slice (some ⟨gu, 0, none⟩) us.length ucap) (.slice (some ⟨gp, 0, none⟩) us.length pcap) m1 m2 m3 xs blk cap (Ls us d []) (R1 us 0) (R2 us (wl (us.take 0))) N N N) := Lib.hid (hks.same (R1_zero us) (R2_zero us) (Ls_zero us d))
  rw [← hd]
  have HBw : Hid (B ≤ w.heap.size) := Lib.hid (by have h1 := hb.ge.1; have h2 := (Array.getElem?_eq_some_iff.1 hb.cells).1; omega)
  have hmm := run_makeMap_n d
  clear hd hb hks c1 c2 c3 c4 hle
  go_enter Try.func11, Try.ntmps11
  go_upto_region 1 with fail
  clear hdi
  have hdec : decide ((d : Int) ≤ 0) = false := decide_eq_false (by omega)
  go_upto_region 3 with fail
  have hN1 : New w ((w.alloc (.map #[] 0)).alloc (.cells #[.map (some w.heap.size)] 51)) := ((Kp.refl _ _).alloc _).alloc _
  have hK1 := HKS.out.keep (hN1.any _)
  have HK1 := Lib.hid hK1
  have HG1 : Hid (Gone ((w.alloc (.map #[] 0)).alloc (.cells #[.map (some w.heap.size)] 51)) (w.heap.size + 1) w.heap.size 0 (Pg us 0)) := Lib.hid (by
    refine ⟨?_, ((mv_made w 9).kp (S := fun _ => False) ((Kp.refl _ _).alloc _) (fun h => h)).congr fun key v => ⟨fun h => h.elim, fun ⟨_, s, _, hs⟩ => ?_⟩⟩
    · have := heap_alloc2_new w (.map #[] 0) (.cells #[.map (some w.heap.size)] 51)
      exact cell_of_row _ _ _ _ _ _ this
    · obtain ⟨j, _, hj, _⟩ := Pg_iff.1 hs
      omega)
  have HN1 := Lib.hid hN1
  obtain ⟨c1, _⟩ := hK1.cell
  clear hK1 hN1 c0
  go_cut [5, 34, 35, 36] (fun a b c e W => ∃ gc mg, a = .pointer (some ⟨gc, 0, none⟩) ∧ b = .slice (some ⟨gu, 0, none⟩) d ucap ∧ c = .int .i64 d ∧ e = .int .i64 0 ∧
    Hid (KS B w.heap.size W bb us (.slice (some ⟨gu, 0, none⟩) us.length ucap) (.slice (some ⟨gp, 0, none⟩) us.length pcap) m1 m2 m3 xs blk cap (Ls us d []) (R1 us 0) (R2 us (wl (us.take 0))) N N N) ∧ Hid (Gone W gc mg 0 (Pg us 0)) ∧ Hid (w.heap.size ≤ gc ∧ w.heap.size ≤ mg ∧ gc ≠ mg) ∧ Hid (Below B w W))
  case first =>
    go_wp2_with fail
    go_meet
    exact ⟨_, _, rfl, rfl, rfl, rfl, HK1, HG1, Lib.hid ⟨by omega, by omega, by omega⟩, Lib.hid ((New.below HN1.out).mono HBw.out)⟩
  case rest =>
  obtain ⟨gc, mg, rfl, rfl, rfl, rfl, HK2, HG2, HLoc, HB2⟩ := hcut
  clear HKS HK1 HG1 HN1 c1
  go_upto_block 0 with fail
  go_cut [36] (fun _ W => Hid (KS B w.heap.size W bb us (.slice (some ⟨gu, 0, none⟩) us.length ucap) (.slice (some ⟨gp, 0, none⟩) us.length pcap) m1 m2 m3 xs blk cap (Ls us d []) (R1 us d) (R2 us (wl (us.take d))) N N N) ∧ Hid (Gone W gc mg d (Pg us d)) ∧ Hid (Below B w W))
  case first =>
    go_wp2_with fail
    go_loopw [36] (fun s W => ∃ i : Nat, i ≤ d ∧ s = .int .i64 i ∧ Hid (KS B w.heap.size W bb us (.slice (some ⟨gu, 0, none⟩) us.length ucap) (.slice (some ⟨gp, 0, none⟩) us.length pcap) m1 m2 m3 xs blk cap (Ls us d []) (R1 us i) (R2 us (wl (us.take i))) N N N) ∧
      Hid (Gone W gc mg i (Pg us i)) ∧ Hid (Below B w W)) (fun s _ => d - (intOf s).toNat)
    case atStart => exact ⟨0, by omega, rfl, HK2, HG2, HB2⟩
    case round =>
      obtain ⟨i, hi, rfl, HKs, HGs, HBs⟩ := hrel
      by_cases hlt : i < d
      · have hlu : i < us.length := by omega
        obtain ⟨ra, rc, wa, wk, o1, o2, hcell, q1, q2⟩ := HKs.out.unit rfl hlu
        have zk := HK.out.sz _ (List.getElem_mem hlu)
        obtain ⟨u, hu⟩ : ∃ u, u = us[i] := ⟨_, rfl⟩
        rw [← hu] at o1 o2 hcell zk q1 q2
        have HUE := Lib.hid hu
        have HO2 := Lib.hid (And.intro o2 q2)
        have HCELL := Lib.hid hcell
        have HZ := Lib.hid zk
        have HSZ : Hid (w.heap.size ≤ wr.heap.size) := Lib.hid HBs.out.size
        have hwl : u.writes.length ≤ 9223372036854775807 := zk.2.2.2.1
        clear hu o1 o2 hcell zk q1 q2 HK2 HG2 HB2
        -- u := b.units[i]
        go_upto_region 6 with (refine wpList_load_cells _ rfl 43 (.tmp 38) rfl ⟨gu, i * 10, none⟩ rfl (ulist u ra wa rc wk) _ Try.underlying43 rfl info43s HCELL.out ?_)
        obtain ⟨w1, hw1⟩ : ∃ X, X = wr.alloc (.cells (ulist u ra wa rc wk).toArray 43) := ⟨_, rfl⟩
        rw [← hw1]
        obtain ⟨g7, hg7⟩ : ∃ g, g = wr.heap.size := ⟨_, rfl⟩
        rw [← hg7]
        have hN1 : New wr w1 := by rw [hw1]; exact (Kp.refl _ _).alloc _
        have HV1 : Hid (VarU w1 g7 u ra wa rc wk) := Lib.hid (by rw [hw1, hg7]; exact heap_alloc_new _ _)
        have hgl : gc < g7 ∧ mg < g7 := ⟨by rw [hg7]; exact World.block_lt_of_cell? wr _ HGs.out.1, by rw [hg7]; exact HGs.out.2.lt⟩
        have hg7w : w.heap.size ≤ g7 := by rw [hg7]; exact HSZ.out
        obtain ⟨hgc, hgm⟩ := hgl
        have HK1 := Lib.hid (HKs.out.keep (New.any hN1 _))
        have hG1 := HGs.out.kp hN1 (fun h => h) (fun h => h)
        have HB1 : Hid (Below B w w1) := Lib.hid (HBs.out.trans ((New.below hN1).mono (Nat.le_trans HBw.out HSZ.out)))
        have HO1 : Hid (w1.ownsRow B 63 3 (.slice wa u.writes.length wk) u.writes.length (wcells u.writes)) := Lib.hid (ownsRow_kp HO2.out.1 hN1 (fun _ _ h => h))
        obtain ⟨w2, hst2, hm2, ht2⟩ := hG1.2.store kS Try.underlying51 (show i < maxLen by unfold maxLen; omega) ⟨_, key_str (show u.id.size ≤ maxLen from HZ.out.1)⟩ (.bool true)
        have hk2 : Kp (fun j => j = mg) w1 w2 := (Kp.refl _ _).turned ht2 (.inr rfl)
        obtain ⟨l1, l2, l3⟩ := HLoc.out
        have HK2 := Lib.hid (HK1.out.keep (hk2.mono fun j _ e => by rw [e]; exact l2))
        have HV2 := Lib.hid (HV1.out.kp hk2 (by omega))
        have HG2 : Hid (Gone w2 gc mg (i + 1) (Pg us (i + 1))) := Lib.hid ⟨by rw [hk2.cell (p := ⟨gc, 0, none⟩) (World.block_lt_of_cell? w1 _ hG1.1) l3]; exact hG1.1, hm2.congr (by rw [HUE.out]; exact Rg_put hlu)⟩
        have HB2 : Hid (Below B w w2) := Lib.hid (HB1.out.trans (hk2.below (Nat.le_trans HBw.out (Nat.le_trans HSZ.out hN1.size)) (fun j e => by have := HBw.out; omega)))
        have HO2' : Hid (w2.ownsRow B 63 3 (.slice wa u.writes.length wk) u.writes.length (wcells u.writes)) := Lib.hid (ownsRow_kp HO1.out hk2 (fun g hg e => by have := (HO2.out.2 g hg).2; omega))
        have e1 := hG1.1
        obtain ⟨e2, e3, e4⟩ := HV1.out.cell
        clear hw1 hg7 hN1 hG1 hm2 ht2 hk2 HCELL HKs HGs HBs e3 e4 l1 l2 l3 HK1 HB1 HO1
        -- gone[u.ID] = true
        go_upto_region 7 with fail
        clear e1 e2 hst2 HV1
        obtain ⟨c0, c1, c2, c3, c4⟩ := HK2.out.cell
        obtain ⟨v0, v8, v9⟩ := HV2.out.cell
        obtain ⟨w3, hdl, hm3, ht3⟩ := MV.del (w := w2.drew) HK2.out.mat kS Try.underlying53 ⟨_, key_str (show u.id.size ≤ maxLen from HZ.out.1)⟩ 0
        have hk3 : Kp (fun j => j = m1) w2 w3 := ((Kp.refl _ _).drew).turned ht3 (.inr rfl)
        have l1 := HK2.out.lt.2.1
        have HK3 : Hid (KS B w.heap.size w3 bb us (.slice (some ⟨gu, 0, none⟩) us.length ucap) (.slice (some ⟨gp, 0, none⟩) us.length pcap) m1 m2 m3 xs blk cap (Ls us d []) (R1 us (i + 1)) (R2 us (wl (us.take i))) N N N) := Lib.hid (KS.at (HK2.out.keep ((Kp.refl _ _).drew)) ht3 (hm3.congr (by rw [HUE.out]; exact R1_del hlu)))
        have HV3 := Lib.hid (HV2.out.kp hk3 (by omega))
        have HG3 := Lib.hid (HG2.out.kp hk3 (by have := HLoc.out; omega) (by have := HLoc.out; omega))
        have HB3 : Hid (Below B w w3) := Lib.hid (HB2.out.trans (hk3.below (Nat.le_trans HBw.out HB2.out.size) (fun j e => by rw [e]; exact HK2.out.ge.2.1)))
        have HO3 : Hid (w3.ownsRow B 63 3 (.slice wa u.writes.length wk) u.writes.length (wcells u.writes)) := Lib.hid (ownsRow_kp HO2'.out hk3 (fun g hg e => (HO2.out.2 g hg).1.2.1 e))
        obtain ⟨_, _, x9⟩ := HV3.out.cell
        clear hm3 ht3 hk3 l1 HK2 HV2 HG2 HB2 HO2' c0 c1 c3 c4 v8 v9
        -- delete(b.at, u.ID)
        go_upto_region 7 with fail
        go_cut [] (fun W => W = w3)
        case first =>
          go_region
          all_goals
            go_wp2_with fail
            go_meet
            rfl
        case rest =>
        replace hcut := hcut.symm
        subst hcut
        clear hdl c2 v0
        go_wp2_with fail
        go_loopw [52] (fun s W => ∃ j : Nat, j ≤ u.writes.length ∧ s = .int .i64 j ∧ Hid (KS B w.heap.size W bb us (.slice (some ⟨gu, 0, none⟩) us.length ucap) (.slice (some ⟨gp, 0, none⟩) us.length pcap) m1 m2 m3 xs blk cap (Ls us d []) (R1 us (i + 1)) (R2 us (wl (us.take i) ++ (u.writes.take j).map fun x => (u.id, x))) N N N) ∧
          Hid (Gone W gc mg (i + 1) (Pg us (i + 1))) ∧ Hid (VarU W g7 u ra wa rc wk) ∧ Hid (W.ownsRow B 63 3 (.slice wa u.writes.length wk) u.writes.length (wcells u.writes)) ∧ Hid (Below B w W)) (fun s _ => u.writes.length - (intOf s).toNat)
        case atStart => exact ⟨0, by omega, rfl, by rw [List.take_zero, List.map_nil, List.append_nil]; exact HK3, HG3, HV3, HO3, HB3⟩
        case round =>
          obtain ⟨j, hj, rfl, HKj, HGj, HVj, HOj, HBj⟩ := hrel
          clear HK3 HG3 HV3 HO3 HB3 x9
          by_cases hlj : j < u.writes.length
          · obtain ⟨gw, eg, hgw, d0, d1, d2⟩ := own_write HOj.out hlj
            cases eg
            have zq := HZ.out.2.2.2.2.2 _ (List.getElem_mem hlj)
            have hsn : wl (us.take i) ++ (u.writes.take (j + 1)).map (fun x => (u.id, x)) = (wl (us.take i) ++ (u.writes.take j).map fun x => (u.id, x)) ++ [(u.id, u.writes[j])] := by
              rw [List.take_succ_eq_append_getElem hlj, List.map_append, List.append_assoc]; rfl
            obtain ⟨s, hss⟩ : ∃ s, s = u.writes[j] := ⟨_, rfl⟩
            rw [← hss] at d0 zq hsn
            have HKEY := Lib.hid (key_ver (a := u.id) (b := s) (show u.id.size ≤ maxLen from HZ.out.1) (show s.size ≤ maxLen from zq))
            have HSN := Lib.hid hsn
            clear hss zq hsn
            -- w := u.Writes[j]
            go_upto_region 11 with fail
            obtain ⟨w5, hw5⟩ : ∃ X, X = wr.alloc (.cells #[.string s, .pointer none, .pointer none] 63) := ⟨_, rfl⟩
            rw [← hw5]
            obtain ⟨g9, hg9⟩ : ∃ g, g = wr.heap.size := ⟨_, rfl⟩
            rw [← hg9]
            have hN5 : New wr w5 := by rw [hw5]; exact (Kp.refl _ _).alloc _
            have x9 : w5.cell? ⟨g9, 0, none⟩ = some (.string s) := by rw [hw5, hg9]; exact cell_of_row _ _ _ _ _ _ (heap_alloc_new _ _)
            have HK5 := Lib.hid (HKj.out.keep (New.any hN5 _))
            have HG5 := Lib.hid (HGj.out.kp hN5 (fun h => h) (fun h => h))
            have HV5 := Lib.hid (HVj.out.kp hN5 (fun h => h))
            have HO5 := Lib.hid (ownsRow_kp HOj.out hN5 (fun _ _ h => h))
            have HB5 : Hid (Below B w w5) := Lib.hid (HBj.out.trans ((New.below hN5).mono (Nat.le_trans HBw.out HBj.out.size)))
            obtain ⟨c0, c1, c2, c3, c4⟩ := HK5.out.cell
            obtain ⟨v0, v8, v9⟩ := HV5.out.cell
            obtain ⟨w6, hdl, hm6, ht6⟩ := MV.del (w := w5.drew) HK5.out.mwr kV Try.underlying54 HKEY.out 0
            have hk6 : Kp (fun j => j = m2) w5 w6 := ((Kp.refl _ _).drew).turned ht6 (.inr rfl)
            have l1 := HK5.out.lt.2.2.1
            have HK6 : Hid (KS B w.heap.size w6 bb us (.slice (some ⟨gu, 0, none⟩) us.length ucap) (.slice (some ⟨gp, 0, none⟩) us.length pcap) m1 m2 m3 xs blk cap (Ls us d []) (R1 us (i + 1)) (R2 us (wl (us.take i) ++ (u.writes.take (j + 1)).map fun x => (u.id, x))) N N N) := Lib.hid (by
              rw [HSN.out]
              exact KS.wr (HK5.out.keep ((Kp.refl _ _).drew)) ht6 (hm6.congr (R2_del (p := (u.id, s)))))
            have HV6 := Lib.hid (HV5.out.kp hk6 (by omega))
            have HG6 := Lib.hid (HG5.out.kp hk6 (by have := HLoc.out; omega) (by have := HLoc.out; omega))
            have HB6 : Hid (Below B w w6) := Lib.hid (HB5.out.trans (hk6.below (Nat.le_trans HBw.out HB5.out.size) (fun j e => by rw [e]; exact HK5.out.ge.2.2.1)))
            have HO6 : Hid (w6.ownsRow B 63 3 (.slice (some ⟨gw, 0, none⟩) u.writes.length wk) u.writes.length (wcells u.writes)) := Lib.hid (ownsRow_kp HO5.out hk6 (fun g hg e => (HO2.out.2 g hg).1.2.2.1 e))
            clear hw5 hg9 hN5 hm6 ht6 hk6 l1 HK5 HG5 HV5 HO5 HB5 HKj HGj HVj HOj HBj d0 d1 d2 c0 c1 c2 c4 v8 v9 hgw
            go_wp2_with fail
            go_region
            all_goals
              go_wp2
              go_roundw
              case rel => exact ⟨j + 1, by omega, by go_num, HK6, HG6, HV6, HO6, HB6⟩
              case measure => simp [intOf]; omega
          · have hjj : j = u.writes.length := by omega
            subst hjj
            have HKe : Hid (KS B w.heap.size wr bb us (.slice (some ⟨gu, 0, none⟩) us.length ucap) (.slice (some ⟨gp, 0, none⟩) us.length pcap) m1 m2 m3 xs blk cap (Ls us d []) (R1 us (i + 1)) (R2 us (wl (us.take (i + 1)))) N N N) := Lib.hid (by
              have h := HKj.out
              rw [List.take_length] at h
              rw [wl_snoc hlu, ← HUE.out]
              exact h)
            clear HKj HVj HOj
            go_wp2
            go_roundw
            case rel => exact ⟨i + 1, by omega, by go_num, HKe, HGj, HBj⟩
            case measure => simp [intOf]; omega
      · have hid : i = d := by omega
        subst hid
        go_wp2_with fail
        go_meet
        exact ⟨HKs, HGs, HBs⟩
  case rest =>
  obtain ⟨HK3, HG3, HB3⟩ := hcut
  clear HK2 HG2 HB2
  obtain ⟨c0, c1, c2, c3, c4⟩ := HK3.out.cell
  clear c1 c2 c3 c4
  go_upto_block 4 with fail
  go_cut [74] (fun _ W => Hid (KS B w.heap.size W bb us (.slice (some ⟨gu, 0, none⟩) us.length ucap) (.slice (some ⟨gp, 0, none⟩) us.length pcap) m1 m2 m3 xs blk cap (Ls us d (cl (us.take d))) (R1 us d) (R2 us (wl (us.take d))) N N (N + (cl (us.take d)).length)) ∧ Hid (Below B w W))
  case first =>
    go_wp2_with fail
    go_loopw [74] (fun s W => ∃ i : Nat, i ≤ d ∧ s = .int .i64 i ∧ Hid (KS B w.heap.size W bb us (.slice (some ⟨gu, 0, none⟩) us.length ucap) (.slice (some ⟨gp, 0, none⟩) us.length pcap) m1 m2 m3 xs blk cap (Ls us d (cl (us.take i))) (R1 us d) (R2 us (wl (us.take d))) N N (N + (cl (us.take i)).length)) ∧
      Hid (Gone W gc mg d (Pg us d)) ∧ Hid (Below B w W)) (fun s _ => d - (intOf s).toNat)
    case atStart => exact ⟨0, by omega, rfl, HK3, HG3, HB3⟩
    case round =>
      obtain ⟨i, hi, rfl, HKs, HGs, HBs⟩ := hrel
      clear HK3 HG3 HB3 c0
      by_cases hlt : i < d
      · have hlu : i < us.length := by omega
        obtain ⟨ra, rc, wa, wk, o1, o2, hcell, q1, q2⟩ := HKs.out.unit rfl hlu
        have zk := HK.out.sz _ (List.getElem_mem hlu)
        obtain ⟨u, hu⟩ : ∃ u, u = us[i] := ⟨_, rfl⟩
        rw [← hu] at o1 o2 hcell zk q1 q2
        have HUE := Lib.hid hu
        have HO2 := Lib.hid (And.intro o1 q1)
        have HCELL := Lib.hid hcell
        have HZ := Lib.hid zk
        have HSZ : Hid (w.heap.size ≤ wr.heap.size) := Lib.hid HBs.out.size
        have hwl : u.reads.length ≤ 9223372036854775807 := zk.2.2.1
        clear hu o1 o2 hcell zk q1 q2
        -- u := b.units[i]
        go_upto_region 17 with (refine wpList_load_cells _ rfl 43 (.tmp 76) rfl ⟨gu, i * 10, none⟩ rfl (ulist u ra wa rc wk) _ Try.underlying43 rfl info43s HCELL.out ?_)
        obtain ⟨w1, hw1⟩ : ∃ X, X = wr.alloc (.cells (ulist u ra wa rc wk).toArray 43) := ⟨_, rfl⟩
        rw [← hw1]
        obtain ⟨g7, hg7⟩ : ∃ g, g = wr.heap.size := ⟨_, rfl⟩
        rw [← hg7]
        have hN1 : New wr w1 := by rw [hw1]; exact (Kp.refl _ _).alloc _
        have HV1 : VarU w1 g7 u ra wa rc wk := by rw [hw1, hg7]; exact heap_alloc_new _ _
        have HK1 := Lib.hid (HKs.out.keep (New.any hN1 _))
        have HG1 := Lib.hid (HGs.out.kp hN1 (fun h => h) (fun h => h))
        have HB1 : Hid (Below B w w1) := Lib.hid (HBs.out.trans ((New.below hN1).mono (Nat.le_trans HBw.out HSZ.out)))
        have HO1 : Hid (w1.ownsRow B 65 2 (.slice ra u.reads.length rc) u.reads.length (rcells u.reads)) := Lib.hid (ownsRow_kp HO2.out.1 hN1 (fun _ _ h => h))
        obtain ⟨_, v8, _⟩ := HV1.cell
        clear hw1 hg7 hN1 HV1 HKs HGs HBs HCELL
        go_wp2_with fail
        go_loopw [81] (fun s W => ∃ j : Nat, j ≤ u.reads.length ∧ s = .int .i64 j ∧ Hid (KS B w.heap.size W bb us (.slice (some ⟨gu, 0, none⟩) us.length ucap) (.slice (some ⟨gp, 0, none⟩) us.length pcap) m1 m2 m3 xs blk cap (Ls us d (cl (us.take i) ++ (u.reads.take j).map Prod.snd)) (R1 us d) (R2 us (wl (us.take d))) N N (N + (cl (us.take i) ++ (u.reads.take j).map Prod.snd).length)) ∧
          Hid (Gone W gc mg d (Pg us d)) ∧ Hid (W.ownsRow B 65 2 (.slice ra u.reads.length rc) u.reads.length (rcells u.reads)) ∧ Hid (Below B w W)) (fun s _ => u.reads.length - (intOf s).toNat)
        case atStart => exact ⟨0, by omega, rfl, by rw [List.take_zero, List.map_nil, List.append_nil]; exact HK1, HG1, HO1, HB1⟩
        case round =>
          obtain ⟨j, hj, rfl, HKj, HGj, HOj, HBj⟩ := hrel
          clear HK1 HG1 HO1 HB1 v8
          by_cases hlj : j < u.reads.length
          · obtain ⟨gr, eg, hgr, d0, d1⟩ := own_read HOj.out hlj
            cases eg
            have zq := (HZ.out.2.2.2.2.1 _ (List.getElem_mem hlj)).2
            have hsn : cl (us.take i) ++ (u.reads.take (j + 1)).map Prod.snd = (cl (us.take i) ++ (u.reads.take j).map Prod.snd) ++ [(u.reads[j]).2] := by
              rw [List.take_succ_eq_append_getElem hlj, List.map_append, List.append_assoc]; rfl
            have hdn : (cl (us.take i) ++ (u.reads.take j).map Prod.snd).length ≤ 1000000 := by
              have h1 := cl_len (us.take i)
              have h2 := cost_lens (us.take i)
              have h3 := cost_take us i
              have h4 := HK.out.cost
              have h5 := cost_take us (i + 1)
              have h6 := cost_step hlu
              rw [← HUE.out] at h6
              rw [List.length_append, List.length_map, List.length_take]
              omega
            obtain ⟨done, hdone⟩ : ∃ l, l = cl (us.take i) ++ (u.reads.take j).map Prod.snd := ⟨_, rfl⟩
            rw [← hdone] at HKj hsn hdn
            obtain ⟨r, hr⟩ : ∃ r, r = u.reads[j] := ⟨_, rfl⟩
            rw [← hr] at d0 d1 zq hsn
            have HSN := Lib.hid hsn
            have HSN2 : Hid (N + (done ++ [r.2]).length = N + done.length + 1) := Lib.hid (by rw [List.length_append]; rfl)
            have HDN := Lib.hid hdn
            have HSUB : Hid (∀ c, Ls us d done c ≠ [] → Ls us d (cl (us.take i)) c ≠ []) := Lib.hid (by rw [hdone]; exact fun c hc => Ls_more hc)
            clear hr hsn hdone hdn
            -- rd := u.Reads[j]
            go_upto_region 20 with fail
            obtain ⟨w5, hw5⟩ : ∃ X, X = wr.alloc (.cells #[.string r.1, .string r.2] 65) := ⟨_, rfl⟩
            rw [← hw5]
            obtain ⟨g9, hg9⟩ : ∃ g, g = wr.heap.size := ⟨_, rfl⟩
            rw [← hg9]
            obtain ⟨c, hc⟩ : ∃ c, c = r.2 := ⟨_, rfl⟩
            have hN5 : New wr w5 := by rw [hw5]; exact (Kp.refl _ _).alloc _
            have hV5 : w5.heap[g9]? = some (.cells #[.string r.1, .string r.2] 65 (0, 0)) := by rw [hw5, hg9]; exact heap_alloc_new _ _
            rw [← hc] at hV5 zq HSN HSN2
            have HV5 := Lib.hid hV5
            have HK5 := Lib.hid (HKj.out.keep (New.any hN5 _))
            have HG5 := Lib.hid (HGj.out.kp hN5 (fun h => h) (fun h => h))
            have HO5 := Lib.hid (ownsRow_kp HOj.out hN5 (fun _ _ h => h))
            have HB5 : Hid (Below B w w5) := Lib.hid (HBj.out.trans ((New.below hN5).mono (Nat.le_trans HBw.out HBj.out.size)))
            have HG9 : Hid (w.heap.size ≤ g9 ∧ g9 < w5.heap.size) := Lib.hid ⟨by rw [hg9]; exact HBj.out.size, (Array.getElem?_eq_some_iff.1 hV5).1⟩
            clear hw5 hg9 hN5 hV5 HKj HGj HOj HBj d0 d1 hgr hc
            have x1 : w5.cell? ⟨g9, 1, none⟩ = some (.string c) := cell_of_row _ _ _ _ _ _ HV5.out
            obtain ⟨c0, c1, c2, c3, c4⟩ := HK5.out.cell
            clear c0 c1 c2 c3
            by_cases hLc : Ls us d done c = []
            · -- no reader: continue
              have hlk : (Instr.lookup 55 (.map (some m3)) (.string c) true).run Try.prog w5.drew = .ok (.tuple #[.slice none 0 0, .bool false]) w5.drew := by
                obtain ⟨v, h1, _, h3⟩ := rd_look HK5.out.mrd (c := c) zq
                rcases h3 with ⟨h3, _⟩ | ⟨_, rfl⟩
                · exact absurd hLc h3
                · have := (h1 w5.drew ((Kp.refl _ _).drew)).2
                  rw [decide_eq_false (fun h => h hLc)] at this
                  exact this
              have HK6 : Hid (KS B w.heap.size w5.drew bb us (.slice (some ⟨gu, 0, none⟩) us.length ucap) (.slice (some ⟨gp, 0, none⟩) us.length pcap) m1 m2 m3 xs blk cap (Ls us d (cl (us.take i) ++ (u.reads.take (j + 1)).map Prod.snd)) (R1 us d) (R2 us (wl (us.take d))) N N (N + (cl (us.take i) ++ (u.reads.take (j + 1)).map Prod.snd).length)) := Lib.hid (by
                rw [HSN.out, HSN2.out]
                exact ((HK5.out.keep ((Kp.refl _ _).drew)).same (fun _ _ => Iff.rfl) (fun _ _ => Iff.rfl) (Ls_skip us d done c hLc)).more (by omega))
              have HG6 := Lib.hid (HG5.out.kp (S := fun _ => False) ((Kp.refl _ w5).drew) (fun h => h) (fun h => h))
              have HO6 := Lib.hid (ownsRow_kp (S := fun _ => False) HO5.out ((Kp.refl _ w5).drew) (fun _ _ h => h))
              have HB6 : Hid (Below B w w5.drew) := Lib.hid HB5.out.drew
              clear HK5 HG5 HO5 HB5 hLc
              go_wp2_with fail
              go_region
              all_goals
                go_wp2
                go_roundw
                case rel => exact ⟨j + 1, by omega, by go_num, HK6, HG6, HO6, HB6⟩
                case measure => simp [intOf]; omega
            · -- ids, ok := b.readers[rd.Creator]
              have hrow := HK5.out.mrd.row c hLc
              have hlk : (Instr.lookup 55 (.map (some m3)) (.string c) true).run Try.prog w5.drew = .ok (.tuple #[.slice (some ⟨blk c, 0, none⟩) (Ls us d done c).length (cap c), .bool true]) w5.drew := by
                rcases (HK5.out.mrd.map.kp (S := fun _ => False) ((Kp.refl _ w5).drew) (fun h => h)).look kS Try.underlying55 (zero26 _) ⟨_, key_str zq⟩ with ⟨v, ⟨e, e1, e2, e3⟩, _, r2⟩ | ⟨hn, _⟩
                · cases e1; subst e3; exact r2
                · exact absurd ⟨c, rfl, hLc, rfl⟩ (hn _)
              have hlen : (Ls us d done c).length ≤ 1000000 := by
                have h1 := Ls_len us d done c
                have h2 := cost_lens us
                have h4 := HK.out.cost
                omega
              have HZI : Hid (∀ x, x ∈ Ls us d done c → x.size ≤ maxLen) := Lib.hid (fun x hx => by
                obtain ⟨i, hi, e⟩ := Ls_mem hx
                rw [← e]
                exact (HK.out.sz _ (List.getElem_mem hi)).1)
              have HLC := Lib.hid hLc
              obtain ⟨ids, hids⟩ : ∃ l, l = Ls us d done c := ⟨_, rfl⟩
              obtain ⟨gb, hgb⟩ : ∃ g, g = blk c := ⟨_, rfl⟩
              obtain ⟨kc, hkc⟩ : ∃ g, g = cap c := ⟨_, rfl⟩
              rw [← hids, ← hgb, ← hkc] at hlk hrow
              rw [← hids] at hlen HZI
              have HIDS := Lib.hid hids
              have HGB := Lib.hid hgb
              have HKC := Lib.hid hkc
              have hgbl : gb < w.heap.size := by rw [hgb]; exact HK5.out.lt.2.2.2.2 c hLc
              have HROW : Hid (Strs w5.drew B gb kc ids) := Lib.hid hrow
              clear hrow hids hgb hkc hLc
              go_upto_region 20 with fail
              go_cut [14, 15] (fun a b W => a = .slice (some ⟨gb, 0, none⟩) ids.length kc ∧ b = .bool true ∧ W = w5.drew)
              case first =>
                go_region
                all_goals
                  go_wp2_with fail
                  go_meet
                  exact ⟨rfl, rfl, rfl⟩
              case rest =>
              obtain ⟨rfl, rfl, hW⟩ := hcut
              subst hW
              clear hlk c4
              have hfr := HK5.out.fre.1 c HLC.out
              rw [← HGB.out] at hfr
              have hm3g := HK5.out.mrd.ne c HLC.out
              rw [← HGB.out] at hm3g
              have hgo : gc ≠ gb ∧ mg ≠ gb ∧ g9 ≠ gb := by have := HLoc.out; have := HG9.out.1; omega
              obtain ⟨q1, q2, q3⟩ := hgo
              have HG5' := Lib.hid (HG5.out.kp (S := fun _ => False) ((Kp.refl _ w5).drew) (fun h => h) (fun h => h))
              have HK5' := Lib.hid (HK5.out.keep ((Kp.refl _ _).drew))
              go_wp2_with fail
              refine (delete_ok B gb kc gc mg d (Pg us d) ids _ HROW.out HG5'.out q1 q2 HZI.out hlen).mono ?_
              rintro e w7 ⟨rfl, hs7, hk7⟩
              have HS7 := Lib.hid hs7
              have HK7 := Lib.hid hk7
              have y4 : w7.cell? ⟨bb, 4, none⟩ = some (.map (some m3)) := by
                have hc4 := HK5'.out.cell.2.2.2.2
                rw [hk7.cell (p := ⟨bb, 4, none⟩) (World.block_lt_of_cell? _ _ hc4) (fun e => hfr e.symm)]
                exact hc4
              have y1 : w7.cell? ⟨g9, 1, none⟩ = some (.string c) := by
                rw [hk7.cell (p := ⟨g9, 1, none⟩) HG9.out.2 q3]
                exact x1
              have hmv7 := HK5'.out.mrd.map.kp hk7 (fun e => hm3g e.symm)
              have HMV7 := Lib.hid hmv7
              have HG7 := Lib.hid (HG5'.out.kp hk7 q1 q2)
              have HB7 : Hid (Below B w w7) := Lib.hid ((HB5.out.drew).trans (hk7.below (Nat.le_trans HBw.out HB5.out.size) (fun j e => by rw [e, HGB.out]; exact HK5.out.mrd.ge HLC.out)))
              have HO7 : Hid (w7.ownsRow B 65 2 (.slice (some ⟨gr, 0, none⟩) u.reads.length rc) u.reads.length (rcells u.reads)) := Lib.hid (ownsRow_kp (ownsRow_kp (S := fun _ => False) HO5.out ((Kp.refl _ w5).drew) (fun _ _ h => h)) hk7 (fun g hg e => by
                have h5 := (HO2.out.2 g hg).1.2.2.2.2 c (HSUB.out c HLC.out)
                rw [← HGB.out] at h5
                exact h5 e.symm))
              clear hs7 hk7 hmv7 HROW HG5 HG5' HO5 HB5 HZI x1
              by_cases hst : stay (Pg us d) ids = []
              · -- delete(b.readers, rd.Creator)
                obtain ⟨w8, hdl, hm8, ht8⟩ := MV.del (w := w7.drew) HMV7.out kS Try.underlying55 ⟨_, key_str zq⟩ 0
                have hk8 : Kp (fun j => j = m3) w7 w8 := ((Kp.refl _ _).drew).turned ht8 (.inr rfl)
                have l3 := HK5.out.lt.2.2.2.1
                have HK8 : Hid (KS B w.heap.size w8 bb us (.slice (some ⟨gu, 0, none⟩) us.length ucap) (.slice (some ⟨gp, 0, none⟩) us.length pcap) m1 m2 m3 xs blk cap (Ls us d (cl (us.take i) ++ (u.reads.take (j + 1)).map Prod.snd)) (R1 us d) (R2 us (wl (us.take d))) N N (N + (cl (us.take i) ++ (u.reads.take (j + 1)).map Prod.snd).length)) := Lib.hid (by
                  rw [HSN.out, HSN2.out]
                  have hK := KS.strike HK5'.out HLC.out (by rw [← HGB.out]; exact HK7.out) ht8 hm8
                  exact (hK.same (fun _ _ => Iff.rfl) (fun _ _ => Iff.rfl) (fun e => by rw [← Ls_step, ← HIDS.out, hst])).more (by omega))
                have HG8 := Lib.hid (HG7.out.kp hk8 (by have := HLoc.out; omega) (by have := HLoc.out; omega))
                have HB8 : Hid (Below B w w8) := Lib.hid (HB7.out.trans (hk8.below (Nat.le_trans HBw.out HB7.out.size) (fun j e => by rw [e]; exact HK5.out.ge.2.2.2)))
                have HO8 : Hid (w8.ownsRow B 65 2 (.slice (some ⟨gr, 0, none⟩) u.reads.length rc) u.reads.length (rcells u.reads)) := Lib.hid (ownsRow_kp HO7.out hk8 (fun g hg e => (HO2.out.2 g hg).1.2.2.2.1 e))
                have hq0 : (stay (Pg us d) ids).length = 0 := by rw [hst]; rfl
                rw [hq0]
                clear hm8 ht8 hk8 l3 HK5 HK5' HMV7 HG7 HB7 HO7 HS7 HK7 hst hq0 HV5 hfr hm3g
                go_wp2_with fail
                go_region
                all_goals
                  go_wp2
                  go_roundw
                  case rel => exact ⟨j + 1, by omega, by go_num, HK8, HG8, HO8, HB8⟩
                  case measure => simp [intOf]; omega
              · -- b.readers[rd.Creator] = ids
                obtain ⟨q, hq⟩ : ∃ q, q = (stay (Pg us d) ids).length := ⟨_, rfl⟩
                rw [← hq]
                have hqp : 0 < q := by rw [hq]; exact List.length_pos_iff.2 hst
                obtain ⟨w8, hsr, hm8, ht8⟩ := MV.store (w := w7.drew) HMV7.out kS Try.underlying55 (show N + done.length < maxLen by have := HDN.out; unfold maxLen; omega) ⟨_, key_str zq⟩ (.slice (some ⟨gb, 0, none⟩) q kc)
                have hk8 : Kp (fun j => j = m3) w7 w8 := ((Kp.refl _ _).drew).turned ht8 (.inr rfl)
                have l3 := HK5.out.lt.2.2.2.1
                have HK8 : Hid (KS B w.heap.size w8 bb us (.slice (some ⟨gu, 0, none⟩) us.length ucap) (.slice (some ⟨gp, 0, none⟩) us.length pcap) m1 m2 m3 xs blk cap (Ls us d (cl (us.take i) ++ (u.reads.take (j + 1)).map Prod.snd)) (R1 us d) (R2 us (wl (us.take d))) N N (N + (cl (us.take i) ++ (u.reads.take (j + 1)).map Prod.snd).length)) := Lib.hid (by
                  rw [HSN.out, HSN2.out]
                  have hK := KS.put (l := stay (Pg us d) ids) HK5'.out HLC.out (by rw [← HGB.out]; exact HK7.out) (by rw [← HGB.out, ← HKC.out]; exact HS7.out) hst ht8 (by rw [← HGB.out, ← HKC.out, ← hq]; exact hm8)
                  exact hK.same (fun _ _ => Iff.rfl) (fun _ _ => Iff.rfl) (fun e => by rw [← Ls_step, ← HIDS.out]))
                have HG8 := Lib.hid (HG7.out.kp hk8 (by have := HLoc.out; omega) (by have := HLoc.out; omega))
                have HB8 : Hid (Below B w w8) := Lib.hid (HB7.out.trans (hk8.below (Nat.le_trans HBw.out HB7.out.size) (fun j e => by rw [e]; exact HK5.out.ge.2.2.2)))
                have HO8 : Hid (w8.ownsRow B 65 2 (.slice (some ⟨gr, 0, none⟩) u.reads.length rc) u.reads.length (rcells u.reads)) := Lib.hid (ownsRow_kp HO7.out hk8 (fun g hg e => (HO2.out.2 g hg).1.2.2.2.1 e))
                have hqb : ((q : Int) == 0) = false := by simp; omega
                clear hm8 ht8 hk8 l3 HK5 HK5' HMV7 HG7 HB7 HO7 HS7 HK7 hst hq HV5 hfr hm3g
                go_wp2_with fail
                go_region
                all_goals
                  go_wp2
                  go_roundw
                  case rel => exact ⟨j + 1, by omega, by go_num, HK8, HG8, HO8, HB8⟩
                  case measure => simp [intOf]; omega
          · have hjj : j = u.reads.length := by omega
            subst hjj
            have HKe : Hid (KS B w.heap.size wr bb us (.slice (some ⟨gu, 0, none⟩) us.length ucap) (.slice (some ⟨gp, 0, none⟩) us.length pcap) m1 m2 m3 xs blk cap (Ls us d (cl (us.take (i + 1)))) (R1 us d) (R2 us (wl (us.take d))) N N (N + (cl (us.take (i + 1))).length)) := Lib.hid (by
              have h := HKj.out
              rw [List.take_length] at h
              rw [cl_snoc hlu, ← HUE.out]
              exact h)
            clear HKj HOj
            go_wp2
            go_roundw
            case rel => exact ⟨i + 1, by omega, by go_num, HKe, HGj, HBj⟩
            case measure => simp [intOf]; omega
      · have hid : i = d := by omega
        subst hid
        go_wp2_with fail
        go_meet
        exact ⟨HKs, HBs⟩
  case rest =>
  obtain ⟨HK4, HB4⟩ := hcut
  clear HK3 HG3 HB3 c0
  obtain ⟨c0, c1, c2, c3, c4⟩ := HK4.out.cell
  have HNX : Hid (∀ j v, (ucells (xs.drop d))[j]? = some v → ∀ X, New wc X → X.cell? ((⟨gu, d * 10, none⟩ : Addr).add j) = some v) := Lib.hid (by
    intro j v hj X hX
    have hadd : (⟨gu, d * 10, none⟩ : Addr).add j = ⟨gu, d * 10 + j, none⟩ := by unfold Addr.add; split <;> simp_all
    rw [← ucells_drop, List.getElem?_drop] at hj
    have hlt : d * 10 + j < (ucells xs).length := (List.getElem?_eq_some_iff.1 hj).1
    have hh := ownsRow_kp HK4.out.hu hX (fun _ _ h => h)
    rw [hadd, hh.cellAt _ (by rw [← hh.1]; exact hlt)]
    exact hj)
  have HNP : Hid (∀ j v, ((us.drop d).map fun u => Value.string u.place)[j]? = some v → ∀ X, Kp (fun k => k = bb) wc X → X.cell? ((⟨gp, d, none⟩ : Addr).add j) = some v) := Lib.hid (by
    intro j v hj X hX
    have hadd : (⟨gp, d, none⟩ : Addr).add j = ⟨gp, d + j, none⟩ := by unfold Addr.add; split <;> simp_all
    rw [List.map_drop, List.getElem?_drop] at hj
    have hlt : d + j < (us.map fun u => Value.string u.place).length := (List.getElem?_eq_some_iff.1 hj).1
    have hh := ownsRow_kp HK4.out.hp hX (fun g hg e => (HK4.out.ip g hg).1.1 e)
    rw [hadd, hh.cellAt _ (by rw [← hh.1]; exact hlt)]
    exact hj)
  have hml : (us.drop d).length = us.length - d := List.length_drop
  have HXL : Hid ((ucells (xs.drop d)).length = (us.length - d) * 10) := Lib.hid (by
    rw [ucells_len, List.length_drop, show xs.length = us.length by rw [← HK4.out.hxs, List.length_map]])
  have HONE := Lib.hid (uv_one (xs := xs.drop d) (fun x hx => HK4.out.hx x (List.mem_of_mem_drop hx)))
  have fr0 : wc.frozen? ⟨bb, 0, none⟩ = false := by simp [World.frozen?, HK4.out.cells]
  have HML := Lib.hid hml
  clear hml c1 c2 c3 c4
  obtain ⟨wq, rfl⟩ : ∃ X, X = wc := ⟨_, rfl⟩
  have HK9 : Hid (∀ W9 (v : Value), New wq W9 → (W9.setCell ⟨bb, 0, none⟩ v).heap[bb]? = some (.cells #[v, .slice (some ⟨gp, 0, none⟩) us.length pcap, .map (some m1), .map (some m2), .map (some m3)] 61 (0, 0))) := Lib.hid (by
    intro W9 v hN
    have h9 : W9.heap[bb]? = some (.cells #[.slice (some ⟨gu, 0, none⟩) us.length ucap, .slice (some ⟨gp, 0, none⟩) us.length pcap, .map (some m1), .map (some m2), .map (some m3)] 61 (0, 0)) := by
      rw [hN.block bb (Array.getElem?_eq_some_iff.1 HK4.out.cells).1 (fun h => h)]; exact HK4.out.cells
    rw [setCell_eq_setRow W9 bb 0 _ _ _ v h9, setRow_heap _ _ _ _ _ _ h9]
    rfl)
  go_upto_region 28 with fail
  go_cut [] (fun W => ∃ va vc, Hid (W.heap[bb]? = some (.cells #[.slice va (us.length - d) vc, .slice (some ⟨gp, 0, none⟩) us.length pcap, .map (some m1), .map (some m2), .map (some m3)] 61 (0, 0)) ∧ W.ownsRow wq.heap.size 43 10 (.slice va (us.length - d) vc) (us.length - d) (ucells (xs.drop d)) ∧ Kp (fun k => k = bb) wq W))
  case first =>
    by_cases hdc : d = ucap
    · subst hdc
      have hz : us.length - d = 0 := by omega
      have HXN : Hid (ucells (xs.drop d) = []) := Lib.hid (List.eq_nil_of_length_eq_zero (by rw [HXL.out, hz]))
      have HZ0 := Lib.hid hz
      clear hz
      go_wp2_with fail
      refine (cloneU_ok ⟨gu, 0, none⟩ 0 0 [] wq rfl (fun j v hj => by simp at hj) (fun u h => by cases h) (by omega)).mono ?_
      rintro e w9 ⟨v, rfl, ho9', hN9⟩
      have ho9 : w9.ownsRow wq.heap.size 43 10 v (us.length - d) (ucells (xs.drop d)) := by rw [HZ0.out, HXN.out]; exact ho9'
      clear ho9'
      obtain ⟨va, vc, rfl⟩ := own_shape ho9
      have b0 : w9.cell? ⟨bb, 0, none⟩ = some (.slice (some ⟨gu, 0, none⟩) us.length d) := by rw [hN9.cell (p := ⟨bb, 0, none⟩) (World.block_lt_of_cell? _ _ c0) (fun h => h)]; exact c0
      have b1 : w9.frozen? ⟨bb, 0, none⟩ = false := by rw [hN9.frozen (p := ⟨bb, 0, none⟩) (World.block_lt_of_cell? _ _ c0) (fun h => h)]; exact fr0
      have HQ : Hid ((w9.setCell ⟨bb, 0, none⟩ (.slice va (us.length - d) vc)).heap[bb]? = some (.cells #[.slice va (us.length - d) vc, .slice (some ⟨gp, 0, none⟩) us.length pcap, .map (some m1), .map (some m2), .map (some m3)] 61 (0, 0)) ∧ (w9.setCell ⟨bb, 0, none⟩ (.slice va (us.length - d) vc)).ownsRow wq.heap.size 43 10 (.slice va (us.length - d) vc) (us.length - d) (ucells (xs.drop d)) ∧ Kp (fun k => k = bb) wq (w9.setCell ⟨bb, 0, none⟩ (.slice va (us.length - d) vc))) := Lib.hid ⟨HK9.out w9 _ hN9,
        ownsRow_kp ho9 (Kp.setCell (S := fun k => k = bb) (Kp.refl _ _) (.inr rfl) _) (fun g hg e => by have := own_base ho9 g hg; have := World.block_lt_of_cell? _ _ c0; simp at this; omega), Kp.setCell (S := fun k => k = bb) (New.any hN9 _) (.inr rfl) _⟩
      clear ho9 hN9
      go_wp2_with fail
      go_meet
      refine ⟨va, vc, Lib.hid ?_⟩
      have h := HQ.out
      rw [HZ0.out] at h
      rw [HZ0.out]
      exact h
    · go_wp2_with fail
      refine (cloneU_ok ⟨gu, d * 10, none⟩ (us.length - d) (ucap - d) (ucells (xs.drop d)) wq HXL.out (fun j v hj => HNX.out j v hj wq (Kp.refl _ _)) HONE.out (by omega)).mono ?_
      rintro e w9 ⟨v, rfl, ho9, hN9⟩
      obtain ⟨va, vc, rfl⟩ := own_shape ho9
      have b0 : w9.cell? ⟨bb, 0, none⟩ = some (.slice (some ⟨gu, 0, none⟩) us.length ucap) := by rw [hN9.cell (p := ⟨bb, 0, none⟩) (World.block_lt_of_cell? _ _ c0) (fun h => h)]; exact c0
      have b1 : w9.frozen? ⟨bb, 0, none⟩ = false := by rw [hN9.frozen (p := ⟨bb, 0, none⟩) (World.block_lt_of_cell? _ _ c0) (fun h => h)]; exact fr0
      have HQ : Hid ((w9.setCell ⟨bb, 0, none⟩ (.slice va (us.length - d) vc)).heap[bb]? = some (.cells #[.slice va (us.length - d) vc, .slice (some ⟨gp, 0, none⟩) us.length pcap, .map (some m1), .map (some m2), .map (some m3)] 61 (0, 0)) ∧ (w9.setCell ⟨bb, 0, none⟩ (.slice va (us.length - d) vc)).ownsRow wq.heap.size 43 10 (.slice va (us.length - d) vc) (us.length - d) (ucells (xs.drop d)) ∧ Kp (fun k => k = bb) wq (w9.setCell ⟨bb, 0, none⟩ (.slice va (us.length - d) vc))) := Lib.hid ⟨HK9.out w9 _ hN9,
        ownsRow_kp ho9 (Kp.setCell (S := fun k => k = bb) (Kp.refl _ _) (.inr rfl) _) (fun g hg e => by have := own_base ho9 g hg; have := World.block_lt_of_cell? _ _ c0; simp at this; omega), Kp.setCell (S := fun k => k = bb) (New.any hN9 _) (.inr rfl) _⟩
      clear ho9 hN9
      go_wp2_with fail
      go_meet
      exact ⟨va, vc, HQ⟩
  case rest =>
  obtain ⟨va, vc, HQ⟩ := hcut
  have c1 : wc.cell? ⟨bb, 1, none⟩ = some (.slice (some ⟨gp, 0, none⟩) us.length pcap) := cell_of_row _ _ _ _ _ _ HQ.out.1
  have fr1 : wc.frozen? ⟨bb, 1, none⟩ = false := by simp [World.frozen?, HQ.out.1]
  have HPL : Hid (((us.drop d).map fun u => Value.string u.place).length = (us.length - d) * 1) := Lib.hid (by rw [List.length_map, List.length_drop, Nat.mul_one])
  clear c0 fr0
  go_upto_region 29 with fail
  go_cut [] (fun W => ∃ pa pc, Hid (W.heap[bb]? = some (.cells #[.slice va (us.length - d) vc, .slice pa (us.length - d) pc, .map (some m1), .map (some m2), .map (some m3)] 61 (0, 0)) ∧ W.ownsRow wq.heap.size 43 10 (.slice va (us.length - d) vc) (us.length - d) (ucells (xs.drop d)) ∧
    W.ownsRow wq.heap.size 9 1 (.slice pa (us.length - d) pc) (us.length - d) ((us.drop d).map fun u => .string u.place) ∧ Kp (fun k => k = bb) wq W))
  case first =>
    by_cases hdc : d = pcap
    · subst hdc
      have hz : us.length - d = 0 := by omega
      have HXN : Hid (((us.drop d).map fun u => Value.string u.place) = []) := Lib.hid (List.eq_nil_of_length_eq_zero (by rw [HPL.out, hz]))
      have HZ0 := Lib.hid hz
      clear hz
      go_wp2_with fail
      refine (cloneS_ok ⟨gp, 0, none⟩ 0 0 [] wc rfl (fun j v hj => by simp at hj) (fun u h => by cases h) (by omega)).mono ?_
      rintro e w9 ⟨v, rfl, ho9', hN9⟩
      have ho9 : w9.ownsRow wc.heap.size 9 1 v (us.length - d) ((us.drop d).map fun u => Value.string u.place) := by rw [HZ0.out, HXN.out]; exact ho9'
      clear ho9'
      obtain ⟨pa, pc, rfl⟩ := own_shape ho9
      have b0 : w9.cell? ⟨bb, 1, none⟩ = some (.slice (some ⟨gp, 0, none⟩) us.length d) := by rw [hN9.cell (p := ⟨bb, 1, none⟩) (World.block_lt_of_cell? _ _ c1) (fun h => h)]; exact c1
      have b1 : w9.frozen? ⟨bb, 1, none⟩ = false := by rw [hN9.frozen (p := ⟨bb, 1, none⟩) (World.block_lt_of_cell? _ _ c1) (fun h => h)]; exact fr1
      have HQ2 : Hid ((w9.setCell ⟨bb, 1, none⟩ (.slice pa (us.length - d) pc)).heap[bb]? = some (.cells #[.slice va (us.length - d) vc, .slice pa (us.length - d) pc, .map (some m1), .map (some m2), .map (some m3)] 61 (0, 0)) ∧ (w9.setCell ⟨bb, 1, none⟩ (.slice pa (us.length - d) pc)).ownsRow wq.heap.size 43 10 (.slice va (us.length - d) vc) (us.length - d) (ucells (xs.drop d)) ∧
          (w9.setCell ⟨bb, 1, none⟩ (.slice pa (us.length - d) pc)).ownsRow wq.heap.size 9 1 (.slice pa (us.length - d) pc) (us.length - d) ((us.drop d).map fun u => .string u.place) ∧ Kp (fun k => k = bb) wq (w9.setCell ⟨bb, 1, none⟩ (.slice pa (us.length - d) pc))) := Lib.hid (by
        have hkk : Kp (fun k => k = bb) w9 (w9.setCell ⟨bb, 1, none⟩ (.slice pa (us.length - d) pc)) := Kp.setCell (S := fun k => k = bb) (Kp.refl _ _) (.inr rfl) _
        have hbl := World.block_lt_of_cell? _ _ c1
        have hbq := (Array.getElem?_eq_some_iff.1 HK4.out.cells).1
        have hqs := HQ.out.2.2.size
        refine ⟨?_, ownsRow_kp (ownsRow_kp HQ.out.2.1 hN9 (fun _ _ h => h)) hkk (fun g hg e => by have := own_base HQ.out.2.1 g hg; omega), ownsRow_kp (own_mono ho9 hqs) hkk (fun g hg e => by have := own_base ho9 g hg; simp at hbl; omega), (HQ.out.2.2.trans (New.any hN9 _)).trans hkk⟩
        have h9 : w9.heap[bb]? = some (.cells #[.slice va (us.length - d) vc, .slice (some ⟨gp, 0, none⟩) us.length d, .map (some m1), .map (some m2), .map (some m3)] 61 (0, 0)) := by
          rw [hN9.block bb (Array.getElem?_eq_some_iff.1 HQ.out.1).1 (fun h => h)]; exact HQ.out.1
        rw [setCell_eq_setRow w9 bb 1 _ _ _ _ h9, setRow_heap _ _ _ _ _ _ h9]
        rfl)
      clear ho9 hN9
      go_wp2_with fail
      go_meet
      refine ⟨pa, pc, Lib.hid ?_⟩
      have h := HQ2.out
      rw [HZ0.out] at h
      rw [HZ0.out]
      exact h
    · go_wp2_with fail
      refine (cloneS_ok ⟨gp, d, none⟩ (us.length - d) (pcap - d) ((us.drop d).map fun u => Value.string u.place) wc HPL.out (fun j v hj => HNP.out j v hj wc HQ.out.2.2) (by intro v hv; obtain ⟨u, _, rfl⟩ := List.mem_map.1 hv; rfl) (by omega)).mono ?_
      rintro e w9 ⟨v, rfl, ho9, hN9⟩
      obtain ⟨pa, pc, rfl⟩ := own_shape ho9
      have b0 : w9.cell? ⟨bb, 1, none⟩ = some (.slice (some ⟨gp, 0, none⟩) us.length pcap) := by rw [hN9.cell (p := ⟨bb, 1, none⟩) (World.block_lt_of_cell? _ _ c1) (fun h => h)]; exact c1
      have b1 : w9.frozen? ⟨bb, 1, none⟩ = false := by rw [hN9.frozen (p := ⟨bb, 1, none⟩) (World.block_lt_of_cell? _ _ c1) (fun h => h)]; exact fr1
      have HQ2 : Hid ((w9.setCell ⟨bb, 1, none⟩ (.slice pa (us.length - d) pc)).heap[bb]? = some (.cells #[.slice va (us.length - d) vc, .slice pa (us.length - d) pc, .map (some m1), .map (some m2), .map (some m3)] 61 (0, 0)) ∧ (w9.setCell ⟨bb, 1, none⟩ (.slice pa (us.length - d) pc)).ownsRow wq.heap.size 43 10 (.slice va (us.length - d) vc) (us.length - d) (ucells (xs.drop d)) ∧
          (w9.setCell ⟨bb, 1, none⟩ (.slice pa (us.length - d) pc)).ownsRow wq.heap.size 9 1 (.slice pa (us.length - d) pc) (us.length - d) ((us.drop d).map fun u => .string u.place) ∧ Kp (fun k => k = bb) wq (w9.setCell ⟨bb, 1, none⟩ (.slice pa (us.length - d) pc))) := Lib.hid (by
        have hkk : Kp (fun k => k = bb) w9 (w9.setCell ⟨bb, 1, none⟩ (.slice pa (us.length - d) pc)) := Kp.setCell (S := fun k => k = bb) (Kp.refl _ _) (.inr rfl) _
        have hbl := World.block_lt_of_cell? _ _ c1
        have hbq := (Array.getElem?_eq_some_iff.1 HK4.out.cells).1
        have hqs := HQ.out.2.2.size
        refine ⟨?_, ownsRow_kp (ownsRow_kp HQ.out.2.1 hN9 (fun _ _ h => h)) hkk (fun g hg e => by have := own_base HQ.out.2.1 g hg; omega), ownsRow_kp (own_mono ho9 hqs) hkk (fun g hg e => by have := own_base ho9 g hg; simp at hbl; omega), (HQ.out.2.2.trans (New.any hN9 _)).trans hkk⟩
        have h9 : w9.heap[bb]? = some (.cells #[.slice va (us.length - d) vc, .slice (some ⟨gp, 0, none⟩) us.length pcap, .map (some m1), .map (some m2), .map (some m3)] 61 (0, 0)) := by
          rw [hN9.block bb (Array.getElem?_eq_some_iff.1 HQ.out.1).1 (fun h => h)]; exact HQ.out.1
        rw [setCell_eq_setRow w9 bb 1 _ _ _ _ h9, setRow_heap _ _ _ _ _ _ h9]
        rfl)
      clear ho9 hN9
      go_wp2_with fail
      go_meet
      exact ⟨pa, pc, HQ2⟩
  case rest =>
  obtain ⟨pa, pc, HQ2⟩ := hcut
  have c0 : wc.cell? ⟨bb, 0, none⟩ = some (.slice va (us.length - d) vc) := cell_of_row _ _ _ _ _ _ HQ2.out.1
  have hm1q := HK4.out.lt.2.1
  have hBq := HB4.out.size
  have hne1 := HK4.out.ne.1
  clear c1 fr1 HPL HNX HNP HK9 HXL HONE
  go_wp2_with fail
  go_loopw [143] (fun s W => ∃ i : Nat, i ≤ us.length - d ∧ s = .int .i64 i ∧ Hid (MV W 9 m1 (N + i) (R5 us d i)) ∧ Hid (Kp (fun k => k = m1) wc W)) (fun s _ => (us.length - d) - (intOf s).toNat)
  case atStart => exact ⟨0, by omega, rfl, Lib.hid ((HK4.out.mat.kp HQ2.out.2.2.2 (fun e => hne1 e.symm)).congr (R5_zero us d)), Lib.hid (Kp.refl _ _)⟩
  case round =>
    obtain ⟨i, hi, rfl, HM, HW⟩ := hrel
    by_cases hlt : i < us.length - d
    · have hid : i < (us.drop d).length := by rw [HML.out]; exact hlt
      have hxl : (xs.drop d).length = us.length - d := by rw [List.length_drop, show xs.length = us.length by rw [← HK4.out.hxs, List.length_map]]
      have hix : i < (xs.drop d).length := by omega
      obtain ⟨gv, vc', ev, _⟩ := own_some HQ2.out.2.1 (by omega)
      cases ev
      have hrow := ownsRow_kp HQ2.out.2.1 HW.out (fun g hg e => by have := own_base HQ2.out.2.1 g hg; omega)
      obtain ⟨o1, o2, o3, o4⟩ := HK4.out.hx _ (List.mem_of_mem_drop (List.getElem_mem hix))
      obtain ⟨ra, rc, e1⟩ := own_shape o1
      obtain ⟨wa, wk, e2⟩ := own_shape o2
      have hue : ((xs.drop d)[i]).u = (us.drop d)[i] := by
        have e : ((xs.drop d).map UV.u)[i]? = (us.drop d)[i]? := by rw [List.map_drop, HK4.out.hxs]
        rw [List.getElem?_map, List.getElem?_eq_getElem hix, List.getElem?_eq_getElem hid] at e
        simpa using e
      obtain ⟨u, hu⟩ : ∃ u, u = ((xs.drop d)[i]).u := ⟨_, rfl⟩
      have HCELL : Hid (∀ j v, (ulist u ra wa rc wk)[j]? = some v → wr.cell? ((⟨gv, i * 10, none⟩ : Addr).add j) = some v) := Lib.hid (by
        intro j v hj
        have hj10 : j < 10 := (List.getElem?_eq_some_iff.1 hj).1
        have hadd : (⟨gv, i * 10, none⟩ : Addr).add j = ⟨gv, i * 10 + j, none⟩ := by unfold Addr.add; split <;> simp_all
        rw [hadd, hrow.cellAt _ (by omega), ucells_get _ i j hix hj10]
        unfold ucell
        rw [e1, e2, ← hu]
        exact hj)
      have HUE : Hid (u = (us.drop d)[i]) := Lib.hid (hu.trans hue)
      have HZu : Hid (u.id.size ≤ maxLen) := Lib.hid (by rw [HUE.out]; exact (HK.out.sz _ (List.mem_of_mem_drop (List.getElem_mem hid))).1)
      clear hrow o1 o2 o3 o4 e1 e2 hue hu hxl hix
      go_upto_region 33 with (refine wpList_load_cells _ rfl 43 (.tmp 146) rfl ⟨gv, i * 10, none⟩ rfl (ulist u ra wa rc wk) _ Try.underlying43 rfl info43s HCELL.out ?_)
      obtain ⟨w1, hw1⟩ : ∃ X, X = wr.alloc (.cells (ulist u ra wa rc wk).toArray 43) := ⟨_, rfl⟩
      rw [← hw1]
      obtain ⟨g7, hg7⟩ : ∃ g, g = wr.heap.size := ⟨_, rfl⟩
      rw [← hg7]
      have hN1 : New wr w1 := by rw [hw1]; exact (Kp.refl _ _).alloc _
      have HV1 : VarU w1 g7 u ra wa rc wk := by rw [hw1, hg7]; exact heap_alloc_new _ _
      obtain ⟨v0, v8, v9⟩ := HV1.cell
      have x2 : w1.cell? ⟨bb, 2, none⟩ = some (.map (some m1)) := by
        have h2 : wc.cell? ⟨bb, 2, none⟩ = some (.map (some m1)) := cell_of_row _ _ _ _ _ _ HQ2.out.1
        have hlt2 := World.block_lt_of_cell? _ _ h2
        rw [hN1.cell (p := ⟨bb, 2, none⟩) (Nat.lt_of_lt_of_le hlt2 HW.out.size) (fun h => h), HW.out.cell (p := ⟨bb, 2, none⟩) hlt2 hne1]
        exact h2
      have hm1 := HM.out.kp hN1 (fun h => h)
      obtain ⟨w2, hst, hm2, ht2⟩ := MV.store (w := w1.drew) hm1 kS Try.underlying53 (show N + i < maxLen by unfold maxLen; omega) ⟨_, key_str HZu.out⟩ (.int .i64 i)
      have HM2 : Hid (MV w2 9 m1 (N + (i + 1)) (R5 us d (i + 1))) := Lib.hid (hm2.congr (by rw [HUE.out]; exact R5_put HK.out.dist hid))
      have HW2 : Hid (Kp (fun k => k = m1) wc w2) := Lib.hid (((HW.out.trans (New.any hN1 _)).drew).turned ht2 (.inr rfl))
      clear hw1 hg7 hN1 HV1 hm1 hm2 ht2 v8 v9 HM HW HCELL
      go_wp2_with fail
      go_region
      all_goals
        go_wp2
        go_roundw
        case rel => exact ⟨i + 1, by omega, by go_num, HM2, HW2⟩
        case measure => simp [intOf]; omega
    · have hii : i = us.length - d := by omega
      have hclen : (cl (us.take d)).length ≤ 1000000 := by
        have h1 := cl_len (us.take d)
        have h2 := cost_lens (us.take d)
        have h3 := cost_take us d
        have h4 := HK.out.cost
        omega
      have f1 : wr.heap[bb]? = some (.cells #[.slice va (us.length - d) vc, .slice pa (us.length - d) pc, .map (some m1), .map (some m2), .map (some m3)] 61 (0, 0)) := by
        rw [HW.out.block bb (Array.getElem?_eq_some_iff.1 HQ2.out.1).1 hne1]; exact HQ2.out.1
      have f2 : wr.ownsRow wq.heap.size 43 10 (.slice va (us.length - d) vc) (us.drop d).length (ucells (xs.drop d)) := by
        rw [HML.out]; exact ownsRow_kp HQ2.out.2.1 HW.out (fun g hg e => by have := own_base HQ2.out.2.1 g hg; omega)
      have f3 : wr.ownsRow wq.heap.size 9 1 (.slice pa (us.length - d) pc) (us.drop d).length ((us.drop d).map fun u => .string u.place) := by
        rw [HML.out]; exact ownsRow_kp HQ2.out.2.2.1 HW.out (fun g hg e => by have := own_base HQ2.out.2.2.1 g hg; omega)
      have f4 : MV wr 9 m1 (N + 2000000) (R5 us d (us.drop d).length) := by
        rw [HML.out, ← hii]; exact HM.out.mono (by omega)
      have f5 : Kp (fun k => k = bb ∨ k = m1) wq wr := (HQ2.out.2.2.2.mono fun _ _ e => .inl e).trans (HW.out.mono fun _ _ e => .inr e)
      have HF : Hid (BS B (N + 2000000) wr bb (us.drop d)) := Lib.hid (KS.finish HK4.out HK.out.dist hBq HBw.out f5 f1 f2 f3 f4 (by omega) (by omega))
      have HBf : Hid (Below B w wr) := Lib.hid (by
        have hbq := HQ2.out.2.2.2.below (Nat.le_trans HBw.out hBq) (fun j e => by rw [e]; exact HK4.out.ge.1)
        exact (HB4.out.trans hbq).trans (HW.out.below (Nat.le_trans (Nat.le_trans HBw.out hBq) hbq.size) (fun j e => by rw [e]; exact HK4.out.ge.2.1)))
      clear HM HW hii hclen f1 f2 f3 f4 f5
      go_wp2
      go_end0
      exact ⟨rfl, HF.out, HBf.out⟩
end Go.Proofs.Qxb6600552a.kt
