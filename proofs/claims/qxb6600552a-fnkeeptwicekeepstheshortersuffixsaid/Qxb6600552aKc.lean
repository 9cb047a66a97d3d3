/-
  What 'Keep' makes of the builder's maps: plain laws.
-/
import Derived.Test.Qxb6600552aKa
set_option linter.unusedVariables false
set_option linter.unusedSimpArgs false
namespace Go.Proofs.Qxb6600552a.kt
open Go.ChangeShapes Go.WideShapes Go.RowKit Go.Maps

/-- 'at' less the first i ids -/
def R1 (us : List U) (i : Nat) (key v : Value) : Prop := Rat us key v ∧ ∀ j (h : j < us.length), j < i → key ≠ .string (us[j]).id
theorem R1_zero (us : List U) (key v : Value) : Rat us key v ↔ R1 us 0 key v := ⟨fun h => ⟨h, fun j _ hj => by omega⟩, fun h => h.1⟩
theorem R1_del {us : List U} {i : Nat} (h : i < us.length) (key v : Value) : delR (R1 us i) (.string (us[i]).id) key v ↔ R1 us (i + 1) key v := by
  constructor
  · rintro ⟨h1, h2, h3⟩
    refine ⟨h2, fun j hj hji => ?_⟩
    by_cases e : j < i
    · exact h3 j hj e
    · have : j = i := by omega
      subst this
      exact h1
  · rintro ⟨h1, h2⟩
    exact ⟨h2 i h (by omega), h1, fun j hj hji => h2 j hj (by omega)⟩
/-- 'written' less some versions -/
def R2 (us : List U) (del : List (ByteArray × ByteArray)) (key v : Value) : Prop := Rwr (wl us) key v ∧ ∀ p, p ∈ del → key ≠ ver p
theorem R2_zero (us : List U) (key v : Value) : Rwr (wl us) key v ↔ R2 us [] key v := ⟨fun h => ⟨h, fun p hp => by cases hp⟩, fun h => h.1⟩
theorem R2_del {us : List U} {del : List (ByteArray × ByteArray)} {p : ByteArray × ByteArray} (key v : Value) : delR (R2 us del) (ver p) key v ↔ R2 us (del ++ [p]) key v := by
  constructor
  · rintro ⟨h1, h2, h3⟩
    refine ⟨h2, fun q hq => ?_⟩
    rw [List.mem_append, List.mem_singleton] at hq
    rcases hq with hq | rfl
    · exact h3 q hq
    · exact h1
  · rintro ⟨h1, h2⟩
    exact ⟨h2 p (by simp), h1, fun q hq => h2 q (by simp [hq])⟩
/-- the ids of the first i -/
def Pg (us : List U) (i : Nat) (s : ByteArray) : Bool := (us.take i).any fun u => decide (u.id = s)
theorem Pg_iff {us : List U} {i : Nat} {s : ByteArray} : Pg us i s = true ↔ ∃ j, ∃ h : j < us.length, j < i ∧ (us[j]).id = s := by
  unfold Pg
  rw [List.any_eq_true]
  constructor
  · rintro ⟨u, hu, e⟩
    obtain ⟨j, hj, rfl⟩ := List.mem_iff_getElem.1 hu
    rw [List.length_take] at hj
    rw [List.getElem_take] at e
    exact ⟨j, by omega, by omega, of_decide_eq_true e⟩
  · rintro ⟨j, hj, hji, e⟩
    refine ⟨us[j], ?_, decide_eq_true e⟩
    rw [List.mem_take_iff_getElem]
    exact ⟨j, by omega, rfl⟩
theorem Rg_put {us : List U} {i : Nat} (h : i < us.length) (key v : Value) : putR (Rgone (Pg us i)) (.string (us[i]).id) (.bool true) key v ↔ Rgone (Pg us (i + 1)) key v := by
  constructor
  · rintro (⟨rfl, rfl⟩ | ⟨_, rfl, s, rfl, hs⟩)
    · exact ⟨rfl, _, rfl, Pg_iff.2 ⟨i, h, by omega, rfl⟩⟩
    · obtain ⟨j, hj, hji, e⟩ := Pg_iff.1 hs
      exact ⟨rfl, s, rfl, Pg_iff.2 ⟨j, hj, by omega, e⟩⟩
  · rintro ⟨rfl, s, rfl, hs⟩
    by_cases e : Value.string s = .string (us[i]).id
    · exact .inl ⟨e, rfl⟩
    · obtain ⟨j, hj, hji, e2⟩ := Pg_iff.1 hs
      refine .inr ⟨e, rfl, s, rfl, Pg_iff.2 ⟨j, hj, ?_, e2⟩⟩
      rcases Nat.lt_or_ge j i with q | q
      · exact q
      · have : j = i := by omega
        subst this
        exact absurd (by rw [e2]) e

open Classical in
noncomputable def Ls (us : List U) (d : Nat) (done : List ByteArray) (c : ByteArray) : List ByteArray := if c ∈ done then stay (Pg us d) (rd (pl us) c) else rd (pl us) c
theorem stay_stay (P : ByteArray → Bool) (l : List ByteArray) : stay P (stay P l) = stay P l := by unfold stay; rw [List.filter_filter]; congr 1; funext x; simp
theorem Ls_zero (us : List U) (d : Nat) (c : ByteArray) : rd (pl us) c = Ls us d [] c := by unfold Ls; rw [if_neg (by simp)]
theorem Ls_step (us : List U) (d : Nat) (done : List ByteArray) (c e : ByteArray) : upd (Ls us d done) c (stay (Pg us d) (Ls us d done c)) e = Ls us d (done ++ [c]) e := by
  by_cases h : e = c
  · subst h
    rw [upd_same]
    unfold Ls
    rw [if_pos (show e ∈ done ++ [e] by simp)]
    split
    · rw [stay_stay]
    · rfl
  · rw [upd_other _ _ h]
    unfold Ls
    by_cases q : e ∈ done
    · rw [if_pos q, if_pos (by simp [q])]
    · rw [if_neg q, if_neg (by simp [q, h])]
theorem Ls_skip (us : List U) (d : Nat) (done : List ByteArray) (c : ByteArray) (h : Ls us d done c = []) (e : ByteArray) : Ls us d done e = Ls us d (done ++ [c]) e := by
  rw [← Ls_step]
  by_cases q : e = c
  · subst q; rw [upd_same, h]; rfl
  · rw [upd_other _ _ q]
theorem Ls_sub {us : List U} {d : Nat} {done : List ByteArray} {c : ByteArray} (h : Ls us d done c ≠ []) : rd (pl us) c ≠ [] := by
  intro e
  unfold Ls at h
  rw [e] at h
  split at h
  · exact h rfl
  · exact h rfl
theorem Ls_len (us : List U) (d : Nat) (done : List ByteArray) (c : ByteArray) : (Ls us d done c).length ≤ (pl us).length := by
  have h : (rd (pl us) c).length ≤ (pl us).length := by unfold rd; rw [List.length_map]; exact List.length_filter_le _ _
  unfold Ls
  split
  · exact Nat.le_trans (stay_len _ _) h
  · exact h
/-- those from whom the first i units read -/
def cl (us : List U) : List ByteArray := us.flatMap fun u => u.reads.map Prod.snd
theorem cl_snoc {us : List U} {k : Nat} (h : k < us.length) : cl (us.take (k + 1)) = cl (us.take k) ++ (us[k]).reads.map Prod.snd := by
  unfold cl; rw [List.take_succ_eq_append_getElem h, List.flatMap_append]; simp
theorem pl_split (us : List U) (d : Nat) : pl us = pl (us.take d) ++ pl (us.drop d) := by
  unfold pl; rw [← List.flatMap_append, List.take_append_drop]
theorem wl_split (us : List U) (d : Nat) : wl us = wl (us.take d) ++ wl (us.drop d) := by
  unfold wl; rw [← List.flatMap_append, List.take_append_drop]
theorem mem_rd {ps : List (ByteArray × ByteArray)} {c x : ByteArray} (h : x ∈ rd ps c) : (c, x) ∈ ps := by
  unfold rd at h
  obtain ⟨p, hp, rfl⟩ := List.mem_map.1 h
  rw [List.mem_filter] at hp
  have e := of_decide_eq_true hp.2
  rw [← e]
  exact hp.1
theorem mem_pl {us : List U} {p : ByteArray × ByteArray} (h : p ∈ pl us) : ∃ i, ∃ hi : i < us.length, (us[i]).id = p.2 ∧ p.1 ∈ (us[i]).reads.map Prod.snd := by
  unfold pl at h
  obtain ⟨u, hu, hp⟩ := List.mem_flatMap.1 h
  obtain ⟨r, hr, rfl⟩ := List.mem_map.1 hp
  obtain ⟨i, hi, rfl⟩ := List.mem_iff_getElem.1 hu
  exact ⟨i, hi, rfl, List.mem_map.2 ⟨r, hr, rfl⟩⟩
theorem mem_wl {us : List U} {p : ByteArray × ByteArray} (h : p ∈ wl us) : ∃ i, ∃ hi : i < us.length, (us[i]).id = p.1 := by
  unfold wl at h
  obtain ⟨u, hu, hp⟩ := List.mem_flatMap.1 h
  obtain ⟨r, hr, rfl⟩ := List.mem_map.1 hp
  obtain ⟨i, hi, rfl⟩ := List.mem_iff_getElem.1 hu
  exact ⟨i, hi, rfl⟩
theorem Dist.ne {us : List U} (h : Dist us us.length) {i j : Nat} (hi : i < us.length) (hj : j < us.length) (e : (us[i]).id = (us[j]).id) : i = j := by
  rcases Nat.lt_trichotomy i j with q | q | q
  · exact absurd e (h i j hi hj q hj)
  · exact q
  · exact absurd e.symm (h j i hj hi q hi)
theorem Ls_end {us : List U} {d : Nat} (hd : Dist us us.length) (c : ByteArray) : Ls us d (cl (us.take d)) c = rd (pl (us.drop d)) c := by
  have e1 : stay (Pg us d) (rd (pl (us.take d)) c) = [] := by
    unfold stay
    rw [List.filter_eq_nil_iff]
    intro x hx
    obtain ⟨i, hi, e, _⟩ := mem_pl (mem_rd hx)
    rw [List.length_take] at hi
    rw [List.getElem_take] at e
    have : Pg us d x = true := Pg_iff.2 ⟨i, by omega, by omega, e⟩
    rw [this]; simp
  have e2 : stay (Pg us d) (rd (pl (us.drop d)) c) = rd (pl (us.drop d)) c := by
    unfold stay
    rw [List.filter_eq_self]
    intro x hx
    obtain ⟨i, hi, e, _⟩ := mem_pl (mem_rd hx)
    rw [List.length_drop] at hi
    rw [List.getElem_drop] at e
    cases hq : Pg us d x with
    | false => rfl
    | true =>
      obtain ⟨j, hj, hjd, e'⟩ := Pg_iff.1 hq
      have := hd.ne (i := d + i) (j := j) (by omega) hj (e.trans e'.symm)
      omega
  unfold Ls
  rw [pl_split us d, rd_append]
  split
  · unfold stay at e1 e2 ⊢
    rw [List.filter_append, e1, e2, List.nil_append]
  · rename_i hn
    have : rd (pl (us.take d)) c = [] := by
      cases hq : rd (pl (us.take d)) c with
      | nil => rfl
      | cons x l =>
        exfalso
        have hx : x ∈ rd (pl (us.take d)) c := by rw [hq]; simp
        obtain ⟨i, hi, _, e⟩ := mem_pl (mem_rd hx)
        exact hn (List.mem_flatMap.2 ⟨_, List.getElem_mem hi, e⟩)
    rw [this, List.nil_append]
theorem R2_end {us : List U} {d : Nat} (hd : Dist us us.length) (key v : Value) : R2 us (wl (us.take d)) key v ↔ Rwr (wl (us.drop d)) key v := by
  constructor
  · rintro ⟨⟨rfl, p, hp, rfl⟩, h2⟩
    rw [wl_split us d, List.mem_append] at hp
    rcases hp with hp | hp
    · exact absurd rfl (h2 p hp)
    · exact ⟨rfl, p, hp, rfl⟩
  · rintro ⟨rfl, p, hp, rfl⟩
    refine ⟨⟨rfl, p, by rw [wl_split us d, List.mem_append]; exact .inr hp, rfl⟩, fun q hq e => ?_⟩
    have e' := ver_inj e
    subst e'
    obtain ⟨i, hi, e1⟩ := mem_wl hp
    obtain ⟨j, hj, e2⟩ := mem_wl hq
    rw [List.length_drop] at hi
    rw [List.length_take] at hj
    rw [List.getElem_drop] at e1
    rw [List.getElem_take] at e2
    have := hd.ne (i := d + i) (j := j) (by omega) (by omega) (e1.trans e2.symm)
    omega
/-- 'at' as the ids that stay are laid anew -/
def R5 (us : List U) (d k : Nat) (key v : Value) : Prop :=
  (∃ i, ∃ h : i < (us.drop d).length, i < k ∧ key = .string ((us.drop d)[i]).id ∧ v = .int .i64 i) ∨ ((∀ i (h : i < (us.drop d).length), i < k → key ≠ .string ((us.drop d)[i]).id) ∧ R1 us d key v)
theorem R5_zero (us : List U) (d : Nat) (key v : Value) : R1 us d key v ↔ R5 us d 0 key v :=
  ⟨fun h => .inr ⟨fun i _ hi => by omega, h⟩, fun h => by rcases h with ⟨i, _, h, _⟩ | ⟨_, h⟩; omega; exact h⟩
theorem R5_put {us : List U} {d k : Nat} (hd : Dist us us.length) (hk : k < (us.drop d).length) (key v : Value) : putR (R5 us d k) (.string ((us.drop d)[k]).id) (.int .i64 k) key v ↔ R5 us d (k + 1) key v := by
  have hne : ∀ i (hi : i < (us.drop d).length), i < k → ((us.drop d)[i]).id ≠ ((us.drop d)[k]).id := by
    intro i hi hik e
    rw [List.getElem_drop, List.getElem_drop] at e
    rw [List.length_drop] at hi hk
    have := hd.ne (i := d + i) (j := d + k) (by omega) (by omega) e
    omega
  constructor
  · rintro (⟨rfl, rfl⟩ | ⟨hn, ⟨i, hi, hik, rfl, rfl⟩ | ⟨h1, h2⟩⟩)
    · exact .inl ⟨k, hk, by omega, rfl, rfl⟩
    · exact .inl ⟨i, hi, by omega, rfl, rfl⟩
    · refine .inr ⟨fun i hi hik => ?_, h2⟩
      by_cases e : i < k
      · exact h1 i hi e
      · have : i = k := by omega
        subst this
        exact hn
  · rintro (⟨i, hi, hik, rfl, rfl⟩ | ⟨h1, h2⟩)
    · by_cases e : i < k
      · exact .inr ⟨fun q => hne i hi e (by simpa using q), .inl ⟨i, hi, e, rfl, rfl⟩⟩
      · have : i = k := by omega
        subst this
        exact .inl ⟨rfl, rfl⟩
    · exact .inr ⟨h1 k hk (by omega), .inr ⟨fun i hi hik => h1 i hi (by omega), h2⟩⟩
theorem R5_end {us : List U} {d : Nat} (key v : Value) : R5 us d (us.drop d).length key v ↔ Rat (us.drop d) key v := by
  constructor
  · rintro (⟨i, hi, _, rfl, rfl⟩ | ⟨h1, ⟨i, hi, rfl, rfl⟩, h3⟩)
    · exact ⟨i, hi, rfl, rfl⟩
    · exfalso
      by_cases e : i < d
      · exact h3 i hi e rfl
      · have hi' : i - d < (us.drop d).length := by rw [List.length_drop]; omega
        refine h1 (i - d) hi' hi' ?_
        rw [List.getElem_drop]
        congr 3
        omega
  · rintro ⟨i, hi, rfl, rfl⟩
    exact .inl ⟨i, hi, hi, rfl, rfl⟩
end Go.Proofs.Qxb6600552a.kt
