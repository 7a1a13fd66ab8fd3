/-
  A KEY ADDED, PLAIN: what the list of key columns gains; the law's own way of matching the two lists.
-/
import Derived.Test.Qxb6000463aList
namespace Go.Proofs.Qxb6000463a
open Go.RowKit

/-- What 'sameKC' compares. -/
structure Vw where
  sch : ByteArray
  nm : ByteArray
  oid : Int
  cn : ByteArray
  pos : Int
  cc : ByteArray
  s : ByteArray

def Kc.vw (k : Kc) : Vw := ⟨k.t.sch, k.t.nm, k.t.oid, k.c.nm, k.c.pos, k.c.co, k.s⟩

/-- The table with one unique key more. -/
def addKey (t : Td) (k : Kd) : Td := ⟨t.sch, t.nm, t.oid, t.nc, t.col, t.pri, t.nu + 1, upd t.uni t.nu k⟩

theorem addKey_old (t : Td) (k : Kd) : ∀ u, u < 1 + t.nu → (addKey t k).key u = t.key u
  | 0, _ => rfl
  | u + 1, h => by show upd t.uni t.nu k u = t.uni u; exact upd_other _ _ _ (by omega)
theorem addKey_new (t : Td) (k : Kd) : (addKey t k).key (1 + t.nu) = k := by
  rw [Nat.add_comm]; show upd t.uni t.nu k t.nu = k; exact upd_same _ _ _

theorem fsTo_congr {K K' : Nat → Kd} {s : ByteArray} : ∀ i, (∀ u, u < i → K u = K' u) → fsTo K s i = fsTo K' s i
  | 0, _ => rfl
  | i + 1, h => by rw [fsTo, fsTo, fsTo_congr i (fun u hu => h u (by omega)), h i (by omega)]

theorem fs_add_some {t : Td} {k : Kd} {s c : ByteArray} (h : t.fs s = some c) : (addKey t k).fs s = some c := by
  show fsTo (addKey t k).key s (1 + (t.nu + 1)) = some c
  rw [← Nat.add_assoc]
  apply fsTo_some
  rw [fsTo_congr (K' := t.key) _ (fun u hu => addKey_old t k u hu)]
  exact h
theorem fs_add_new {t : Td} {k : Kd} {s : ByteArray} (h : t.fs s = none) (hs : sole1 k s = true) : (addKey t k).fs s = some (k.co 0) := by
  show fsTo (addKey t k).key s (1 + (t.nu + 1)) = some (k.co 0)
  rw [← Nat.add_assoc, fsTo_first (by rw [fsTo_congr (K' := t.key) _ (fun u hu => addKey_old t k u hu)]; exact h) (by rw [addKey_new]; exact hs), addKey_new]
theorem fs_add_none {t : Td} {k : Kd} {s : ByteArray} (h : t.fs s = none) (hs : sole1 k s = false) : (addKey t k).fs s = none := by
  show fsTo (addKey t k).key s (1 + (t.nu + 1)) = none
  rw [← Nat.add_assoc, fsTo_skip (by rw [addKey_new]; exact hs), fsTo_congr (K' := t.key) _ (fun u hu => addKey_old t k u hu)]
  exact h

/-- The new key makes a name sole that was not. -/
def NewS (t : Td) (k : Kd) : Prop := k.n = 1 ∧ t.fs (k.col 0) = none
/-- A key column that the new key brings. -/
def IsNew (t : Td) (k : Kd) (v : Vw) : Prop := NewS t k ∧ v.sch = t.sch ∧ v.nm = t.nm ∧ v.oid = t.oid ∧ v.cn = k.col 0 ∧ v.s = k.co 0

/-- The second list is the first, members of P put in. -/
inductive Ins (P : Vw → Prop) : List Vw → List Vw → Prop
  | nil : Ins P [] []
  | both (a : Vw) {l l' : List Vw} : Ins P l l' → Ins P (a :: l) (a :: l')
  | ins (a : Vw) {l l' : List Vw} : P a → Ins P l l' → Ins P l (a :: l')

theorem Ins.refl (P : Vw → Prop) : ∀ l, Ins P l l
  | [] => .nil
  | a :: l => .both a (Ins.refl P l)
theorem Ins.append {P : Vw → Prop} {l l' m m' : List Vw} (h : Ins P l l') (h' : Ins P m m') : Ins P (l ++ m) (l' ++ m') := by
  induction h with
  | nil => exact h'
  | both a _ ih => exact .both a ih
  | ins a hp _ ih => exact .ins a hp ih
theorem Ins.eq {P : Vw → Prop} (hP : ∀ v, ¬ P v) {l l' : List Vw} (h : Ins P l l') : l = l' := by
  induction h with
  | nil => rfl
  | both a _ ih => rw [ih]
  | ins a hp _ _ => exact absurd hp (hP a)

theorem sole1_iff {k : Kd} {s : ByteArray} : sole1 k s = true ↔ k.n = 1 ∧ k.col 0 = s := by simp [sole1]

theorem vw_l1 (t : Td) (m m' : Tm) (j : Nat) : (l1 t m j).map Kc.vw = (l1 t m' j).map Kc.vw := by
  unfold l1
  cases t.fs (t.col j).nm <;> rfl
theorem vw_lC (t : Td) (m m' : Tm) : ∀ j, (lC t m j).map Kc.vw = (lC t m' j).map Kc.vw
  | 0 => rfl
  | j + 1 => by unfold lC; rw [List.map_append, List.map_append, vw_lC t m m' j, vw_l1 t m m' j]

theorem ins_l1 (t : Td) (k : Kd) (m m' : Tm) (j : Nat) : Ins (IsNew t k) ((l1 t m j).map Kc.vw) ((l1 (addKey t k) m' j).map Kc.vw) := by
  have e0 : (addKey t k).col j = t.col j := rfl
  unfold l1
  rw [e0]
  cases h : t.fs (t.col j).nm with
  | some c => rw [fs_add_some h]; exact Ins.both _ .nil
  | none =>
    cases hs : sole1 k (t.col j).nm with
    | false => rw [fs_add_none h hs]; exact .nil
    | true =>
      rw [fs_add_new h hs]
      obtain ⟨h1, h2⟩ := sole1_iff.1 hs
      exact .ins _ ⟨⟨h1, by rw [h2]; exact h⟩, rfl, rfl, rfl, h2.symm, rfl⟩ .nil
theorem ins_lC (t : Td) (k : Kd) (m m' : Tm) : ∀ j, Ins (IsNew t k) ((lC t m j).map Kc.vw) ((lC (addKey t k) m' j).map Kc.vw)
  | 0 => .nil
  | j + 1 => by unfold lC; rw [List.map_append, List.map_append]; exact (ins_lC t k m m' j).append (ins_l1 t k m m' j)

/-- The tables, a key added to table q. -/
theorem ins_lT (ts : Nat → Td) (q : Nat) (k : Kd) (ms ms' : Nat → Tm) : ∀ i, Ins (IsNew (ts q) k) ((lT ts ms i).map Kc.vw) ((lT (upd ts q (addKey (ts q) k)) ms' i).map Kc.vw)
  | 0 => .nil
  | i + 1 => by
    unfold lT
    rw [List.map_append, List.map_append]
    refine (ins_lT ts q k ms ms' i).append ?_
    by_cases e : i = q
    · subst e; rw [upd_same]; exact ins_lC (ts i) k _ _ _
    · rw [upd_other _ _ _ e, vw_lC (ts i) (ms i) (ms' i)]; exact Ins.refl _ _

/-- How many of the first j columns bear the name s. -/
def cntC (t : Td) (s : ByteArray) : Nat → Nat
  | 0 => 0
  | j + 1 => cntC t s j + (if (t.col j).nm = s then 1 else 0)

theorem cntC_le (t : Td) (s : ByteArray) : ∀ j, cntC t s j ≤ j
  | 0 => Nat.le_refl _
  | j + 1 => by
    have := cntC_le t s j
    unfold cntC
    split <;> omega

theorem n1_add {t : Td} {k : Kd} (h : NewS t k) (j : Nat) : n1 (addKey t k) j = n1 t j + (if (t.col j).nm = k.col 0 then 1 else 0) := by
  have e0 : (addKey t k).col j = t.col j := rfl
  unfold n1
  rw [e0]
  cases hf : t.fs (t.col j).nm with
  | some c =>
    have hne : ¬ (t.col j).nm = k.col 0 := fun e => by
      rw [e, h.2] at hf
      cases hf
    rw [fs_add_some hf, if_neg hne]; rfl
  | none =>
    by_cases e : (t.col j).nm = k.col 0
    · rw [fs_add_new hf (sole1_iff.2 ⟨h.1, e.symm⟩), if_pos e]; rfl
    · rw [fs_add_none hf (by cases hs : sole1 k (t.col j).nm with | false => rfl | true => exact absurd (sole1_iff.1 hs).2.symm e), if_neg e]; rfl
theorem nC_add {t : Td} {k : Kd} (h : NewS t k) : ∀ j, nC (addKey t k) j = nC t j + cntC t (k.col 0) j
  | 0 => rfl
  | j + 1 => by unfold nC cntC; rw [nC_add h j, n1_add h j]; omega
theorem nT_add {ts : Nat → Td} {q : Nat} {k : Kd} (h : NewS (ts q) k) : ∀ i, nT (upd ts q (addKey (ts q) k)) i = nT ts i + (if q < i then cntC (ts q) (k.col 0) (ts q).nc else 0)
  | 0 => rfl
  | i + 1 => by
    unfold nT
    rw [nT_add h i]
    by_cases e : i = q
    · subst e
      rw [upd_same, if_neg (by omega), if_pos (by omega)]
      show nT ts i + 0 + nC (addKey (ts i) k) (ts i).nc = _
      rw [nC_add h]; omega
    · rw [upd_other _ _ _ e]
      by_cases hl : q < i
      · rw [if_pos hl, if_pos (by omega)]; omega
      · rw [if_neg hl, if_neg (by omega)]; omega

theorem nT_same {ts : Nat → Td} {q : Nat} {k : Kd} (h : ¬ NewS (ts q) k) (ms : Nat → Tm) (i : Nat) : nT (upd ts q (addKey (ts q) k)) i = nT ts i := by
  have e := Ins.eq (fun v hv => h hv.1) (ins_lT ts q k ms ms i)
  rw [(lT_out ts ms i).2, (lT_out (upd ts q (addKey (ts q) k)) ms i).2]
  have := congrArg List.length e
  simpa using this.symm

/-- The law's matching: n of VB have been met behind i of VA. -/
def St (P : Vw → Prop) (VB VA : List Vw) (i n : Nat) : Prop :=
  ∃ m, m ≤ n ∧ n ≤ VB.length ∧ Ins P (VB.drop m) (VA.drop i) ∧ ∀ x v, m ≤ x → x < n → VB[x]? = some v → P v

theorem St.start {P : Vw → Prop} {VB VA : List Vw} (h : Ins P VB VA) : St P VB VA 0 0 := ⟨0, Nat.le_refl _, Nat.zero_le _, h, fun x v _ hx => by omega⟩

theorem Ins.split {P : Vw → Prop} {VB VA : List Vw} {m i : Nat} {a : Vw} (h : Ins P (VB.drop m) (VA.drop i)) (ha : VA[i]? = some a) :
    (VB[m]? = some a ∧ Ins P (VB.drop (m + 1)) (VA.drop (i + 1))) ∨ (P a ∧ Ins P (VB.drop m) (VA.drop (i + 1))) := by
  have hi : i < VA.length := (List.getElem?_eq_some_iff.1 ha).1
  have e1 : VA.drop i = a :: VA.drop (i + 1) := by
    rw [List.drop_eq_getElem_cons hi]
    congr 1
    exact (List.getElem?_eq_some_iff.1 ha).2
  rw [e1] at h
  generalize hl : VB.drop m = l at h
  generalize hr : VA.drop (i + 1) = r at h ⊢
  cases h with
  | both _ h' =>
    rename_i l0
    left
    have hm : m < VB.length := by
      rcases Nat.lt_or_ge m VB.length with hlt | hge
      · exact hlt
      · rw [List.drop_eq_nil_of_le hge] at hl; cases hl
    rw [List.drop_eq_getElem_cons hm] at hl
    injection hl with h1 h2
    refine ⟨by rw [List.getElem?_eq_getElem hm, h1], ?_⟩
    rw [h2]
    exact h'
  | ins _ hp h' => exact Or.inr ⟨hp, h'⟩

theorem St.hit {P : Vw → Prop} {VB VA : List Vw} {i n : Nat} {a : Vw} (h : St P VB VA i n) (ha : VA[i]? = some a) (hn : VB[n]? = some a) : St P VB VA (i + 1) (n + 1) := by
  obtain ⟨m, h1, h2, h3, h4⟩ := h
  have hl : n < VB.length := (List.getElem?_eq_some_iff.1 hn).1
  rcases h3.split ha with ⟨h5, h6⟩ | ⟨h5, h6⟩
  · refine ⟨m + 1, by omega, by omega, h6, fun x v hx1 hx2 hv => ?_⟩
    by_cases e : x = n
    · subst e
      rw [hn] at hv
      cases hv
      exact h4 m a (Nat.le_refl _) (by omega) h5
    · exact h4 x v (by omega) (by omega) hv
  · refine ⟨m, by omega, by omega, h6, fun x v hx1 hx2 hv => ?_⟩
    by_cases e : x = n
    · subst e
      rw [hn] at hv
      cases hv
      exact h5
    · exact h4 x v (by omega) (by omega) hv

theorem St.miss {P : Vw → Prop} {VB VA : List Vw} {i n : Nat} {a : Vw} (h : St P VB VA i n) (ha : VA[i]? = some a) (hn : ¬ VB[n]? = some a) : P a ∧ St P VB VA (i + 1) n := by
  obtain ⟨m, h1, h2, h3, h4⟩ := h
  rcases h3.split ha with ⟨h5, h6⟩ | ⟨h5, h6⟩
  · have hne : m ≠ n := fun e => hn (by rw [← e]; exact h5)
    exact ⟨h4 m a (Nat.le_refl _) (by omega) h5, m + 1, by omega, h2, h6, fun x v hx1 hx2 hv => h4 x v (by omega) hx2 hv⟩
  · exact ⟨h5, m, h1, h2, h6, h4⟩

theorem St.end_ {P : Vw → Prop} {VB VA : List Vw} {n : Nat} (h : St P VB VA VA.length n) : n = VB.length := by
  obtain ⟨m, h1, h2, h3, _⟩ := h
  rw [List.drop_eq_nil_of_le (Nat.le_refl _)] at h3
  generalize hl : VB.drop m = l at h3
  cases h3
  have : VB.length ≤ m := by
    have := congrArg List.length hl
    simp at this
    omega
  omega

end Go.Proofs.Qxb6000463a
