/-
  THE KEY COLUMNS AS A LIST; where each lies in the slice that 'KeyColumns' gives.
-/
import Derived.Test.Qxb6000463aKC
namespace Go.Proofs.Qxb6000463a
open Go.RowKit

/-- A key column: its table, its column, its collation. -/
structure Kc where
  t : Td
  m : Tm
  c : Cd
  s : ByteArray

def Kc.cells (k : Kc) : List Value := kcells k.t k.m k.c k.s

def l1 (t : Td) (m : Tm) (j : Nat) : List Kc :=
  match t.fs (t.col j).nm with
  | none => []
  | some s => [⟨t, m, t.col j, s⟩]
def lC (t : Td) (m : Tm) : Nat → List Kc
  | 0 => []
  | j + 1 => lC t m j ++ l1 t m j
def lT (ts : Nat → Td) (ms : Nat → Tm) : Nat → List Kc
  | 0 => []
  | i + 1 => lT ts ms i ++ lC (ts i) (ms i) (ts i).nc

theorem l1_out (t : Td) (m : Tm) (j : Nat) : out1 t m j = (l1 t m j).flatMap Kc.cells ∧ n1 t j = (l1 t m j).length := by
  unfold out1 n1 l1
  cases t.fs (t.col j).nm <;> simp [Kc.cells, kcells]
theorem lC_out (t : Td) (m : Tm) : ∀ j, outC t m j = (lC t m j).flatMap Kc.cells ∧ nC t j = (lC t m j).length
  | 0 => ⟨rfl, rfl⟩
  | j + 1 => by
    obtain ⟨h1, h2⟩ := lC_out t m j
    obtain ⟨h3, h4⟩ := l1_out t m j
    unfold outC nC lC
    simp [h1, h2, h3, h4]
theorem lT_out (ts : Nat → Td) (ms : Nat → Tm) : ∀ i, outT ts ms i = (lT ts ms i).flatMap Kc.cells ∧ nT ts i = (lT ts ms i).length
  | 0 => ⟨rfl, rfl⟩
  | i + 1 => by
    obtain ⟨h1, h2⟩ := lT_out ts ms i
    obtain ⟨h3, h4⟩ := lC_out (ts i) (ms i) (ts i).nc
    unfold outT nT lT
    simp [h1, h2, h3, h4]

theorem lC_step {t : Td} {m : Tm} {j : Nat} : ∀ {n}, j < n → ∃ rest, lC t m n = lC t m j ++ l1 t m j ++ rest
  | 0, h => by omega
  | n + 1, h => by
    by_cases e : j = n
    · subst e; exact ⟨[], by simp [lC]⟩
    · obtain ⟨r, hr⟩ := lC_step (t := t) (m := m) (j := j) (n := n) (by omega)
      exact ⟨r ++ l1 t m n, by simp [lC, hr]⟩
theorem lT_step {ts : Nat → Td} {ms : Nat → Tm} {i : Nat} : ∀ {n}, i < n → ∃ rest, lT ts ms n = lT ts ms i ++ lC (ts i) (ms i) (ts i).nc ++ rest
  | 0, h => by omega
  | n + 1, h => by
    by_cases e : i = n
    · subst e; exact ⟨[], by simp [lT]⟩
    · obtain ⟨r, hr⟩ := lT_step (ts := ts) (ms := ms) (i := i) (n := n) (by omega)
      exact ⟨r ++ lC (ts n) (ms n) (ts n).nc, by simp [lT, hr]⟩

/-- The key column of column j of table i, where it is one. -/
theorem lT_at {ts : Nat → Td} {ms : Nat → Tm} {N i j : Nat} (hi : i < N) (hj : j < (ts i).nc) {s : ByteArray} (hs : (ts i).fs ((ts i).col j).nm = some s) :
    (lT ts ms N)[nT ts i + nC (ts i) j]? = some ⟨ts i, ms i, (ts i).col j, s⟩ := by
  obtain ⟨r1, e1⟩ := lT_step (ms := ms) hi
  obtain ⟨r2, e2⟩ := lC_step (t := ts i) (m := ms i) hj
  have e3 : l1 (ts i) (ms i) j = [⟨ts i, ms i, (ts i).col j, s⟩] := by unfold l1; rw [hs]
  rw [e1, e2, e3, (lT_out ts ms i).2, (lC_out (ts i) (ms i) j).2]
  simp [List.append_assoc]

theorem flat_at {L : List Kc} {x : Nat} {k : Kc} (h : L[x]? = some k) (j : Nat) (hj : j < 35) : (L.flatMap Kc.cells)[x * 35 + j]? = k.cells[j]? := by
  induction L generalizing x with
  | nil => simp at h
  | cons a L ih =>
    have la : a.cells.length = 35 := rfl
    rw [List.flatMap_cons]
    cases x with
    | zero =>
      simp at h
      subst h
      rw [Nat.zero_mul, Nat.zero_add, List.getElem?_append_left (by omega)]
    | succ x =>
      rw [List.getElem?_append_right (by omega), la, show (x + 1) * 35 + j - 35 = x * 35 + j from by omega]
      exact ih (by simpa using h)

/-- The slice of key columns that a law has. -/
structure KList (w : World) (v : Value) (L : List Kc) : Prop where
  len : ∃ a c, v = .slice a L.length c
  at_ : ∀ x k, L[x]? = some k → ∃ g c, v = .slice (some ⟨g, 0, none⟩) L.length c ∧ g < w.heap.size ∧ w.rangeAt g (x * 35) k.cells

theorem KList.below {w w' : World} {v : Value} {L : List Kc} (h : KList w v L) (hb : Below w.heap.size w w') : KList w' v L :=
  ⟨h.len, fun x k hk => by
    obtain ⟨g, c, e, lg, hr⟩ := h.at_ x k hk
    exact ⟨g, c, e, Nat.lt_of_lt_of_le lg hb.size, range_below hr hb lg⟩⟩

theorem KList_of {w : World} {b : Nat} {v : Value} {N : Nat} {ts : Nat → Td} {ms : Nat → Tm} (h : w.ownsRow b 80 35 v (nT ts N) (outT ts ms N)) : KList w v (lT ts ms N) := by
  rw [(lT_out ts ms N).1, (lT_out ts ms N).2] at h
  generalize lT ts ms N = L at h
  refine ⟨?_, fun x k hk => ?_⟩
  · obtain ⟨_, ⟨rfl, e⟩ | ⟨g, cap, cur, rfl, _⟩⟩ := h
    · exact ⟨none, 0, by rw [e]⟩
    · exact ⟨_, _, rfl⟩
  · have hx : x < L.length := (List.getElem?_eq_some_iff.1 hk).1
    have hl := h.1
    obtain ⟨_, ⟨rfl, e⟩ | ⟨g, cap, cur, rfl, _, hg, _⟩⟩ := id h
    · omega
    · refine ⟨g, cap, rfl, (Array.getElem?_eq_some_iff.1 hg).1, fun j c hc => ?_⟩
      have hj : j < 35 := (List.getElem?_eq_some_iff.1 hc).1
      rw [h.cellAt (x * 35 + j) (by omega), flat_at hk j hj]
      exact hc

end Go.Proofs.Qxb6000463a
