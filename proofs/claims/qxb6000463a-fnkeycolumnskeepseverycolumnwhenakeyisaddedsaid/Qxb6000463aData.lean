/-
  THE DATA OF A CATALOG, PLAIN; AND THE ROWS THAT 'SoleKeys' KEEPS BEHIND ITS MAP.
-/
import Derived.Test.Qxb6000463aMap
import Derived.Laws.OwnMore
namespace Go.Proofs.Qxb6000463a
open Go.RowKit

/-- A key: its columns' names, its collations' names. -/
structure Kd where
  n : Nat
  col : Nat → ByteArray
  m : Nat
  co : Nat → ByteArray

/-- A column. -/
structure Cd where
  nm : ByteArray
  pos : Int
  co : ByteArray

/-- A table. -/
structure Td where
  sch : ByteArray
  nm : ByteArray
  oid : Int
  nc : Nat
  col : Nat → Cd
  pri : Kd
  nu : Nat
  uni : Nat → Kd

/-- The table's keys, primary first. -/
def Td.key (t : Td) : Nat → Kd
  | 0 => t.pri
  | u + 1 => t.uni u

/-- The key has the one column s. -/
def sole1 (k : Kd) (s : ByteArray) : Bool := decide (k.n = 1) && decide (k.col 0 = s)

/-- The collation of the first of the keys 0 .. i-1 whose one column is s. -/
def fsTo (K : Nat → Kd) (s : ByteArray) : Nat → Option ByteArray
  | 0 => none
  | i + 1 => match fsTo K s i with
    | some c => some c
    | none => if sole1 (K i) s = true then some ((K i).co 0) else none

theorem fsTo_skip {K : Nat → Kd} {s : ByteArray} {i : Nat} (h : sole1 (K i) s = false) : fsTo K s (i + 1) = fsTo K s i := by
  rw [fsTo, h]; cases fsTo K s i <;> rfl
theorem fsTo_some {K : Nat → Kd} {s : ByteArray} {i : Nat} {c : ByteArray} (h : fsTo K s i = some c) : fsTo K s (i + 1) = some c := by rw [fsTo, h]
theorem fsTo_first {K : Nat → Kd} {s : ByteArray} {i : Nat} (h : fsTo K s i = none) (h1 : sole1 (K i) s = true) : fsTo K s (i + 1) = some ((K i).co 0) := by rw [fsTo, h, h1]; rfl

/-- A collation's cells. -/
def collCells (c : ByteArray) : List Value := [.string ⟨#[]⟩, .string c, .string c, .bool false]

/-- A key in a catalog: its two slices. -/
def KeyAt (w : World) (cv dv : Value) (k : Kd) : Prop :=
  ∃ bc bd cc cd, cv = .slice (some ⟨bc, 0, none⟩) k.n cc ∧ dv = .slice (some ⟨bd, 0, none⟩) k.m cd ∧ bc < w.heap.size ∧ bd < w.heap.size ∧
    (0 < k.n → w.cell? ⟨bc, 0, none⟩ = some (.string (k.col 0)) ∧ (k.col 0).size ≤ maxLen) ∧ (0 < k.m → ∀ j v, (collCells (k.co 0))[j]? = some v → w.cell? ⟨bd, j, none⟩ = some v)

theorem KeyAt.below {w w' : World} {cv dv : Value} {k : Kd} (h : KeyAt w cv dv k) (hb : Below w.heap.size w w') : KeyAt w' cv dv k := by
  obtain ⟨bc, bd, cc, cd, h1, h2, h3, h4, h5, h6⟩ := h
  refine ⟨bc, bd, cc, cd, h1, h2, Nat.lt_of_lt_of_le h3 hb.size, Nat.lt_of_lt_of_le h4 hb.size, fun hn => ⟨?_, (h5 hn).2⟩, fun hm j v hv => ?_⟩
  · rw [hb.cell (p := ⟨bc, 0, none⟩) h3]; exact (h5 hn).1
  · rw [hb.cell (p := ⟨bd, j, none⟩) h4]; exact h6 hm j v hv

/-- What lies behind the map: at each sole name a row of collations whose first is the first key's; no two names share a row. -/
structure Sole (w : World) (base : Nat) (K : Nat → Kd) (i : Nat) (F : ByteArray → Option Value) : Prop where
  no : ∀ s, s.size ≤ maxLen → fsTo K s i = none → F s = none
  yes : ∀ s, s.size ≤ maxLen → ∀ c, fsTo K s i = some c → ∃ g n cap rest, F s = some (.slice (some ⟨g, 0, none⟩) n cap) ∧ 0 < n ∧ n ≤ i ∧ w.ownsRow base 76 4 (.slice (some ⟨g, 0, none⟩) n cap) n (collCells c ++ rest)
  apart : ∀ s s' v v', s.size ≤ maxLen → s'.size ≤ maxLen → s ≠ s' → F s = some v → F s' = some v' → v.ownBlock ≠ v'.ownBlock

theorem Sole.start (w : World) (base : Nat) (K : Nat → Kd) : Sole w base K 0 (fun _ => none) :=
  ⟨fun _ _ _ => rfl, (fun _ _ _ h => by cases h), (fun _ _ _ _ _ _ _ h _ => by cases h)⟩

theorem Sole.skip {w : World} {base : Nat} {K : Nat → Kd} {i : Nat} {F : ByteArray → Option Value} (h : Sole w base K i F) (hk : (K i).n ≠ 1) : Sole w base K (i + 1) F := by
  have e : ∀ s, fsTo K s (i + 1) = fsTo K s i := fun s => fsTo_skip (by unfold sole1; rw [decide_eq_false hk]; rfl)
  refine ⟨fun s hs hn => h.no s hs (by rw [← e]; exact hn), fun s hs c hc => ?_, h.apart⟩
  obtain ⟨g, n, cap, rest, h1, h2, h3, h4⟩ := h.yes s hs c (by rw [← e]; exact hc)
  exact ⟨g, n, cap, rest, h1, h2, by omega, h4⟩

/-- Every element owns its row. -/
theorem Sole.own {w : World} {base : Nat} {K : Nat → Kd} {i : Nat} {F : ByteArray → Option Value} (h : Sole w base K i F) {s : ByteArray} (hs : s.size ≤ maxLen) :
    ∃ n xs, n ≤ i ∧ w.ownsRow base 76 4 ((F s).getD nilS) n xs ∧ (F s = none → n = 0) ∧ (∀ c, fsTo K s i = some c → ∃ rest, xs = collCells c ++ rest) := by
  cases e : fsTo K s i with
  | none =>
    have := h.no s hs e
    rw [this]
    exact ⟨0, [], Nat.zero_le _, ⟨rfl, Or.inl ⟨rfl, rfl⟩⟩, fun _ => rfl, fun c hc => by cases hc⟩
  | some c =>
    obtain ⟨g, n, cap, rest, h1, h2, h3, h4⟩ := h.yes s hs c e
    rw [h1]
    exact ⟨n, _, h3, h4, (fun hh => by cases hh), (fun c' hc => by cases hc; exact ⟨rest, rfl⟩)⟩

theorem Sole.row {w : World} {base : Nat} {K : Nat → Kd} {i : Nat} {F : ByteArray → Option Value} (h : Sole w base K i F) {s : ByteArray} (hs : s.size ≤ maxLen) {v : Value} (hv : F s = some v) :
    ∃ g n cap xs, v = .slice (some ⟨g, 0, none⟩) n cap ∧ w.ownsRow base 76 4 v n xs := by
  cases e : fsTo K s i with
  | none => rw [h.no s hs e] at hv; cases hv
  | some c =>
    obtain ⟨g, n, cap, rest, h1, h2, h3, h4⟩ := h.yes s hs c e
    rw [h1] at hv; cases hv
    exact ⟨g, n, cap, _, rfl, h4⟩

theorem Sole.kept {w w' : World} {base : Nat} {K : Nat → Kd} {i : Nat} {F : ByteArray → Option Value} {row : Option Nat} (h : Sole w base K i F) (hg : w.grownBy w' row) (hne : ∀ s v, s.size ≤ maxLen → F s = .some v → v.ownBlock ≠ row) : Sole w' base K i F := by
  refine ⟨h.no, fun s hs c hc => ?_, h.apart⟩
  obtain ⟨g, n, cap, rest, h1, h2, h3, h4⟩ := h.yes s hs c hc
  exact ⟨g, n, cap, rest, h1, h2, h3, h4.kept hg (Or.inr (hne s _ hs h1))⟩

theorem Sole.alloc {w : World} {base : Nat} {K : Nat → Kd} {i : Nat} {F : ByteArray → Option Value} (h : Sole w base K i F) (o : Obj) : Sole (w.alloc o) base K i F := by
  refine ⟨h.no, fun s hs c hc => ?_, h.apart⟩
  obtain ⟨g, n, cap, rest, h1, h2, h3, h4⟩ := h.yes s hs c hc
  exact ⟨g, n, cap, rest, h1, h2, h3, h4.alloc o⟩

/-- Two rows of different types lie in different blocks. -/
theorem own_apart {w : World} {b b' : Nat} {e e' sz sz' : Nat} {v v' : Value} {n n' : Nat} {xs xs' : List Value} (h : w.ownsRow b e sz v n xs) (h' : w.ownsRow b' e' sz' v' n' xs') (he : e ≠ e') {g : Nat} (hv : v.ownBlock = .some g) : v'.ownBlock ≠ .some g := by
  intro hv'
  rcases h.2 with ⟨rfl, _⟩ | ⟨g1, c1, cur1, rfl, _, h1, _⟩
  · cases hv
  rcases h'.2 with ⟨rfl, _⟩ | ⟨g2, c2, cur2, rfl, _, h2, _⟩
  · cases hv'
  have e1 : g1 = g := by simpa [Value.ownBlock] using hv
  have e2 : g2 = g := by simpa [Value.ownBlock] using hv'
  subst e1 e2
  rw [h1] at h2
  injection h2 with h2
  injection h2 with _ h2
  exact he h2

theorem own_not_map {w : World} {b e sz : Nat} {v : Value} {n : Nat} {xs : List Value} (h : w.ownsRow b e sz v n xs) {B k : Nat} {F : ByteArray → Option Value} (hM : MapIs w B k F) : v.ownBlock ≠ .some B := by
  intro hv
  rcases h.2 with ⟨rfl, _⟩ | ⟨g1, c1, cur1, rfl, _, h1, _⟩
  · cases hv
  have e1 : g1 = B := by simpa [Value.ownBlock] using hv
  exact hM.not_cells h1 e1.symm

/-- ONE STEP: the row at s0 has got one collation more (w1), the map has been told (w2). -/
theorem Sole.step {W W1 w1 w2 : World} {base B n0 H g cap : Nat} {K : Nat → Kd} {i : Nat} {F : ByteArray → Option Value} {xs0 : List Value} (h : Sole W base K i F) (h1 : (K i).n = 1) (hs : ((K i).col 0).size ≤ maxLen)
    (hg1 : W.grownBy W1 .none) (hg2 : W1.grownBy w1 ((F ((K i).col 0)).getD nilS).ownBlock) (hat : ((F ((K i).col 0)).getD nilS).ownBlock = .some g ∨ g = H) (hH : W1.heap.size = H)
    (hown : w1.ownsRow base 76 4 (.slice (.some ⟨g, 0, none⟩) (n0 + 1) cap) (n0 + 1) (xs0 ++ collCells ((K i).co 0))) (hn0 : n0 ≤ i)
    (hx0 : (F ((K i).col 0) = .none → n0 = 0 ∧ xs0 = []) ∧ ∀ c, fsTo K ((K i).col 0) i = .some c → ∃ rest, xs0 = collCells c ++ rest)
    (hg3 : w1.grownBy w2 (.some B)) (hB : MapIs w1 B i F) :
    Sole w2 base K (i + 1) (upd F ((K i).col 0) (.some (.slice (.some ⟨g, 0, none⟩) (n0 + 1) cap))) := by
  have hown2 := hown.kept hg3 (Or.inr (own_not_map hown hB))
  have far : ∀ s v, s.size ≤ maxLen → s ≠ (K i).col 0 → F s = .some v → v.ownBlock ≠ ((F ((K i).col 0)).getD nilS).ownBlock := by
    intro s v hsz hne hv
    obtain ⟨g1, n1, c1, xs1, rfl, _⟩ := h.row hsz hv
    cases e : F ((K i).col 0) with
    | none => intro hh; cases hh
    | some v0 => exact h.apart s _ _ _ hsz hs hne hv e
  have sole_no : ∀ s, s ≠ (K i).col 0 → sole1 (K i) s = false := fun s hne => by
    unfold sole1; rw [decide_eq_false (p := (K i).col 0 = s) (fun e => hne e.symm)]; simp
  have sole_yes : sole1 (K i) ((K i).col 0) = true := by unfold sole1; rw [decide_eq_true h1]; simp
  refine ⟨fun s hsz hn => ?_, fun s hsz c hc => ?_, fun s s' v v' hsz hsz' hne hv hv' => ?_⟩
  · by_cases e : s = (K i).col 0
    · subst e
      exfalso
      cases e2 : fsTo K ((K i).col 0) i with
      | none => rw [fsTo_first e2 sole_yes] at hn; cases hn
      | some c => rw [fsTo_some e2] at hn; cases hn
    · rw [upd_other _ _ _ e]
      exact h.no s hsz (by rw [← fsTo_skip (sole_no s e)]; exact hn)
  · by_cases e : s = (K i).col 0
    · subst e
      rw [upd_same]
      cases e2 : fsTo K ((K i).col 0) i with
      | none =>
        rw [fsTo_first e2 sole_yes] at hc
        cases hc
        obtain ⟨rfl, rfl⟩ := hx0.1 (h.no _ hsz e2)
        exact ⟨g, _, cap, [], rfl, by omega, by omega, by simpa using hown2⟩
      | some c' =>
        rw [fsTo_some e2] at hc
        cases hc
        obtain ⟨rest, rfl⟩ := hx0.2 _ e2
        exact ⟨g, _, cap, rest ++ collCells ((K i).co 0), rfl, by omega, by omega, by simpa using hown2⟩
    · rw [upd_other _ _ _ e]
      rw [fsTo_skip (sole_no s e)] at hc
      obtain ⟨g1, n1, cap1, rest, h1, h2, h3, h4⟩ := h.yes s hsz c hc
      have k1 := (h4.kept hg1 (Or.inr (by intro hh; cases hh))).kept hg2 (Or.inr (far s _ hsz e h1))
      exact ⟨g1, n1, cap1, rest, h1, h2, by omega, k1.kept hg3 (Or.inr (own_not_map k1 hB))⟩
  · have new_far : ∀ s v, s.size ≤ maxLen → s ≠ (K i).col 0 → F s = .some v → v.ownBlock ≠ .some g := by
      intro s v hsz hne hv hh
      rcases hat with hat | hat
      · exact far s v hsz hne hv (by rw [hat]; exact hh)
      · obtain ⟨g1, n1, c1, xs1, rfl, ho⟩ := h.row hsz hv
        have := (ho.lt g hh).2
        have := hg1.size
        omega
    by_cases e : s = (K i).col 0
    · subst e
      rw [upd_same] at hv
      cases hv
      rw [upd_other _ _ _ (fun e => hne e.symm)] at hv'
      intro hh
      exact new_far s' v' hsz' (fun e => hne e.symm) hv' hh.symm
    · rw [upd_other _ _ _ e] at hv
      by_cases e' : s' = (K i).col 0
      · subst e'
        rw [upd_same] at hv'
        cases hv'
        intro hh
        exact new_far s v hsz e hv hh
      · rw [upd_other _ _ _ e'] at hv'
        exact h.apart s s' v v' hsz hsz' hne hv hv'

end Go.Proofs.Qxb6000463a
