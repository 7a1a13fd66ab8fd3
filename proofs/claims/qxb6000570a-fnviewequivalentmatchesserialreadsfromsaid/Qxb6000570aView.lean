/-
  THE PLAIN MATHEMATICS of view equivalence (no Go): the latest writer of an item, and two ways to look it up.
-/
namespace Go.Proofs.Qxb6000570a

/-- A graph and an order: access a touches item it a, writes where 0 < fw a, reads from fr a; node u's accesses are R u 0 .. R u (L u - 1); the order is od 0 .. -/
structure G where
  it : Nat → Nat
  fw : Nat → Int
  fr : Nat → Int
  L : Nat → Nat
  R : Nat → Nat → Nat
  od : Nat → Nat

/-- One of node u's first i accesses writes item x. -/
def wrTo (g : G) (u : Nat) : Nat → Nat → Bool
  | 0, _ => false
  | i + 1, x => wrTo g u i x || (decide (g.it (g.R u i) = x) && decide (0 < g.fw (g.R u i)))

/-- Node u writes item x. -/
def wr (g : G) (u x : Nat) : Bool := wrTo g u (g.L u) x

/-- The latest writer of item x among the first k of the order; -1 where none. -/
def last (g : G) : Nat → Nat → Int
  | 0, _ => -1
  | k + 1, x => if wr g (g.od k) x = true then (g.od k : Int) else last g k x

/-- Access i of the order's k-th node reads as it should. -/
def OK (g : G) (k i : Nat) : Prop := g.fr (g.R (g.od k) i) = -2 ∨ g.fr (g.R (g.od k) i) = last g k (g.it (g.R (g.od k) i))

/-- The first k nodes read as they should. -/
def AllTo (g : G) (k : Nat) : Prop := ∀ j, j < k → ∀ i, i < g.L (g.od j) → OK g j i

/-- 'last' while node u = od k's first i accesses have been laid. -/
def lastAt (g : G) (k i x : Nat) : Int := if wrTo g (g.od k) i x = true then (g.od k : Int) else last g k x

theorem lastAt_zero (g : G) (k x : Nat) : lastAt g k 0 x = last g k x := by simp [lastAt, wrTo]
theorem lastAt_end (g : G) (k x : Nat) : lastAt g k (g.L (g.od k)) x = last g (k + 1) x := rfl

theorem lastAt_write {g : G} {k i : Nat} (h : 0 < g.fw (g.R (g.od k) i)) (x : Nat) : lastAt g k (i + 1) x = if x = g.it (g.R (g.od k) i) then (g.od k : Int) else lastAt g k i x := by
  unfold lastAt
  rw [wrTo]
  by_cases e : x = g.it (g.R (g.od k) i)
  · rw [if_pos e, if_pos (by rw [e]; simp [h])]
  · rw [if_neg e]
    have : decide (g.it (g.R (g.od k) i) = x) = false := decide_eq_false (fun h => e h.symm)
    rw [this]; simp

theorem lastAt_skip {g : G} {k i : Nat} (h : ¬ 0 < g.fw (g.R (g.od k) i)) (x : Nat) : lastAt g k (i + 1) x = lastAt g k i x := by
  unfold lastAt
  rw [wrTo, decide_eq_false h]; simp

theorem AllTo.step {g : G} {k : Nat} (h : AllTo g k) (hk : ∀ i, i < g.L (g.od k) → OK g k i) : AllTo g (k + 1) := by
  intro j hj i hi
  by_cases e : j = k
  · subst e; exact hk i hi
  · exact h j (by omega) i hi

end Go.Proofs.Qxb6000570a
