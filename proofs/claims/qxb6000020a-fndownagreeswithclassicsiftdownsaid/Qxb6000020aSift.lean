/-
  THE PLAIN MATHEMATICS OF THE SIFT (no Go): a heap's way down, told along one path.
-/
namespace Go.Proofs.Qxb6000020a

/-- A turn: second, nanosecond, rank, run. -/
structure T4 where
  s : Int
  n : Int
  k : Int
  r : Int

/-- By second, nanosecond, rank, run. -/
def less (a b : T4) : Bool :=
  decide (a.s < b.s ∨ (a.s = b.s ∧ (a.n < b.n ∨ (a.n = b.n ∧ (a.k < b.k ∨ (a.k = b.k ∧ a.r < b.r))))))

theorem less_iff (a b : T4) : less a b = true ↔ (a.s < b.s ∨ (a.s = b.s ∧ (a.n < b.n ∨ (a.n = b.n ∧ (a.k < b.k ∨ (a.k = b.k ∧ a.r < b.r)))))) := by
  unfold less; exact decide_eq_true_iff

theorem less_false (a b : T4) : less a b = false ↔ ¬ (a.s < b.s ∨ (a.s = b.s ∧ (a.n < b.n ∨ (a.n = b.n ∧ (a.k < b.k ∨ (a.k = b.k ∧ a.r < b.r)))))) := by
  unfold less; exact decide_eq_false_iff_not

theorem less_asymm {a b : T4} (h : less a b = true) : less b a = false := by
  rw [less_iff] at h; rw [less_false]; omega

theorem less_irrefl (a : T4) : less a a = false := by
  rw [less_false]; omega

theorem le_trans4 {a b c : T4} (h : less b a = false) (k : less c b = false) : less c a = false := by
  rw [less_false] at *; omega

theorem eq_of_le {a b : T4} (h : less b a = false) (k : less a b = false) : a = b := by
  rw [less_false] at *
  cases a; cases b
  simp only [T4.mk.injEq] at *
  omega

def upd {α : Type} (q : Nat → α) (i : Nat) (v : α) : Nat → α := fun j => if j = i then v else q j
theorem upd_same {α : Type} (q : Nat → α) (i : Nat) (v : α) : upd q i v i = v := by simp [upd]
theorem upd_other {α : Type} (q : Nat → α) (i : Nat) (v : α) {j : Nat} (h : j ≠ i) : upd q i v j = q j := by simp [upd, h]

/-- The earlier child of x (there is a first child: 2x+1 < n). -/
def child (n : Nat) (q : Nat → T4) (x : Nat) : Nat := if 2 * x + 2 < n ∧ less (q (2 * x + 2)) (q (2 * x + 1)) = true then 2 * x + 2 else 2 * x + 1

theorem child_cases (n : Nat) (q : Nat → T4) (x : Nat) : child n q x = 2 * x + 1 ∨ child n q x = 2 * x + 2 := by unfold child; split <;> simp
theorem child_lt {n : Nat} {q : Nat → T4} {x : Nat} (h : 2 * x + 1 < n) : child n q x < n := by unfold child; split <;> omega
theorem child_congr {n : Nat} {q q' : Nat → T4} {x : Nat} (h : ∀ y, x < y → q' y = q y) : child n q' x = child n q x := by
  unfold child; rw [h _ (by omega), h _ (by omega)]

/-- The path down from i. -/
def path (n : Nat) (q : Nat → T4) (i : Nat) : Nat → Nat
  | 0 => i
  | j + 1 => child n q (path n q i j)

section
variable {n : Nat} {q : Nat → T4} {i : Nat}

theorem path_lt_succ (j : Nat) : path n q i j < path n q i (j + 1) := by
  show _ < child n q (path n q i j)
  rcases child_cases n q (path n q i j) with h | h <;> omega
theorem path_mono {a b : Nat} (h : a < b) : path n q i a < path n q i b := by
  induction b with
  | zero => omega
  | succ b ih =>
    rcases Nat.lt_or_ge a b with h' | h'
    · exact Nat.lt_trans (ih h') (path_lt_succ b)
    · obtain rfl : a = b := by omega
      exact path_lt_succ a
theorem path_ge (j : Nat) : i + j ≤ path n q i j := by
  induction j with
  | zero => exact Nat.le_refl _
  | succ j ih => have := path_lt_succ (n := n) (q := q) (i := i) j; omega
theorem path_parent (j : Nat) : (path n q i (j + 1) - 1) / 2 = path n q i j := by
  show (child n q (path n q i j) - 1) / 2 = _
  rcases child_cases n q (path n q i j) with h | h <;> rw [h] <;> omega
end

/-- The array when the hole has gone j steps down: each turn of the path one place up. -/
def digd (n : Nat) (q : Nat → T4) (i : Nat) : Nat → (Nat → T4)
  | 0 => q
  | j + 1 => upd (digd n q i j) (path n q i j) (q (path n q i (j + 1)))

/-- .. and the turn u laid into the hole. -/
def laid (n : Nat) (q : Nat → T4) (i : Nat) (j : Nat) : Nat → T4 := upd (digd n q i j) (path n q i j) (q i)

section
variable {n : Nat} {q : Nat → T4} {i : Nat}

theorem digd_ge (j : Nat) {x : Nat} (h : path n q i j ≤ x) : digd n q i j x = q x := by
  induction j with
  | zero => rfl
  | succ j ih =>
    have := path_lt_succ (n := n) (q := q) (i := i) j
    rw [digd, upd_other _ _ _ (by omega)]
    exact ih (by omega)

theorem digd_below (j : Nat) : digd n q i (j + 1) (path n q i j) = q (path n q i (j + 1)) := by rw [digd, upd_same]

theorem child_digd (j : Nat) : child n (digd n q i j) (path n q i j) = path n q i (j + 1) := by
  show _ = child n q (path n q i j)
  exact child_congr fun y hy => digd_ge j (by omega)

theorem child_laid (j : Nat) : child n (laid n q i j) (path n q i j) = path n q i (j + 1) := by
  show _ = child n q (path n q i j)
  exact child_congr fun y hy => by rw [laid, upd_other _ _ _ (by omega)]; exact digd_ge j (by omega)

theorem laid_here (j : Nat) : laid n q i j (path n q i j) = q i := upd_same _ _ _
theorem laid_next (j : Nat) : laid n q i j (path n q i (j + 1)) = q (path n q i (j + 1)) := by
  have := path_lt_succ (n := n) (q := q) (i := i) j
  rw [laid, upd_other _ _ _ (by omega)]
  exact digd_ge j (by omega)

theorem laid_zero : laid n q i 0 = q := by
  funext x
  show upd q i (q i) x = q x
  by_cases h : x = i
  · subst h; exact upd_same _ _ _
  · exact upd_other _ _ _ h

/-- One step of the classic way down: the turn and its earlier child change places. -/
theorem laid_step (j : Nat) : upd (upd (laid n q i j) (path n q i j) (q (path n q i (j + 1)))) (path n q i (j + 1)) (q i) = laid n q i (j + 1) := by
  funext x
  have h1 := path_lt_succ (n := n) (q := q) (i := i) j
  unfold laid
  rw [digd]
  by_cases e1 : x = path n q i (j + 1)
  · simp [upd, e1]
  · by_cases e2 : x = path n q i j
    · simp [upd, e2]
    · simp [upd, e1, e2]

/-- The array in the way up: as 'digd j' but in the hole. -/
def AtHole (n : Nat) (q : Nat → T4) (i j : Nat) (x : Nat → T4) : Prop := ∀ y, y ≠ path n q i j → x y = digd n q i j y

theorem atHole_parent {j : Nat} {x : Nat → T4} (h : AtHole n q i (j + 1) x) : x (path n q i j) = q (path n q i (j + 1)) := by
  have := path_lt_succ (n := n) (q := q) (i := i) j
  rw [h _ (by omega), digd_below]

theorem atHole_step {j : Nat} {x : Nat → T4} (h : AtHole n q i (j + 1) x) : AtHole n q i j (upd x (path n q i (j + 1)) (q (path n q i (j + 1)))) := by
  intro y hy
  by_cases e : y = path n q i (j + 1)
  · subst e
    have := path_lt_succ (n := n) (q := q) (i := i) j
    rw [upd_same]
    exact (digd_ge j (by omega)).symm
  · rw [upd_other _ _ _ e, h _ e, digd, upd_other _ _ _ hy]

theorem atHole_laid {j : Nat} {x : Nat → T4} (h : AtHole n q i j x) : upd x (path n q i j) (q i) = laid n q i j := by
  funext y
  unfold laid
  by_cases e : y = path n q i j
  · simp [upd, e]
  · rw [upd_other _ _ _ e, upd_other _ _ _ e, h _ e]

theorem laid_equal {j : Nat} (h : q (path n q i (j + 1)) = q i) : laid n q i (j + 1) = laid n q i j := by
  funext y
  have h1 := path_lt_succ (n := n) (q := q) (i := i) j
  unfold laid
  rw [digd, h]
  by_cases e1 : y = path n q i (j + 1)
  · have : y ≠ path n q i j := by omega
    rw [e1, upd_same, upd_other _ _ _ (by omega), digd_ge j (by omega), h]
  · by_cases e2 : y = path n q i j
    · simp [upd, e2]
    · simp [upd, e1, e2]

theorem laid_between {a : Nat} : ∀ d, (∀ m, a < m → m ≤ a + d → q (path n q i m) = q i) → laid n q i (a + d) = laid n q i a
  | 0, _ => rfl
  | d + 1, h => by
    have := laid_equal (n := n) (q := q) (i := i) (j := a + d) (h _ (by omega) (by omega))
    rw [← Nat.add_assoc, this]
    exact laid_between d fun m h1 h2 => h m h1 (by omega)

/-- The heap's order along the path below its head. -/
theorem path_le {K : Nat} (ho : ∀ m, 1 ≤ m → m < K → less (q (path n q i (m + 1))) (q (path n q i m)) = false) {a : Nat} (ha : 1 ≤ a) :
    ∀ d, a + d ≤ K → less (q (path n q i (a + d))) (q (path n q i a)) = false
  | 0, _ => less_irrefl _
  | d + 1, h => le_trans4 (path_le ho ha d (by omega)) (ho (a + d) (by omega) (by omega))

/-- BOTH WAYS END IN ONE ARRAY. c: where the classic way stops; d: where the way up stops; K: the leaf. -/
theorem ways_meet {K c d : Nat} (ho : ∀ m, 1 ≤ m → m < K → less (q (path n q i (m + 1))) (q (path n q i m)) = false)
    (hc : c ≤ K) (hd : d ≤ K)
    (c1 : ∀ m, 1 ≤ m → m ≤ c → less (q (path n q i m)) (q i) = true) (c2 : c < K → less (q (path n q i (c + 1))) (q i) = false)
    (d1 : ∀ m, d < m → m ≤ K → less (q i) (q (path n q i m)) = true) (d2 : 0 < d → less (q i) (q (path n q i d)) = false) :
    laid n q i d = laid n q i c := by
  have hcd : c ≤ d := by
    rcases Nat.lt_or_ge d c with h | h
    · have a := d1 c h hc
      have b := less_asymm (c1 c (by omega) (Nat.le_refl _))
      rw [a] at b; cases b
    · exact h
  obtain ⟨e, rfl⟩ := Nat.le.dest hcd
  refine laid_between e fun m h1 h2 => ?_
  have u1 : less (q (path n q i (c + 1))) (q i) = false := c2 (by omega)
  have u2 : less (q i) (q (path n q i (c + e))) = false := d2 (by omega)
  obtain ⟨x, rfl⟩ := Nat.le.dest (show c + 1 ≤ m by omega)
  obtain ⟨y, hy⟩ := Nat.le.dest h2
  have l1 := path_le ho (a := c + 1) (by omega) x (by omega)
  have l2 := path_le ho (a := c + 1 + x) (by omega) y (by omega)
  rw [hy] at l2
  exact eq_of_le (le_trans4 l2 u2) (le_trans4 u1 l1)

end

/-- j lies in the subtree of i. -/
def inSub : Nat → Nat → Nat → Bool
  | 0, j, i => j == i
  | f + 1, j, i => if i < j then inSub f ((j - 1) / 2) i else j == i

/-- 'inSub' with fuel enough. -/
def below (j i : Nat) : Bool := inSub j j i

theorem inSub_stop {f j i : Nat} (h : j ≤ i) : inSub f j i = (j == i) := by
  cases f with
  | zero => rfl
  | succ f => rw [inSub, if_neg (by omega)]

theorem inSub_fuel {i : Nat} : ∀ (f g j : Nat), j ≤ f → j ≤ g → inSub f j i = inSub g j i
  | 0, g, j, hf, hg => by rw [inSub_stop (by omega), inSub_stop (by omega)]
  | f + 1, 0, j, hf, hg => by rw [inSub_stop (by omega), inSub_stop (by omega)]
  | f + 1, g + 1, j, hf, hg => by
    rw [inSub, inSub]
    split
    · exact inSub_fuel f g _ (by omega) (by omega)
    · rfl

theorem below_step {j i : Nat} (h : i < j) : below j i = below ((j - 1) / 2) i := by
  obtain ⟨k, rfl⟩ : ∃ k, j = k + 1 := ⟨j - 1, by omega⟩
  unfold below
  rw [inSub, if_pos h]
  exact inSub_fuel _ _ _ (by omega) (by omega)

theorem below_stop {j i : Nat} (h : j ≤ i) : below j i = (j == i) := inSub_stop h

theorem below_path {n : Nat} {q : Nat → T4} {i : Nat} : ∀ j, below (path n q i j) i = true
  | 0 => by show below i i = true; rw [below_stop (Nat.le_refl _)]; simp
  | j + 1 => by
    have := path_ge (n := n) (q := q) (i := i) (j + 1)
    rw [below_step (by omega), path_parent]
    exact below_path j

/-- 'zzHB1HeapBelow' says yes. -/
def HeapBelow (n : Nat) (q : Nat → T4) (i : Nat) : Prop := ∀ j, i < j → j < n → (j - 1) / 2 ≠ i → below j i = true → less (q j) (q ((j - 1) / 2)) = false

theorem heap_path {n : Nat} {q : Nat → T4} {i K : Nat} (h : HeapBelow n q i) (hK : path n q i K < n) :
    ∀ m, 1 ≤ m → m < K → less (q (path n q i (m + 1))) (q (path n q i m)) = false := by
  intro m h1 h2
  have hp := path_parent (n := n) (q := q) (i := i) m
  have a := path_ge (n := n) (q := q) (i := i) m
  have b := path_lt_succ (n := n) (q := q) (i := i) m
  have c : path n q i (m + 1) ≤ path n q i K := by
    rcases Nat.lt_or_ge (m + 1) K with h | h
    · exact Nat.le_of_lt (path_mono h)
    · obtain rfl : m + 1 = K := by omega
      exact Nat.le_refl _
  have := h (path n q i (m + 1)) (by omega) (by omega) (by rw [hp]; omega) (below_path _)
  rwa [hp] at this

end Go.Proofs.Qxb6000020a
