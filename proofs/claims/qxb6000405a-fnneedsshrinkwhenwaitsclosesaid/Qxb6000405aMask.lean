/-
  THE PLAIN MATHEMATICS of 'needs' (no Go): masks of 32 bits gathered over the leaves.
-/
import Derived.Test.Qxb6000405aTree
namespace Go.Proofs.Qxb6000405a

/-- A leaf that counts: it names a process over an open wait, and the process has a place. -/
def hit (p nn mem : Nat → Int) (i : Nat) : Bool := decide (0 ≤ p i) && decide (nn i = 1) && decide (0 ≤ mem (p i).toNat)

/-- What has been gathered over the first k leaves: the processes named, those needed, flat. -/
structure St where
  nm : Nat
  nd : Nat
  fl : Bool

def bitOf (p mem : Nat → Int) (i : Nat) : Nat := 2 ^ (mem (p i).toNat).toNat

def step (p nn mem : Nat → Int) (must : Nat → Bool) (i : Nat) (s : St) : St :=
  if hit p nn mem i = true then ⟨s.nm ||| bitOf p mem i, if must i = true then s.nd ||| bitOf p mem i else s.nd, if s.nm &&& bitOf p mem i = 0 then s.fl else false⟩ else s

def st (p nn mem : Nat → Int) (must : Nat → Bool) (fl0 : Bool) : Nat → St
  | 0 => ⟨0, 0, fl0⟩
  | k + 1 => step p nn mem must k (st p nn mem must fl0 k)

/-- How many of the first k nodes are no leaves. -/
def inner (p : Nat → Int) : Nat → Nat
  | 0 => 0
  | k + 1 => inner p k + (if p k < 0 then 1 else 0)

theorem inner_le (p : Nat → Int) : ∀ k, inner p k ≤ k
  | 0 => Nat.le_refl _
  | k + 1 => by have := inner_le p k; rw [inner]; split <;> omega

/-- Every place fits the mask. -/
def Fits (n : Nat) (p mem : Nat → Int) : Prop := ∀ i, i < n → 0 ≤ p i → mem (p i).toNat < 32

theorem bit_lt {n : Nat} {p nn mem : Nat → Int} (h : Fits n p mem) {i : Nat} (hi : i < n) (hh : hit p nn mem i = true) : bitOf p mem i < 4294967296 := by
  simp only [hit, Bool.and_eq_true, decide_eq_true_eq] at hh
  have := h i hi hh.1.1
  show 2 ^ (mem (p i).toNat).toNat < 2 ^ 32
  exact Nat.pow_lt_pow_right (by decide) (by omega)

theorem st_lt {n : Nat} {p nn mem : Nat → Int} {must : Nat → Bool} {fl0 : Bool} (h : Fits n p mem) : ∀ k, k ≤ n → (st p nn mem must fl0 k).nm < 4294967296 ∧ (st p nn mem must fl0 k).nd < 4294967296
  | 0, _ => by simp [st]
  | k + 1, hk => by
    have ih := st_lt (nn := nn) (must := must) (fl0 := fl0) h k (by omega)
    rw [st, step]
    split
    · rename_i hh
      have hb := bit_lt h (show k < n by omega) hh
      refine ⟨Nat.or_lt_two_pow (n := 32) ih.1 hb, ?_⟩
      show (if must k = true then _ else _) < _
      split
      · exact Nat.or_lt_two_pow (n := 32) ih.2 hb
      · exact ih.2
    · exact ih

/-- Where no leaf is needed nothing is gathered. -/
theorem st_none {n : Nat} {p nn mem : Nat → Int} {must : Nat → Bool} {fl0 : Bool} (h : ∀ i, i < n → 0 ≤ p i → must i = false) : ∀ k, k ≤ n → (st p nn mem must fl0 k).nd = 0
  | 0, _ => rfl
  | k + 1, hk => by
    have ih := st_none (nn := nn) (mem := mem) (fl0 := fl0) h k (by omega)
    rw [st, step]
    split
    · rename_i hh
      simp only [hit, Bool.and_eq_true, decide_eq_true_eq] at hh
      show (if must k = true then _ else _) = _
      rw [h k (by omega) hh.1.1]
      simpa using ih
    · exact ih

/-- The answers of 'needed' hang on the tree alone. -/
theorem need_unique {n : Nat} {par need : Nat → Int} {f g : Nat → Bool} (hw : WF n par) (hf : NeedSpec n par need f) (hg : NeedSpec n par need g) : ∀ d i, i + 1 + d = n → f i = g i := by
  intro d
  induction d using Nat.strongRecOn with
  | _ d ih =>
    intro i hi
    by_cases e : d = 0
    · obtain rfl : i = n - 1 := by omega
      rw [(hf (by omega)).1, (hg (by omega)).1]
    · obtain ⟨r1, r2⟩ := hw.inner (show i + 1 < n by omega)
      rw [(hf (by omega)).2 i (by omega), (hg (by omega)).2 i (by omega), ih (n - 1 - (par i).toNat) (by omega) (par i).toNat (by omega)]

/-- a's bits are among b's. -/
def Sub (a b : Nat) : Prop := ∀ j, a.testBit j = true → b.testBit j = true

theorem Sub.or {a b : Nat} (h : Sub a b) (c : Nat) : Sub (a ||| c) (b ||| c) := by
  intro j hj
  rw [Nat.testBit_or, Bool.or_eq_true] at *
  rcases hj with h' | h'
  · exact .inl (h j h')
  · exact .inr h'
theorem Sub.or_right {a b : Nat} (h : Sub a b) (c : Nat) : Sub a (b ||| c) := by
  intro j hj
  rw [Nat.testBit_or, Bool.or_eq_true]
  exact .inl (h j hj)
theorem Sub.and_zero {a b c : Nat} (h : Sub a b) (hc : b &&& c = 0) : a &&& c = 0 := by
  apply Nat.eq_of_testBit_eq
  intro j
  have e := congrArg (Nat.testBit · j) hc
  simp only [Nat.testBit_and, Nat.zero_testBit] at e
  rw [Nat.testBit_and, Nat.zero_testBit]
  cases ha : a.testBit j
  · rfl
  · rw [h j ha] at e; simpa using e

/-- Fewer open waits gather fewer processes; and a flat condition stays flat. -/
theorem st_shrinks {n : Nat} {p nn n2 mem : Nat → Int} {f g : Nat → Bool} {fl0 : Bool} (hfg : ∀ i, i < n → f i = g i) (hsub : ∀ i, i < n → n2 i = 1 → nn i = 1) :
    ∀ k, k ≤ n → Sub (st p n2 mem g fl0 k).nm (st p nn mem f fl0 k).nm ∧ Sub (st p n2 mem g fl0 k).nd (st p nn mem f fl0 k).nd ∧ ((st p nn mem f fl0 k).fl = true → (st p n2 mem g fl0 k).fl = true)
  | 0, _ => ⟨fun _ h => h, fun _ h => h, fun h => h⟩
  | k + 1, hk => by
    obtain ⟨i1, i2, i3⟩ := st_shrinks (p := p) (mem := mem) (fl0 := fl0) hfg hsub k (by omega)
    rw [st, st, step, step]
    by_cases h2 : hit p n2 mem k = true
    · have h1 : hit p nn mem k = true := by
        simp only [hit, Bool.and_eq_true, decide_eq_true_eq] at *
        exact ⟨⟨h2.1.1, hsub k (by omega) h2.1.2⟩, h2.2⟩
      rw [if_pos h1, if_pos h2]
      refine ⟨i1.or _, ?_, ?_⟩
      · show Sub (if g k = true then _ else _) (if f k = true then _ else _)
        rw [hfg k (by omega)]
        split
        · exact i2.or _
        · exact i2
      · show (if _ then _ else _) = true → (if _ then _ else _) = true
        intro hfl
        by_cases hz : (st p nn mem f fl0 k).nm &&& bitOf p mem k = 0
        · rw [if_pos hz] at hfl
          rw [if_pos (i1.and_zero hz)]
          exact i3 hfl
        · rw [if_neg hz] at hfl; cases hfl
    · rw [if_neg h2]
      by_cases h1 : hit p nn mem k = true
      · rw [if_pos h1]
        refine ⟨i1.or_right _, ?_, ?_⟩
        · show Sub _ (if f k = true then _ else _)
          split
          · exact i2.or_right _
          · exact i2
        · show (if _ then _ else _) = true → _
          intro hfl
          by_cases hz : (st p nn mem f fl0 k).nm &&& bitOf p mem k = 0
          · rw [if_pos hz] at hfl; exact i3 hfl
          · rw [if_neg hz] at hfl; cases hfl
      · rw [if_neg h1]; exact ⟨i1, i2, i3⟩

theorem andNot_zero {a b : Nat} (h : Sub a b) (hb : b < 4294967296) : a &&& (4294967295 - b) = 0 := by
  apply Nat.eq_of_testBit_eq
  intro j
  rw [Nat.testBit_and, Nat.zero_testBit]
  cases ha : a.testBit j
  · rfl
  · have e : (4294967295 - b).testBit j = (decide (j < 32) && !b.testBit j) := by
      have := Nat.testBit_two_pow_sub_succ (n := 32) (x := b) hb j
      rwa [show 2 ^ 32 - (b + 1) = 4294967295 - b from by omega] at this
    rw [e, h j ha]; simp

end Go.Proofs.Qxb6000405a
