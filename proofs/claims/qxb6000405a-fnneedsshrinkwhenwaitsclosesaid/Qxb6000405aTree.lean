/-
  THE PLAIN MATHEMATICS of a condition's tree (no Go): parents lie after their children; the count of children; what 'needed' says.
-/
namespace Go.Proofs.Qxb6000405a

/-- Well formed: the root is last; every other node's parent lies after it and in range. -/
def WF (n : Nat) (par : Nat → Int) : Prop := 0 < n → par (n - 1) = -1 ∧ ∀ i, i + 1 < n → (i : Int) < par i ∧ par i < (n : Int)

/-- How many of the first m nodes have the parent a. -/
def cntTo (par : Nat → Int) : Nat → Nat → Nat
  | 0, _ => 0
  | m + 1, a => cntTo par m a + (if par m = (a : Int) then 1 else 0)

theorem cntTo_le (par : Nat → Int) (a : Nat) : ∀ m, cntTo par m a ≤ m
  | 0 => Nat.le_refl _
  | m + 1 => by have := cntTo_le par a m; rw [cntTo]; split <;> omega

theorem WF.range {n : Nat} {par : Nat → Int} (h : WF n par) {i : Nat} (hi : i < n) : par i = -1 ∨ ((i : Int) < par i ∧ par i < (n : Int)) := by
  obtain ⟨h1, h2⟩ := h (by omega)
  by_cases e : i + 1 < n
  · exact .inr (h2 i e)
  · obtain rfl : i = n - 1 := by omega
    exact .inl h1

theorem WF.inner {n : Nat} {par : Nat → Int} (h : WF n par) {i : Nat} (hi : i + 1 < n) : (i : Int) < par i ∧ par i < (n : Int) := (h (by omega)).2 i hi

theorem WF.root {n : Nat} {par : Nat → Int} (h : WF n par) (hn : 0 < n) : par (n - 1) = -1 := (h hn).1

/-- All children of x lie ahead of x. -/
theorem cntTo_all {n : Nat} {par : Nat → Int} (h : WF n par) {x : Nat} : ∀ d, x + d ≤ n → cntTo par (x + d) x = cntTo par x x
  | 0, _ => rfl
  | d + 1, hd => by
    have hne : ¬ par (x + d) = (x : Int) := by
      rcases h.range (show x + d < n by omega) with e | e <;> omega
    rw [← Nat.add_assoc, cntTo, cntTo_all h d (by omega), if_neg hne]
    rfl

/-- What 'needed' answers. -/
def NeedSpec (n : Nat) (par need : Nat → Int) (f : Nat → Bool) : Prop :=
  0 < n → f (n - 1) = true ∧ ∀ i, i + 1 < n → f i = (f (par i).toNat && decide (need (par i).toNat = (cntTo par n (par i).toNat : Int)))

theorem NeedSpec.up {n : Nat} {par need : Nat → Int} {f : Nat → Bool} (h : NeedSpec n par need f) {i : Nat} (hi : i + 1 < n) (hf : f i = true) :
    f (par i).toNat = true ∧ need (par i).toNat = (cntTo par n (par i).toNat : Int) := by
  rw [(h (by omega)).2 i hi, Bool.and_eq_true, decide_eq_true_eq] at hf
  exact hf

/-- Under a root that does not need all its children nothing but the root is needed. -/
theorem NeedSpec.none {n : Nat} {par need : Nat → Int} {f : Nat → Bool} (h : NeedSpec n par need f) (hw : WF n par) (hn : 0 < n) (hne : need (n - 1) ≠ (cntTo par n (n - 1) : Int)) :
    ∀ d i, i + 1 + d = n → 0 < d → f i = false := by
  intro d
  induction d using Nat.strongRecOn with
  | _ d ih =>
    intro i hi hd
    cases hf : f i with
    | false => rfl
    | true =>
      obtain ⟨u1, u2⟩ := h.up (show i + 1 < n by omega) hf
      obtain ⟨r1, r2⟩ := hw.inner (show i + 1 < n by omega)
      by_cases e : (par i).toNat = n - 1
      · rw [e] at u2; exact absurd u2 hne
      · have := ih (n - 1 - (par i).toNat) (by omega) (par i).toNat (by omega) (by omega)
        rw [u1] at this; cases this

/-- The evaluation with node k forced false: i nodes are done. tc: how many true children; r: the root's value. -/
structure EvalAt (n : Nat) (par need : Nat → Int) (f : Nat → Bool) (k i : Nat) (tc : Nat → Nat) (r : Bool) : Prop where
  le : ∀ a, tc a ≤ cntTo par i a
  st : (i ≤ k) ∨ (∃ x, k < i ∧ i ≤ x ∧ x < n ∧ f x = true ∧ need x = (cntTo par n x : Int) ∧ tc x + 1 ≤ cntTo par i x) ∨ (i = n ∧ r = false)

theorem EvalAt.start (n : Nat) (par need : Nat → Int) (f : Nat → Bool) (k : Nat) : EvalAt n par need f k 0 (fun _ => 0) true := ⟨fun _ => Nat.zero_le _, .inl (Nat.zero_le _)⟩

/-- Node i's own value, as the law reckons it. -/
def valOf (n : Nat) (par need : Nat → Int) (bits : Nat → Bool) (k i : Nat) (tc : Nat → Nat) : Bool :=
  if i = k then false else if cntTo par n i = 0 then bits i else decide (need i ≤ (tc i : Int))

section
variable {n : Nat} {par need : Nat → Int} {f : Nat → Bool} {k i : Nat} {tc : Nat → Nat} {r : Bool} {bits : Nat → Bool}

/-- The node that stands for the chain: its value is false. -/
theorem EvalAt.val_false (h : EvalAt n par need f k i tc r) (hw : WF n par) (hi : i < n) (hx : i = k ∨ ∃ x, k < i ∧ i = x ∧ need x = (cntTo par n x : Int) ∧ tc x + 1 ≤ cntTo par i x) : valOf n par need bits k i tc = false := by
  unfold valOf
  rcases hx with rfl | ⟨x, h1, rfl, h3, h4⟩
  · rw [if_pos rfl]
  · rw [if_neg (by omega)]
    have hc := cntTo_all hw (x := i) (n - i) (by omega)
    rw [show i + (n - i) = n from by omega] at hc
    rw [if_neg (by omega)]
    exact decide_eq_false (by omega)

theorem cnt_step (a : Nat) : cntTo par (i + 1) a = cntTo par i a + (if par i = (a : Int) then 1 else 0) := rfl

/-- A node below the root, v its value. -/
theorem EvalAt.inner (h : EvalAt n par need f k i tc r) (hs : NeedSpec n par need f) (hw : WF n par) (hk : f k = true) (hi : i + 1 < n) :
    (valOf n par need bits k i tc = true → EvalAt n par need f k (i + 1) (fun a => if a = (par i).toNat then tc a + 1 else tc a) r) ∧
    (valOf n par need bits k i tc = false → EvalAt n par need f k (i + 1) tc r) := by
  obtain ⟨r1, r2⟩ := hw.inner hi
  have hp : par i = ((par i).toNat : Int) := by omega
  constructor
  · intro hv
    refine ⟨fun a => ?_, ?_⟩
    · have := h.le a
      rw [cnt_step]
      by_cases e : a = (par i).toNat
      · subst e
        rw [if_pos hp, if_pos rfl]; omega
      · rw [if_neg e]; omega
    · rcases h.st with s | ⟨x, s1, s2, s3, s4, s5, s6⟩ | ⟨s, _⟩
      · by_cases e : i = k
        · rw [h.val_false hw (by omega) (.inl e)] at hv; cases hv
        · exact .inl (by omega)
      · by_cases e : i = x
        · rw [h.val_false hw (by omega) (.inr ⟨x, s1, e, s5, s6⟩)] at hv; cases hv
        · refine .inr (.inl ⟨x, by omega, by omega, s3, s4, s5, ?_⟩)
          rw [cnt_step]
          by_cases e' : x = (par i).toNat
          · subst e'
            rw [if_pos hp, if_pos rfl]; omega
          · rw [if_neg e']; omega
      · omega
  · intro hv
    refine ⟨fun a => ?_, ?_⟩
    · have := h.le a
      rw [cnt_step]; omega
    · have up : ∀ x, f x = true → x = i → ∃ y, k < i + 1 → (i + 1 ≤ y ∧ y < n ∧ f y = true ∧ need y = (cntTo par n y : Int) ∧ tc y + 1 ≤ cntTo par (i + 1) y) := by
        intro x hx e
        subst e
        obtain ⟨u1, u2⟩ := hs.up hi hx
        refine ⟨(par x).toNat, fun _ => ⟨by omega, by omega, u1, u2, ?_⟩⟩
        have := h.le (par x).toNat
        rw [cnt_step, if_pos hp]; omega
      rcases h.st with s | ⟨x, s1, s2, s3, s4, s5, s6⟩ | ⟨s, _⟩
      · by_cases e : i = k
        · obtain ⟨y, hy⟩ := up k hk e.symm
          obtain ⟨a, b, c, d, e'⟩ := hy (by omega)
          exact .inr (.inl ⟨y, by omega, a, b, c, d, e'⟩)
        · exact .inl (by omega)
      · by_cases e : i = x
        · obtain ⟨y, hy⟩ := up x s4 e.symm
          obtain ⟨a, b, c, d, e'⟩ := hy (by omega)
          exact .inr (.inl ⟨y, by omega, a, b, c, d, e'⟩)
        · refine .inr (.inl ⟨x, by omega, by omega, s3, s4, s5, ?_⟩)
          rw [cnt_step]; omega
      · omega

/-- The root. -/
theorem EvalAt.root (h : EvalAt n par need f k i tc r) (hw : WF n par) (hkn : k < n) (hi : i + 1 = n) : valOf n par need bits k i tc = false := by
  refine h.val_false hw (by omega) ?_
  rcases h.st with s | ⟨x, s1, s2, s3, s4, s5, s6⟩ | ⟨s, _⟩
  · exact .inl (by omega)
  · exact .inr ⟨x, s1, by omega, s5, s6⟩
  · omega
end

end Go.Proofs.Qxb6000405a
