import Derived.Test.Qxb6000020aProg
import Derived.Test.Qxb6000020aSift
import Derived.WalkKit
namespace Go.Proofs.Qxb6000020a
open Go.RowKit

/-- A turn as a struct's value. -/
def tv (a : T4) : Value := .agg #[.int .i64 a.s, .int .i32 a.n, .int .i64 a.k, .int .i64 a.r]

theorem below_two (w : World) (o p : Obj) : Below w.heap.size w ((w.alloc o).alloc p) :=
  ((Below.refl _ _).alloc (Nat.le_refl _) _).alloc (by simp) _

theorem ret_bool {a b : Bool} (h : a = b) : Ending.returned (.bool a) = .returned (.bool b) := by rw [h]

theorem less_any (a b : T4) (w : World) : Calls Try.prog 35 #[tv a, tv b] w fun e w' => e = .returned (.bool (less a b)) ∧ Below w.heap.size w w' := by
  obtain ⟨a1, a2, a3, a4⟩ := a
  obtain ⟨b1, b2, b3, b4⟩ := b
  unfold tv less
  dsimp only
  by_cases h1 : a1 = b1
  · subst h1
    by_cases h2 : a2 = b2
    · subst h2
      by_cases h3 : a3 = b3
      · subst h3
        go_enter Try.func35, Try.ntmps35
        go_wp2
        go_ret
        exact ⟨ret_bool (by simp), below_two _ _ _⟩
      · have h3' : (a3 != b3) = true := by simpa using h3
        go_enter Try.func35, Try.ntmps35
        go_wp2
        go_ret
        exact ⟨ret_bool (by rw [Bool.eq_iff_iff]; simp; omega), below_two _ _ _⟩
    · have h2' : (a2 != b2) = true := by simpa using h2
      go_enter Try.func35, Try.ntmps35
      go_wp2
      go_ret
      exact ⟨ret_bool (by rw [Bool.eq_iff_iff]; simp; omega), below_two _ _ _⟩
  · have h1' : (a1 != b1) = true := by simpa using h1
    go_enter Try.func35, Try.ntmps35
    go_wp2
    go_ret
    exact ⟨ret_bool (by rw [Bool.eq_iff_iff]; simp; omega), below_two _ _ _⟩
end Go.Proofs.Qxb6000020a
