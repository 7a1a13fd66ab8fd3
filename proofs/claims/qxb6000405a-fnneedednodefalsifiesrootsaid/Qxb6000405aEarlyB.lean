/-
  THE WALK of the law 'FnNeededNodeFalsifiesRoot' where a length is too great.
-/
import Derived.Test.Qxb6000405aNeeded
namespace Go.Proofs.Qxb6000405a
open Go.RowKit

set_option maxHeartbeats 2000000 in
theorem bytes13_any (a0 a1 a2 a3 : Option Addr) (n0 n1 n2 n3 c0 c1 c2 c3 : Nat) (i : Int) (w : World) :
    Calls Try.prog 13 #[.slice a0 n0 c0, .slice a1 n1 c1, .slice a2 n2 c2, .slice a3 n3 c3, .int .i64 i] w (RetSome w) := by
  go_enter Try.func13, Try.ntmps13
  go_wp2
  all_goals
    go_ret
    exact ⟨_, rfl, rfl⟩

set_option maxHeartbeats 8000000 in
theorem early4_any (a0 a1 a2 a3 : Option Addr) (n0 n1 n2 n3 c0 c1 c2 c3 : Nat) (i : Int) (w : World) (h : 4096 < n0 ∨ 4096 < n1 ∨ 4096 < n2 ∨ 4096 < n3) :
    Calls Try.prog 4 #[.slice a0 n0 c0, .slice a1 n1 c1, .slice a2 n2 c2, .slice a3 n3 c3, .int .i64 i] w (RetTrue w) := by
  by_cases t0 : (1048576 : Int) < (n0 : Int)
  · go_enter Try.func4, Try.ntmps4
    go_wp2_with fail
    refine (bytes13_any _ _ _ _ _ _ _ _ _ _ _ _ _ _).mono ?_
    rintro e w1 ⟨b, rfl, rfl⟩
    cases b
    all_goals
      go_wp2
      go_ret
      exact ⟨rfl, Below.refl _ _⟩
  have d0 : decide ((1048576 : Int) < (n0 : Int)) = false := decide_eq_false t0
  by_cases t1 : (1048576 : Int) < (n1 : Int)
  · go_enter Try.func4, Try.ntmps4
    go_wp2_with fail
    refine (bytes13_any _ _ _ _ _ _ _ _ _ _ _ _ _ _).mono ?_
    rintro e w1 ⟨b, rfl, rfl⟩
    cases b
    all_goals
      go_wp2
      go_ret
      exact ⟨rfl, Below.refl _ _⟩
  have d1 : decide ((1048576 : Int) < (n1 : Int)) = false := decide_eq_false t1
  by_cases t2 : (1048576 : Int) < (n2 : Int)
  · go_enter Try.func4, Try.ntmps4
    go_wp2_with fail
    refine (bytes13_any _ _ _ _ _ _ _ _ _ _ _ _ _ _).mono ?_
    rintro e w1 ⟨b, rfl, rfl⟩
    cases b
    all_goals
      go_wp2
      go_ret
      exact ⟨rfl, Below.refl _ _⟩
  have d2 : decide ((1048576 : Int) < (n2 : Int)) = false := decide_eq_false t2
  by_cases t3 : (1048576 : Int) < (n3 : Int)
  · go_enter Try.func4, Try.ntmps4
    go_wp2_with fail
    refine (bytes13_any _ _ _ _ _ _ _ _ _ _ _ _ _ _).mono ?_
    rintro e w1 ⟨b, rfl, rfl⟩
    cases b
    all_goals
      go_wp2
      go_ret
      exact ⟨rfl, Below.refl _ _⟩
  have d3 : decide ((1048576 : Int) < (n3 : Int)) = false := decide_eq_false t3
  by_cases t4 : (1048576 : Int) < 4 * ((n0 : Int) + (n1 : Int) + (n2 : Int)) + (n3 : Int)
  · go_enter Try.func4, Try.ntmps4
    go_wp2_with fail
    refine (bytes13_any _ _ _ _ _ _ _ _ _ _ _ _ _ _).mono ?_
    rintro e w1 ⟨b, rfl, rfl⟩
    cases b
    all_goals
      go_wp2
      go_ret
      exact ⟨rfl, Below.refl _ _⟩
  have d4 : decide ((1048576 : Int) < 4 * ((n0 : Int) + (n1 : Int) + (n2 : Int)) + (n3 : Int)) = false := decide_eq_false t4
  by_cases t5 : (4096 : Int) < (n0 : Int)
  · go_enter Try.func4, Try.ntmps4
    go_wp2_with fail
    refine (bytes13_any _ _ _ _ _ _ _ _ _ _ _ _ _ _).mono ?_
    rintro e w1 ⟨b, rfl, rfl⟩
    cases b
    all_goals
      go_wp2
      go_ret
      exact ⟨rfl, Below.refl _ _⟩
  have d5 : decide ((4096 : Int) < (n0 : Int)) = false := decide_eq_false t5
  by_cases t6 : (4096 : Int) < (n1 : Int)
  · go_enter Try.func4, Try.ntmps4
    go_wp2_with fail
    refine (bytes13_any _ _ _ _ _ _ _ _ _ _ _ _ _ _).mono ?_
    rintro e w1 ⟨b, rfl, rfl⟩
    cases b
    all_goals
      go_wp2
      go_ret
      exact ⟨rfl, Below.refl _ _⟩
  have d6 : decide ((4096 : Int) < (n1 : Int)) = false := decide_eq_false t6
  by_cases t7 : (4096 : Int) < (n2 : Int)
  · go_enter Try.func4, Try.ntmps4
    go_wp2_with fail
    refine (bytes13_any _ _ _ _ _ _ _ _ _ _ _ _ _ _).mono ?_
    rintro e w1 ⟨b, rfl, rfl⟩
    cases b
    all_goals
      go_wp2
      go_ret
      exact ⟨rfl, Below.refl _ _⟩
  have d7 : decide ((4096 : Int) < (n2 : Int)) = false := decide_eq_false t7
  by_cases t8 : (4096 : Int) < (n3 : Int)
  · go_enter Try.func4, Try.ntmps4
    go_wp2_with fail
    refine (bytes13_any _ _ _ _ _ _ _ _ _ _ _ _ _ _).mono ?_
    rintro e w1 ⟨b, rfl, rfl⟩
    cases b
    all_goals
      go_wp2
      go_ret
      exact ⟨rfl, Below.refl _ _⟩
  have d8 : decide ((4096 : Int) < (n3 : Int)) = false := decide_eq_false t8
  exfalso
  omega

end Go.Proofs.Qxb6000405a
