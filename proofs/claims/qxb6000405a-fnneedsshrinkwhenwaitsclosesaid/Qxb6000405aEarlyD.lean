/-
  THE WALK of the law 'FnNeedsShrinkWhenWaitsClose' where a length is too great.
-/
import Derived.Test.Qxb6000405aZN
namespace Go.Proofs.Qxb6000405a
open Go.RowKit

set_option maxRecDepth 100000 in
set_option maxHeartbeats 2000000 in
theorem bytes18_any (a0 a1 a2 a3 a4 a5 : Option Addr) (n0 n1 n2 n3 n4 n5 c0 c1 c2 c3 c4 c5 : Nat) (to : Int) (w : World) :
    Calls Try.prog 18 #[.slice a0 n0 c0, .slice a1 n1 c1, .slice a2 n2 c2, .slice a3 n3 c3, .slice a4 n4 c4, .slice a5 n5 c5, .int .i32 to] w (RetSome w) := by
  go_enter Try.func18, Try.ntmps18
  go_wp2
  all_goals
    go_ret
    exact ⟨_, rfl, rfl⟩

set_option maxRecDepth 100000 in
set_option maxHeartbeats 8000000 in
theorem early6_any (a0 a1 a2 a3 a4 a5 : Option Addr) (n0 n1 n2 n3 n4 n5 c0 c1 c2 c3 c4 c5 : Nat) (to : Int) (w : World) (h : 4096 < n0 ∨ 4096 < n1 ∨ 4096 < n2 ∨ 4096 < n3 ∨ 4096 < n4 ∨ 4096 < n5) :
    Calls Try.prog 6 #[.slice a0 n0 c0, .slice a1 n1 c1, .slice a2 n2 c2, .slice a3 n3 c3, .slice a4 n4 c4, .slice a5 n5 c5, .int .i32 to] w (RetTrue w) := by
  by_cases t0 : (1048576 : Int) < (n0 : Int)
  · go_enter Try.func6, Try.ntmps6
    go_wp2_with fail
    refine (bytes18_any _ _ _ _ _ _ _ _ _ _ _ _ _ _ _ _ _ _ _ _).mono ?_
    rintro e w1 ⟨b, rfl, rfl⟩
    cases b
    all_goals
      go_wp2
      go_ret
      exact ⟨rfl, Below.refl _ _⟩
  have d0 : decide ((1048576 : Int) < (n0 : Int)) = false := decide_eq_false t0
  by_cases t1 : (1048576 : Int) < (n1 : Int)
  · go_enter Try.func6, Try.ntmps6
    go_wp2_with fail
    refine (bytes18_any _ _ _ _ _ _ _ _ _ _ _ _ _ _ _ _ _ _ _ _).mono ?_
    rintro e w1 ⟨b, rfl, rfl⟩
    cases b
    all_goals
      go_wp2
      go_ret
      exact ⟨rfl, Below.refl _ _⟩
  have d1 : decide ((1048576 : Int) < (n1 : Int)) = false := decide_eq_false t1
  by_cases t2 : (1048576 : Int) < (n2 : Int)
  · go_enter Try.func6, Try.ntmps6
    go_wp2_with fail
    refine (bytes18_any _ _ _ _ _ _ _ _ _ _ _ _ _ _ _ _ _ _ _ _).mono ?_
    rintro e w1 ⟨b, rfl, rfl⟩
    cases b
    all_goals
      go_wp2
      go_ret
      exact ⟨rfl, Below.refl _ _⟩
  have d2 : decide ((1048576 : Int) < (n2 : Int)) = false := decide_eq_false t2
  by_cases t3 : (1048576 : Int) < (n3 : Int)
  · go_enter Try.func6, Try.ntmps6
    go_wp2_with fail
    refine (bytes18_any _ _ _ _ _ _ _ _ _ _ _ _ _ _ _ _ _ _ _ _).mono ?_
    rintro e w1 ⟨b, rfl, rfl⟩
    cases b
    all_goals
      go_wp2
      go_ret
      exact ⟨rfl, Below.refl _ _⟩
  have d3 : decide ((1048576 : Int) < (n3 : Int)) = false := decide_eq_false t3
  by_cases t4 : (1048576 : Int) < (n4 : Int)
  · go_enter Try.func6, Try.ntmps6
    go_wp2_with fail
    refine (bytes18_any _ _ _ _ _ _ _ _ _ _ _ _ _ _ _ _ _ _ _ _).mono ?_
    rintro e w1 ⟨b, rfl, rfl⟩
    cases b
    all_goals
      go_wp2
      go_ret
      exact ⟨rfl, Below.refl _ _⟩
  have d4 : decide ((1048576 : Int) < (n4 : Int)) = false := decide_eq_false t4
  by_cases t5 : (1048576 : Int) < (n5 : Int)
  · go_enter Try.func6, Try.ntmps6
    go_wp2_with fail
    refine (bytes18_any _ _ _ _ _ _ _ _ _ _ _ _ _ _ _ _ _ _ _ _).mono ?_
    rintro e w1 ⟨b, rfl, rfl⟩
    cases b
    all_goals
      go_wp2
      go_ret
      exact ⟨rfl, Below.refl _ _⟩
  have d5 : decide ((1048576 : Int) < (n5 : Int)) = false := decide_eq_false t5
  by_cases t6 : (1048576 : Int) < 4 * ((n0 : Int) + (n1 : Int) + (n2 : Int) + (n3 : Int) + (n4 : Int)) + (n5 : Int)
  · go_enter Try.func6, Try.ntmps6
    go_wp2_with fail
    refine (bytes18_any _ _ _ _ _ _ _ _ _ _ _ _ _ _ _ _ _ _ _ _).mono ?_
    rintro e w1 ⟨b, rfl, rfl⟩
    cases b
    all_goals
      go_wp2
      go_ret
      exact ⟨rfl, Below.refl _ _⟩
  have d6 : decide ((1048576 : Int) < 4 * ((n0 : Int) + (n1 : Int) + (n2 : Int) + (n3 : Int) + (n4 : Int)) + (n5 : Int)) = false := decide_eq_false t6
  by_cases t7 : (4096 : Int) < (n0 : Int)
  · go_enter Try.func6, Try.ntmps6
    go_wp2_with fail
    refine (bytes18_any _ _ _ _ _ _ _ _ _ _ _ _ _ _ _ _ _ _ _ _).mono ?_
    rintro e w1 ⟨b, rfl, rfl⟩
    cases b
    all_goals
      go_wp2
      go_ret
      exact ⟨rfl, Below.refl _ _⟩
  have d7 : decide ((4096 : Int) < (n0 : Int)) = false := decide_eq_false t7
  by_cases t8 : (4096 : Int) < (n1 : Int)
  · go_enter Try.func6, Try.ntmps6
    go_wp2_with fail
    refine (bytes18_any _ _ _ _ _ _ _ _ _ _ _ _ _ _ _ _ _ _ _ _).mono ?_
    rintro e w1 ⟨b, rfl, rfl⟩
    cases b
    all_goals
      go_wp2
      go_ret
      exact ⟨rfl, Below.refl _ _⟩
  have d8 : decide ((4096 : Int) < (n1 : Int)) = false := decide_eq_false t8
  by_cases t9 : (4096 : Int) < (n2 : Int)
  · go_enter Try.func6, Try.ntmps6
    go_wp2_with fail
    refine (bytes18_any _ _ _ _ _ _ _ _ _ _ _ _ _ _ _ _ _ _ _ _).mono ?_
    rintro e w1 ⟨b, rfl, rfl⟩
    cases b
    all_goals
      go_wp2
      go_ret
      exact ⟨rfl, Below.refl _ _⟩
  have d9 : decide ((4096 : Int) < (n2 : Int)) = false := decide_eq_false t9
  by_cases t10 : (4096 : Int) < (n3 : Int)
  · go_enter Try.func6, Try.ntmps6
    go_wp2_with fail
    refine (bytes18_any _ _ _ _ _ _ _ _ _ _ _ _ _ _ _ _ _ _ _ _).mono ?_
    rintro e w1 ⟨b, rfl, rfl⟩
    cases b
    all_goals
      go_wp2
      go_ret
      exact ⟨rfl, Below.refl _ _⟩
  have d10 : decide ((4096 : Int) < (n3 : Int)) = false := decide_eq_false t10
  by_cases t11 : (4096 : Int) < (n4 : Int)
  · go_enter Try.func6, Try.ntmps6
    go_wp2_with fail
    refine (bytes18_any _ _ _ _ _ _ _ _ _ _ _ _ _ _ _ _ _ _ _ _).mono ?_
    rintro e w1 ⟨b, rfl, rfl⟩
    cases b
    all_goals
      go_wp2
      go_ret
      exact ⟨rfl, Below.refl _ _⟩
  have d11 : decide ((4096 : Int) < (n4 : Int)) = false := decide_eq_false t11
  by_cases t12 : (4096 : Int) < (n5 : Int)
  · go_enter Try.func6, Try.ntmps6
    go_wp2_with fail
    refine (bytes18_any _ _ _ _ _ _ _ _ _ _ _ _ _ _ _ _ _ _ _ _).mono ?_
    rintro e w1 ⟨b, rfl, rfl⟩
    cases b
    all_goals
      go_wp2
      go_ret
      exact ⟨rfl, Below.refl _ _⟩
  have d12 : decide ((4096 : Int) < (n5 : Int)) = false := decide_eq_false t12
  exfalso
  omega

end Go.Proofs.Qxb6000405a
