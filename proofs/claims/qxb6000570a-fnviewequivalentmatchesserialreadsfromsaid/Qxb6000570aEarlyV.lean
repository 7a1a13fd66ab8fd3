/-
  THE WALK of the law 'FnViewEquivalentMatchesSerialReadsFrom', where a length is too great.
-/
import Derived.Test.Qxb6000570aBytes
namespace Go.Proofs.Qxb6000570a
open Go.RowKit


set_option maxRecDepth 100000 in
set_option maxHeartbeats 16000000 in
theorem earlyV_any (a1 a2 a3 a4 a5 : Option Addr) (m n2 n3 T N c1 c2 c3 c4 c5 : Nat) (nI : Int) (A : Nat → Option Addr) (L C : Nat → Nat) (w : World) (h4 : Reads w a4 T (fun u => .slice (A u) (L u) (C u)))
    (h : 65536 < m ∨ 65536 < n2 ∨ 65536 < n3 ∨ 65536 < T ∨ 4096 < N ∨ nI < 0 ∨ 16384 < nI) :
    Calls Try.prog 9 #[.int .i64 nI, .slice a1 m c1, .slice a2 n2 c2, .slice a3 n3 c3, .slice a4 T c4, .slice a5 N c5] w (RetTrue w) := by
  by_cases t0 : (65536 : Int) < (m : Int)
  · go_enter Try.func9, Try.ntmps9
    go_wp2_with fail
    refine (bytes34_any a1 a2 a3 a4 a5 m n2 n3 T N c1 c2 c3 c4 c5 nI A L C w h4).mono ?_
    rintro e w1 ⟨b, rfl, rfl⟩
    cases b
    all_goals
      go_wp2
      go_ret
      exact ⟨rfl, Below.refl _ _⟩
  have d0 : decide ((65536 : Int) < (m : Int)) = false := decide_eq_false t0
  by_cases t1 : (65536 : Int) < (n2 : Int)
  · go_enter Try.func9, Try.ntmps9
    go_wp2_with fail
    refine (bytes34_any a1 a2 a3 a4 a5 m n2 n3 T N c1 c2 c3 c4 c5 nI A L C w h4).mono ?_
    rintro e w1 ⟨b, rfl, rfl⟩
    cases b
    all_goals
      go_wp2
      go_ret
      exact ⟨rfl, Below.refl _ _⟩
  have d1 : decide ((65536 : Int) < (n2 : Int)) = false := decide_eq_false t1
  by_cases t2 : (65536 : Int) < (n3 : Int)
  · go_enter Try.func9, Try.ntmps9
    go_wp2_with fail
    refine (bytes34_any a1 a2 a3 a4 a5 m n2 n3 T N c1 c2 c3 c4 c5 nI A L C w h4).mono ?_
    rintro e w1 ⟨b, rfl, rfl⟩
    cases b
    all_goals
      go_wp2
      go_ret
      exact ⟨rfl, Below.refl _ _⟩
  have d2 : decide ((65536 : Int) < (n3 : Int)) = false := decide_eq_false t2
  by_cases t3 : (65536 : Int) < (T : Int)
  · go_enter Try.func9, Try.ntmps9
    go_wp2_with fail
    refine (bytes34_any a1 a2 a3 a4 a5 m n2 n3 T N c1 c2 c3 c4 c5 nI A L C w h4).mono ?_
    rintro e w1 ⟨b, rfl, rfl⟩
    cases b
    all_goals
      go_wp2
      go_ret
      exact ⟨rfl, Below.refl _ _⟩
  have d3 : decide ((65536 : Int) < (T : Int)) = false := decide_eq_false t3
  by_cases t4 : (4096 : Int) < (N : Int)
  · go_enter Try.func9, Try.ntmps9
    go_wp2_with fail
    refine (bytes34_any a1 a2 a3 a4 a5 m n2 n3 T N c1 c2 c3 c4 c5 nI A L C w h4).mono ?_
    rintro e w1 ⟨b, rfl, rfl⟩
    cases b
    all_goals
      go_wp2
      go_ret
      exact ⟨rfl, Below.refl _ _⟩
  have d4 : decide ((4096 : Int) < (N : Int)) = false := decide_eq_false t4
  by_cases t5 : nI < 0
  · go_enter Try.func9, Try.ntmps9
    go_wp2_with fail
    refine (bytes34_any a1 a2 a3 a4 a5 m n2 n3 T N c1 c2 c3 c4 c5 nI A L C w h4).mono ?_
    rintro e w1 ⟨b, rfl, rfl⟩
    cases b
    all_goals
      go_wp2
      go_ret
      exact ⟨rfl, Below.refl _ _⟩
  have d5 : decide (nI < 0) = false := decide_eq_false t5
  by_cases t6 : 16384 < nI
  · go_enter Try.func9, Try.ntmps9
    go_wp2_with fail
    refine (bytes34_any a1 a2 a3 a4 a5 m n2 n3 T N c1 c2 c3 c4 c5 nI A L C w h4).mono ?_
    rintro e w1 ⟨b, rfl, rfl⟩
    cases b
    all_goals
      go_wp2
      go_ret
      exact ⟨rfl, Below.refl _ _⟩
  have d6 : decide (16384 < nI) = false := decide_eq_false t6
  exfalso
  omega

end Go.Proofs.Qxb6000570a
