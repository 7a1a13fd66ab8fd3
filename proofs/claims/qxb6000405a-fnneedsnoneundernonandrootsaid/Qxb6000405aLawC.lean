/-
  THE WALK of the law 'FnNeedsNoneUnderNonAndRoot', behind its tests on lengths.
-/
import Derived.Test.Qxb6000405aEarlyC
namespace Go.Proofs.Qxb6000405a
open Go.RowKit

set_option maxRecDepth 100000 in
set_option maxHeartbeats 16000000 in
theorem lateC_any (a0 a1 a2 a3 a4 : Option Addr) (n0 n1 n2 n3 n4 c0 c1 c2 c3 c4 : Nat) (z0 z1 z2 z3 z4 : Nat → Int) (w : World) (l0 : n0 ≤ 4096) (l1 : n1 ≤ 4096) (l2 : n2 ≤ 4096) (l3 : n3 ≤ 4096) (l4 : n4 ≤ 4096)
    (p0 : a0 = none → n0 = 0 ∧ c0 = 0) (p1 : a1 = none → n1 = 0 ∧ c1 = 0) (p2 : a2 = none → n2 = 0 ∧ c2 = 0) (p3 : a3 = none → n3 = 0 ∧ c3 = 0) (p4 : a4 = none → n4 = 0 ∧ c4 = 0)
    (h0 : Reads w a0 n0 (fun i => .int .i32 (z0 i))) (h1 : Reads w a1 n1 (fun i => .int .i32 (z1 i))) (h2 : Reads w a2 n2 (fun i => .int .i32 (z2 i))) (h3 : Reads w a3 n3 (fun i => .int .i32 (z3 i))) (h4 : Reads w a4 n4 (fun i => .int .i32 (z4 i)))
    (i0 : I32 z0) (i2 : I32 z2) :
    Calls Try.prog 5 #[.slice a0 n0 c0, .slice a1 n1 c1, .slice a2 n2 c2, .slice a3 n3 c3, .slice a4 n4 c4] w (RetTrue w) := by
  have d0 : decide ((1048576 : Int) < (n0 : Int)) = false := decide_eq_false (by omega)
  have d1 : decide ((1048576 : Int) < (n1 : Int)) = false := decide_eq_false (by omega)
  have d2 : decide ((1048576 : Int) < (n2 : Int)) = false := decide_eq_false (by omega)
  have d3 : decide ((1048576 : Int) < (n3 : Int)) = false := decide_eq_false (by omega)
  have d4 : decide ((1048576 : Int) < (n4 : Int)) = false := decide_eq_false (by omega)
  have d5 : decide ((1048576 : Int) < 4 * ((n0 : Int) + (n1 : Int) + (n2 : Int) + (n3 : Int) + (n4 : Int))) = false := decide_eq_false (by omega)
  have d6 : decide ((4096 : Int) < (n0 : Int)) = false := decide_eq_false (by omega)
  have d7 : decide ((4096 : Int) < (n1 : Int)) = false := decide_eq_false (by omega)
  have d8 : decide ((4096 : Int) < (n2 : Int)) = false := decide_eq_false (by omega)
  have d9 : decide ((4096 : Int) < (n3 : Int)) = false := decide_eq_false (by omega)
  have d10 : decide ((4096 : Int) < (n4 : Int)) = false := decide_eq_false (by omega)
  go_enter Try.func5, Try.ntmps5
  go_wp2_with fail
  refine (bytes15_any _ _ _ _ _ _ _ _ _ _ _ _ _ _ _ _).mono ?_
  rintro e w1 ⟨b, rfl, rfl⟩
  cases b
  · go_wp2
    go_ret
    exact ⟨rfl, Below.refl _ _⟩
  go_wp2_with fail
  refine (input_any a0 a1 a2 a3 a4 n0 n1 n2 n3 n4 c0 c1 c2 c3 c4 z0 z2 z4 w l0 l4 h0 h2 h4 i0 i2).mono ?_
  rintro e w1 ⟨b, rfl, rfl, hok⟩
  cases b
  · go_wp2
    go_ret
    exact ⟨rfl, Below.refl _ _⟩
  obtain ⟨rfl, rfl, rfl, hW, hM, hP⟩ := hok rfl
  clear hok d0 d1 d2 d3 d4 d5 d6 d7 d8 d9 d10 i2 i0
  by_cases hz : n3 = 0
  · subst hz
    go_wp2
    go_ret
    exact ⟨rfl, Below.refl _ _⟩
  have hz' : ((n3 : Int) == 0) = false := by rw [beq_eq_false_iff_ne]; omega
  obtain ⟨b0, o0, q0, v0⟩ := h0
  obtain ⟨e0, s0⟩ := q0 (by omega)
  have cr : w.cell? ⟨b0, o0 + (n3 - 1), none⟩ = some (.int .i32 (z0 (n3 - 1))) := v0 (n3 - 1) (by omega)
  have h0 : Reads w a0 n3 (fun i => .int .i32 (z0 i)) := ⟨b0, o0, q0, v0⟩
  subst e0
  by_cases hr : 0 ≤ z0 (n3 - 1)
  · clear v0 q0
    go_wp2
    go_ret
    exact ⟨rfl, Below.refl _ _⟩
  have hrd : decide (0 ≤ z0 (n3 - 1)) = false := decide_eq_false hr
  clear v0 q0
  go_wp2_with fail
  refine (counts_any a2 n3 c2 z2 w l0 h2 hW).mono ?_
  rintro e w1 ⟨x5, e5, rfl, b1, r5⟩
  clear cr
  obtain ⟨g1, o1, q1, v1⟩ := h1.below b1
  obtain ⟨g5, o5, q5, v5⟩ := r5
  obtain ⟨e1, s1⟩ := q1 (by omega)
  obtain ⟨rfl, s5⟩ := q5 (by omega)
  have u1 : w1.cell? ⟨g1, o1 + (n3 - 1), none⟩ = some (.int .i32 (z1 (n3 - 1))) := v1 (n3 - 1) (by omega)
  have u5 : w1.cell? ⟨g5, o5 + (n3 - 1), none⟩ = some (.int .i32 (cntTo z2 n3 (n3 - 1))) := v5 (n3 - 1) (by omega)
  subst e1
  clear q1 v1 q5 v5
  have hnz : (n3 : Int) - 1 < (n3 : Int) := by omega
  have hnz0 : 0 ≤ (n3 : Int) - 1 := by omega
  by_cases hE : z1 (n3 - 1) = (cntTo z2 n3 (n3 - 1) : Int)
  · have hE' : (z1 (n3 - 1) == (cntTo z2 n3 (n3 - 1) : Int)) = true := beq_iff_eq.2 hE
    clear hE
    go_wp2
    go_quiet (fail)
    go_wp2
    go_ret
    exact ⟨rfl, b1.trans ((below_drewN' _ _).mono b1.size)⟩
  have hE' : (z1 (n3 - 1) == (cntTo z2 n3 (n3 - 1) : Int)) = false := beq_eq_false_iff_ne.2 hE
  go_wp2
  go_quiet (fail)
  have b2 := b1.trans ((below_drewN' w1 nq).mono b1.size)
  clear u1 u5 b1
  generalize w1.drewN nq = w2 at *
  go_wp2_with fail
  refine (clone10_any _ _ c0 z0 w2 l0 (h0.below b2) p0).mono ?_
  rintro e w3 ⟨x0, f0, rfl, b3, r0⟩
  have B3 := b2.trans (b3.mono b2.size)
  go_wp2_with fail
  refine (clone10_any _ _ c1 z1 w3 l0 (h1.below B3) p1).mono ?_
  rintro e w4 ⟨x1, f1, rfl, b4, r1⟩
  have B4 := B3.trans (b4.mono B3.size)
  go_wp2_with fail
  refine (clone10_any _ _ c2 z2 w4 l0 (h2.below B4) p2).mono ?_
  rintro e w5 ⟨x2, f2, rfl, b5, r2⟩
  have B5 := B4.trans (b5.mono B4.size)
  go_wp2_with fail
  refine (clone10_any _ _ c3 z3 w5 l0 (h3.below B5) p3).mono ?_
  rintro e w6 ⟨x3, f3, rfl, b6, r3⟩
  have B6 := B5.trans (b6.mono B5.size)
  go_wp2_with fail
  refine (clone10_any _ _ c4 z4 w6 l4 (h4.below B6) p4).mono ?_
  rintro e w7 ⟨x4, f4, rfl, b7, r4⟩
  have B7 := B6.trans (b7.mono B6.size)
  replace r0 := (((r0.below b4).below b5).below b6).below b7
  replace r1 := ((r1.below b5).below b6).below b7
  replace r2 := (r2.below b6).below b7
  replace r3 := r3.below b7
  clear b2 b3 b4 b5 b6 b7 B3 B4 B5 B6 h0 h1 h2 h3 h4
  go_wp2_with fail
  refine (zzneeds_any x0 x1 x2 x3 x4 n3 n4 f0 f1 f2 f3 f4 z0 z1 z2 z3 z4 w7 l0 r0 r1 r2 r3 r4 hW hP hM).mono ?_
  rintro e w8 ⟨f, hf, rfl, b8⟩
  have hnone : (st (fun i => (mk3 z0 z1 z2 i).p) z3 z4 f (decide (inner (fun i => (mk3 z0 z1 z2 i).p) n3 ≤ 1)) n3).nd = 0 := by
    refine st_none (n := n3) (fun i hi hp => ?_) n3 (Nat.le_refl _)
    have hne : i ≠ n3 - 1 := fun e => by subst e; exact absurd hp (Int.not_le.mpr hr)
    exact hf.none hW (by omega) hE (n3 - 1 - i) i (by omega) (by omega)
  rw [hnone]
  clear hnone hf
  go_wp2
  go_ret
  exact ⟨rfl, B7.trans (b8.mono B7.size)⟩

end Go.Proofs.Qxb6000405a
