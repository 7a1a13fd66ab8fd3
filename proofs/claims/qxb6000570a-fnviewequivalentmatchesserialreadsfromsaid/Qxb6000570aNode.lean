/-
  THE WALKS of 'nodeWritesItem' and 'orderLoad'.
-/
import Derived.Test.Qxb6000570aClone
import Derived.Test.Qxb6000570aView
namespace Go.Proofs.Qxb6000570a
open Go.RowKit

theorem ret_bool' {a b : Bool} (h : a = b) : Ending.returned (.bool a) = .returned (.bool b) := by rw [h]

set_option maxHeartbeats 4000000 in
theorem node_any (g : G) (u x m : Nat) (a0 a1 a2 : Option Addr) (c0 c1 c2 : Nat) (w : World) (hl : g.L u ≤ 1048576)
    (h0 : Reads w a0 (g.L u) (fun i => .int .i64 (g.R u i))) (h1 : Reads w a1 m (fun i => .int .i64 (g.it i))) (h2 : Reads w a2 m (fun i => .int .i64 (g.fw i))) (hR : ∀ i, i < g.L u → g.R u i < m) :
    Calls Try.prog 36 #[.slice a0 (g.L u) c0, .slice a1 m c1, .slice a2 m c2, .int .i64 x] w fun e w' => e = .returned (.bool (wr g u x)) ∧ w' = w := by
  obtain ⟨b0, o0, q0, v0⟩ := h0
  obtain ⟨b1, o1, q1, v1⟩ := h1
  obtain ⟨b2, o2, q2, v2⟩ := h2
  go_enter Try.func36, Try.ntmps36
  go_wp2
  go_loop [9] (fun s => ∃ k : Nat, k ≤ g.L u ∧ s = .int .i64 k ∧ Hid (wrTo g u k x = false)) (fun s => g.L u - (intOf s).toNat)
  case atStart => exact ⟨0, Nat.zero_le _, rfl, rfl⟩
  case round =>
    obtain ⟨k, hk, rfl, HI⟩ := hrel
    by_cases hlt : k < g.L u
    · have hr := hR k hlt
      obtain ⟨rfl, l0⟩ := q0 (by omega)
      obtain ⟨rfl, l1⟩ := q1 (by omega)
      obtain ⟨rfl, l2⟩ := q2 (by omega)
      have t0 : w.cell? ⟨b0, o0 + k, none⟩ = some (.int .i64 (g.R u k)) := v0 k hlt
      have t1 : w.cell? ⟨b1, o1 + g.R u k, none⟩ = some (.int .i64 (g.it (g.R u k))) := v1 _ hr
      have t2 : w.cell? ⟨b2, o2 + g.R u k, none⟩ = some (.int .i64 (g.fw (g.R u k))) := v2 _ hr
      have HS : Hid (wrTo g u (k + 1) x = (wrTo g u k x || (decide (g.it (g.R u k) = x) && decide (0 < g.fw (g.R u k))))) := rfl
      have hltz : (k : Int) < (g.L u : Int) := by omega
      have hrz : (g.R u k : Int) < (m : Int) := by omega
      clear q0 q1 q2 v0 v1 v2 hR
      generalize hL : g.L u = Lu at *
      generalize g.R u k = r at *
      by_cases e1 : g.it r = x
      · have e1' : ((g.it r : Int) == (x : Int)) = true := by rw [beq_iff_eq]; omega
        by_cases e2 : 0 < g.fw r
        · have HW : Hid (∀ n, wrTo g u k x = false → wrTo g u (k + 1 + n) x = true) := fun n _ => by
            induction n with
            | zero => show wrTo g u (k + 1) x = true; rw [HS.out, e1]; simp [e2]
            | succ n ih => rw [← Nat.add_assoc, wrTo, ih]; rfl
          have HL : Hid (g.L u = Lu) := hL
          clear hL e1 HS
          go_wp2
          go_ret
          refine ⟨ret_bool' ?_, rfl⟩
          have := HW.out (Lu - (k + 1)) HI.out
          rw [show k + 1 + (Lu - (k + 1)) = Lu from by omega] at this
          unfold wr; rw [HL.out, this]
        · have e2d : decide (0 < g.fw r) = false := decide_eq_false e2
          have HL : Hid (g.L u = Lu) := hL
          have HN : Hid (wrTo g u (k + 1) x = false) := by show _ = _; rw [HS.out, HI.out, e2d]; simp
          clear hL e1 HS
          go_wp2
          go_round
          case rel => exact ⟨k + 1, by omega, by go_num, HN⟩
          case measure => simp [intOf]; omega
      · have e1' : ((g.it r : Int) == (x : Int)) = false := by rw [beq_eq_false_iff_ne]; omega
        have HL : Hid (g.L u = Lu) := hL
        have HN : Hid (wrTo g u (k + 1) x = false) := by show _ = _; rw [HS.out, HI.out, decide_eq_false e1]; simp
        clear hL e1 HS
        go_wp2
        go_round
        case rel => exact ⟨k + 1, by omega, by go_num, HN⟩
        case measure => simp [intOf]; omega
    · obtain rfl : k = g.L u := by omega
      clear q0 q1 q2 v0 v1 v2 hR
      go_wp2
      go_ret
      exact ⟨ret_bool' HI.out.symm, rfl⟩

/-- Some int; the world as it was. -/
def RetInt (w : World) (e : Ending) (w' : World) : Prop := ∃ t : Int, e = .returned (.int .i64 t) ∧ w = w'

set_option maxHeartbeats 4000000 in
theorem load_any (a4 a5 : Option Addr) (T N c4 c5 : Nat) (A : Nat → Option Addr) (L C : Nat → Nat) (od : Nat → Nat) (w : World) (hN : N ≤ 1048576)
    (h4 : Reads w a4 T (fun u => .slice (A u) (L u) (C u))) (h5 : Reads w a5 N (fun i => .int .i64 (od i))) (ho : ∀ k, k < N → od k < T) :
    Calls Try.prog 35 #[.slice a4 T c4, .slice a5 N c5] w (RetInt w) := by
  obtain ⟨b4, o4, q4, v4⟩ := h4
  obtain ⟨b5, o5, q5, v5⟩ := h5
  go_enter Try.func35, Try.ntmps35
  go_wp2
  go_loopg [5, 6] N (fun gg t s wx => ∃ (k : Nat) (x : Int), k ≤ N ∧ gg = N - k ∧ t = .int .i64 x ∧ s = .int .i64 k ∧ w = wx)
  case atStart => exact ⟨0, 0, Nat.zero_le _, rfl, rfl, rfl, rfl⟩
  case round =>
    obtain ⟨k, x, hk, rfl, rfl, rfl, rfl⟩ := hrel
    by_cases hlt : k < N
    · have hr := ho k hlt
      obtain ⟨rfl, l4⟩ := q4 (by omega)
      obtain ⟨rfl, l5⟩ := q5 (by omega)
      have t5 : w.cell? ⟨b5, o5 + k, none⟩ = some (.int .i64 (od k)) := v5 k hlt
      have t4 : w.cell? ⟨b4, o4 + od k, none⟩ = some (.slice (A (od k)) (L (od k)) (C (od k))) := v4 _ hr
      have hltz : (k : Int) < (N : Int) := by omega
      have hrz : (od k : Int) < (T : Int) := by omega
      clear q4 q5 v4 v5 ho
      generalize od k = r at *
      go_wp2
      · go_ret
        exact ⟨_, rfl, rfl⟩
      · go_roundg (N - (k + 1))
        case measure => go_light; omega
        case rel =>
          go_light
          exact ⟨k + 1, _, by omega, rfl, rfl, by go_num, rfl⟩
    · clear q4 q5 v4 v5 ho
      go_wp2
      go_ret
      exact ⟨_, rfl, rfl⟩

end Go.Proofs.Qxb6000570a
