/-
  THE WALK of the law 'FnDownAgreesWithClassicSiftDown'.
-/
import Derived.Test.Qxb6000020aZD
namespace Go.Proofs.Qxb6000020a
open Go.RowKit

/-- Some bool; the world as it was. -/
def RetSome (w : World) (e : Ending) (w' : World) : Prop := ∃ b : Bool, e = .returned (.bool b) ∧ w = w'
/-- True; nothing old has turned. -/
def RetTrue (w : World) (e : Ending) (w' : World) : Prop := e = .returned (.bool true) ∧ Below w.heap.size w w'

set_option maxHeartbeats 1000000 in
theorem bytes_any (a0 a1 a2 a3 : Option Addr) (n0 n1 n2 n3 c0 c1 c2 c3 : Nat) (i : Int) (w : World) :
    Calls Try.prog 18 #[.slice a0 n0 c0, .slice a1 n1 c1, .slice a2 n2 c2, .slice a3 n3 c3, .int .i64 i] w (RetSome w) := by
  go_enter Try.func18, Try.ntmps18
  go_wp2
  all_goals
    go_ret
    exact ⟨_, rfl, rfl⟩

theorem Reads.below {w w' : World} {k : IntKind} {a : Option Addr} {n : Nat} {z : Nat → Int} (h : Reads w k a n z) (hb : Below w.heap.size w w') : Reads w' k a n z := by
  obtain ⟨b, o, h1, h2⟩ := h
  refine ⟨b, o, fun e => ⟨(h1 e).1, Nat.lt_of_lt_of_le (h1 e).2 hb.size⟩, fun i hi => ?_⟩
  rw [hb.cell (p := ⟨b, o + i, none⟩) (h1 (by omega)).2]
  exact h2 i hi

theorem quad_of {w0 w1 w2 w3 w4 : World} {a0 a1 a2 a3 : Option Addr} {n : Nat} {z0 z1 z2 z3 : Nat → Int}
    (b1 : Below w0.heap.size w0 w1) (b2 : Below w1.heap.size w1 w2) (b3 : Below w2.heap.size w2 w3) (b4 : Below w3.heap.size w3 w4)
    (h0 : Owns w1 w0.heap.size .i64 2 a0 n z0) (h1 : Owns w2 w1.heap.size .i32 21 a1 n z1) (h2 : Owns w3 w2.heap.size .i64 3 a2 n z2) (h3 : Owns w4 w3.heap.size .i64 3 a3 n z3) :
    ∃ g0 g1 g2 g3, (w0.heap.size ≤ g0 ∧ w0.heap.size ≤ g1 ∧ w0.heap.size ≤ g2 ∧ w0.heap.size ≤ g3) ∧ Quad w4 a0 a1 a2 a3 g0 g1 g2 g3 n (mk4 z0 z1 z2 z3) := by
  have s1 := b1.size
  have s2 := b2.size
  have s3 := b3.size
  by_cases hn : 0 < n
  · obtain ⟨g0, e0, p0, r0⟩ := h0 hn
    obtain ⟨g1, e1, p1, r1⟩ := h1 hn
    obtain ⟨g2, e2, p2, r2⟩ := h2 hn
    obtain ⟨g3, e3, p3, r3⟩ := h3 hn
    have l0 := r0.lt
    have l1 := r1.lt
    have l2 := r2.lt
    exact ⟨g0, g1, g2, g3, by omega, fun _ => ⟨e0, e1, e2, e3⟩, fun _ => by omega, fun _ => rowIs_below (rowIs_below (rowIs_below r0 b2) b3) b4, fun _ => rowIs_below (rowIs_below r1 b3) b4, fun _ => rowIs_below r2 b4, fun _ => r3⟩
  · exact ⟨w0.heap.size, w0.heap.size, w0.heap.size, w0.heap.size, by omega, fun h => absurd h hn, fun h => absurd h hn, fun h => absurd h hn, fun h => absurd h hn, fun h => absurd h hn, fun h => absurd h hn⟩

set_option maxHeartbeats 4000000 in
theorem top_early (a0 a1 a2 a3 : Option Addr) (n0 n1 n2 n3 c0 c1 c2 c3 : Nat) (i : Int) (w : World)
    (h : 4096 < n0 ∨ 4096 < n1 ∨ 4096 < n2 ∨ 4096 < n3 ∨ n1 ≠ n0 ∨ n2 ≠ n0 ∨ n3 ≠ n0 ∨ i < 0) :
    Calls Try.prog 6 #[.slice a0 n0 c0, .slice a1 n1 c1, .slice a2 n2 c2, .slice a3 n3 c3, .int .i64 i] w (RetTrue w) := by
  have key : ∀ (hh : (4096 < n0) ∨ (n0 ≤ 4096 ∧ 4096 < n1) ∨ (n0 ≤ 4096 ∧ n1 ≤ 4096 ∧ 4096 < n2) ∨ (n0 ≤ 4096 ∧ n1 ≤ 4096 ∧ n2 ≤ 4096 ∧ 4096 < n3) ∨
      (n0 ≤ 4096 ∧ n1 ≤ 4096 ∧ n2 ≤ 4096 ∧ n3 ≤ 4096 ∧ n1 ≠ n0) ∨ (n0 ≤ 4096 ∧ n1 ≤ 4096 ∧ n2 ≤ 4096 ∧ n3 ≤ 4096 ∧ n1 = n0 ∧ n2 ≠ n0) ∨ (n0 ≤ 4096 ∧ n1 ≤ 4096 ∧ n2 ≤ 4096 ∧ n3 ≤ 4096 ∧ n1 = n0 ∧ n2 = n0 ∧ n3 ≠ n0) ∨
      (n0 ≤ 4096 ∧ n1 ≤ 4096 ∧ n2 ≤ 4096 ∧ n3 ≤ 4096 ∧ n1 = n0 ∧ n2 = n0 ∧ n3 = n0 ∧ i < 0)), Calls Try.prog 6 #[.slice a0 n0 c0, .slice a1 n1 c1, .slice a2 n2 c2, .slice a3 n3 c3, .int .i64 i] w (RetTrue w) := by
    intro hh
    rcases hh with h0 | ⟨h0, h1⟩ | ⟨h0, h1, h2⟩ | ⟨h0, h1, h2, h3⟩ | ⟨h0, h1, h2, h3, h4⟩ | ⟨h0, h1, h2, h3, rfl, h5⟩ | ⟨h0, h1, h2, h3, rfl, rfl, h6⟩ | ⟨h0, h1, h2, h3, rfl, rfl, rfl, h7⟩
    · go_enter Try.func6, Try.ntmps6
      go_wp2_with fail
      refine (bytes_any _ _ _ _ _ _ _ _ _ _ _ _ _ _).mono ?_
      rintro e w1 ⟨b, rfl, rfl⟩
      cases b
      all_goals
        go_wp2
        go_ret
        exact ⟨rfl, Below.refl _ _⟩
    · go_enter Try.func6, Try.ntmps6
      go_wp2_with fail
      refine (bytes_any _ _ _ _ _ _ _ _ _ _ _ _ _ _).mono ?_
      rintro e w1 ⟨b, rfl, rfl⟩
      cases b
      all_goals
        go_wp2
        go_ret
        exact ⟨rfl, Below.refl _ _⟩
    · go_enter Try.func6, Try.ntmps6
      go_wp2_with fail
      refine (bytes_any _ _ _ _ _ _ _ _ _ _ _ _ _ _).mono ?_
      rintro e w1 ⟨b, rfl, rfl⟩
      cases b
      all_goals
        go_wp2
        go_ret
        exact ⟨rfl, Below.refl _ _⟩
    · go_enter Try.func6, Try.ntmps6
      go_wp2_with fail
      refine (bytes_any _ _ _ _ _ _ _ _ _ _ _ _ _ _).mono ?_
      rintro e w1 ⟨b, rfl, rfl⟩
      cases b
      all_goals
        go_wp2
        go_ret
        exact ⟨rfl, Below.refl _ _⟩
    · have h4' : ((n1 : Int) != (n0 : Int)) = true := by rw [bne_iff_ne]; omega
      go_enter Try.func6, Try.ntmps6
      go_wp2_with fail
      refine (bytes_any _ _ _ _ _ _ _ _ _ _ _ _ _ _).mono ?_
      rintro e w1 ⟨b, rfl, rfl⟩
      cases b
      all_goals
        go_wp2
        go_ret
        exact ⟨rfl, Below.refl _ _⟩
    · have h5' : ((n2 : Int) != (n1 : Int)) = true := by rw [bne_iff_ne]; omega
      go_enter Try.func6, Try.ntmps6
      go_wp2_with fail
      refine (bytes_any _ _ _ _ _ _ _ _ _ _ _ _ _ _).mono ?_
      rintro e w1 ⟨b, rfl, rfl⟩
      cases b
      all_goals
        go_wp2
        go_ret
        exact ⟨rfl, Below.refl _ _⟩
    · have h6' : ((n3 : Int) != (n2 : Int)) = true := by rw [bne_iff_ne]; omega
      go_enter Try.func6, Try.ntmps6
      go_wp2_with fail
      refine (bytes_any _ _ _ _ _ _ _ _ _ _ _ _ _ _).mono ?_
      rintro e w1 ⟨b, rfl, rfl⟩
      cases b
      all_goals
        go_wp2
        go_ret
        exact ⟨rfl, Below.refl _ _⟩
    · go_enter Try.func6, Try.ntmps6
      go_wp2_with fail
      refine (bytes_any _ _ _ _ _ _ _ _ _ _ _ _ _ _).mono ?_
      rintro e w1 ⟨b, rfl, rfl⟩
      cases b
      all_goals
        go_wp2
        go_ret
        exact ⟨rfl, Below.refl _ _⟩
  exact key (by omega)

end Go.Proofs.Qxb6000020a
