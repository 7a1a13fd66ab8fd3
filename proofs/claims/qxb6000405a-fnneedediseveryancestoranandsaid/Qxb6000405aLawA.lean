/-
  THE WALK of the law 'FnNeededIsEveryAncestorAnAnd', behind its tests on lengths.
-/
import Derived.Test.Qxb6000405aEarlyA
namespace Go.Proofs.Qxb6000405a
open Go.RowKit

/-- The climb from node i: at node j, what has been found so far. -/
theorem climb_step {n : Nat} {par need : Nat → Int} {f : Nat → Bool} (h : NeedSpec n par need f) {i j u : Nat} {want : Bool} (hj : j + 1 < n) (hu : par j = (u : Int)) (hw : (want && f j) = f i) :
    (need u = (cntTo par n u : Int) → (want && f u) = f i) ∧ (need u ≠ (cntTo par n u : Int) → (false && f u) = f i) := by
  have e := (h (by omega)).2 j hj
  rw [hu, Int.toNat_natCast] at e
  constructor
  · intro hn
    rw [← hw, e, hn]; simp
  · intro hn
    rw [← hw, e, decide_eq_false hn]; simp

set_option maxRecDepth 100000 in
set_option maxHeartbeats 8000000 in
theorem lateA_any (a0 a1 a2 : Option Addr) (n0 n1 n2 c0 c1 c2 : Nat) (z0 z1 z2 : Nat → Int) (w : World) (l0 : n0 ≤ 4096) (l1 : n1 ≤ 4096) (l2 : n2 ≤ 4096)
    (p0 : a0 = none → n0 = 0 ∧ c0 = 0) (p1 : a1 = none → n1 = 0 ∧ c1 = 0) (p2 : a2 = none → n2 = 0 ∧ c2 = 0)
    (h0 : Reads w a0 n0 (fun i => .int .i32 (z0 i))) (h1 : Reads w a1 n1 (fun i => .int .i32 (z1 i))) (h2 : Reads w a2 n2 (fun i => .int .i32 (z2 i))) (i2 : I32 z2) :
    Calls Try.prog 3 #[.slice a0 n0 c0, .slice a1 n1 c1, .slice a2 n2 c2] w (RetTrue w) := by
  have d0 : decide ((1048576 : Int) < (n0 : Int)) = false := decide_eq_false (by omega)
  have d1 : decide ((1048576 : Int) < (n1 : Int)) = false := decide_eq_false (by omega)
  have d2 : decide ((1048576 : Int) < (n2 : Int)) = false := decide_eq_false (by omega)
  have d3 : decide ((1048576 : Int) < 4 * ((n0 : Int) + (n1 : Int) + (n2 : Int))) = false := decide_eq_false (by omega)
  have d4 : decide ((4096 : Int) < (n0 : Int)) = false := decide_eq_false (by omega)
  have d5 : decide ((4096 : Int) < (n1 : Int)) = false := decide_eq_false (by omega)
  have d6 : decide ((4096 : Int) < (n2 : Int)) = false := decide_eq_false (by omega)
  go_enter Try.func3, Try.ntmps3
  go_wp2_with fail
  refine (bytes8_any _ _ _ _ _ _ _ _ _ _).mono ?_
  rintro e w1 ⟨b, rfl, rfl⟩
  cases b
  · go_wp2
    go_ret
    exact ⟨rfl, Below.refl _ _⟩
  go_wp2_with fail
  refine (wf_any a0 a1 a2 n0 n1 n2 c0 c1 c2 z2 w l0 h2 i2).mono ?_
  rintro e w1 ⟨b, rfl, rfl, hwf⟩
  cases b
  · go_wp2
    go_ret
    exact ⟨rfl, Below.refl _ _⟩
  obtain ⟨rfl, rfl, hW⟩ := hwf rfl
  clear hwf d0 d1 d2 d3 d4 d5 d6 i2
  go_wp2_with fail
  refine (clone10_any a0 _ c0 z0 w l0 h0 p0).mono ?_
  rintro e w1 ⟨x0, e0, rfl, b1, r0⟩
  go_wp2_with fail
  refine (clone10_any a1 _ c1 z1 w1 l0 (h1.below b1) p1).mono ?_
  rintro e w2 ⟨x1, e1, rfl, b2, r1⟩
  go_wp2_with fail
  refine (clone10_any a2 _ c2 z2 w2 l0 ((h2.below b1).below b2) p2).mono ?_
  rintro e w3 ⟨x2, e2, rfl, b3, r2⟩
  replace r0 := (r0.below b2).below b3
  replace r1 := r1.below b3
  have B3 : Below w.heap.size w w3 := (b1.trans (b2.mono b1.size)).trans (b3.mono (Nat.le_trans b1.size b2.size))
  clear b1 b2 b3 h0 h1 h2 p0 p1 p2
  go_wp2_with fail
  refine (zzneeded_any x0 x1 x2 _ e0 e1 e2 z0 z1 z2 w3 l0 r0 r1 r2 hW).mono ?_
  rintro e w4 ⟨f, hf, x3, e3, rfl, b4, r3⟩
  replace r1 := r1.below b4
  replace r2 := r2.below b4
  have B4 : Below w.heap.size w w4 := B3.trans (b4.mono B3.size)
  clear b4 B3 r0
  by_cases hz : n2 = 0
  · subst hz
    go_wp2
    go_ret
    exact ⟨rfl, B4⟩
  have hz' : ((n2 : Int) == 0) = false := by rw [beq_eq_false_iff_ne]; omega
  go_wp2_with fail
  refine (counts_any x2 n2 e2 z2 w4 l0 r2 hW).mono ?_
  rintro e w5 ⟨x4, e4, rfl, b5, r4⟩
  obtain ⟨g1, o1, q1, v1⟩ := r1.below b5
  obtain ⟨g2, o2, q2, v2⟩ := r2.below b5
  obtain ⟨g3, o3, q3, v3⟩ := r3.below b5
  obtain ⟨g4, o4, q4, r4⟩ := r4
  obtain ⟨rfl, s1⟩ := q1 (by omega)
  obtain ⟨rfl, s2⟩ := q2 (by omega)
  obtain ⟨rfl, s3⟩ := q3 (by omega)
  obtain ⟨rfl, s4⟩ := q4 (by omega)
  have B5 : Below w.heap.size w w5 := B4.trans (b5.mono B4.size)
  have H1 : Hid (∀ i, i < n2 → w5.cell? ⟨g1, o1 + i, none⟩ = some (.int .i32 (z1 i))) := v1
  have H2 : Hid (∀ i, i < n2 → w5.cell? ⟨g2, o2 + i, none⟩ = some (.int .i32 (z2 i))) := v2
  have H3 : Hid (∀ i, i < n2 → w5.cell? ⟨g3, o3 + i, none⟩ = some (.bool (f i))) := v3
  have H4 : Hid (∀ i, i < n2 → w5.cell? ⟨g4, o4 + i, none⟩ = some (.int .i32 (cntTo z2 n2 i))) := r4
  have HW : Hid (WF n2 z2) := hW
  have HF : Hid (NeedSpec n2 z2 z1 f) := hf
  clear q1 q2 q3 q4 v1 v2 v3 r1 r2 r3 r4 b5 B4 hW hf l1 l2
  go_wp2
  go_loopg [10] n2 (fun gg s wx => ∃ k : Nat, k ≤ n2 ∧ gg = n2 - k ∧ s = .int .i64 k ∧ Below w5.heap.size w5 wx)
  case atStart => exact ⟨0, Nat.zero_le _, rfl, rfl, Below.refl _ _⟩
  case round =>
    obtain ⟨k, hk, rfl, rfl, hb⟩ := hrel
    obtain ⟨wo, rfl⟩ : ∃ wo : World, wo = wr := ⟨_, rfl⟩
    by_cases hlt : k < n2
    · have hltz : (k : Int) < (n2 : Int) := by omega
      go_wp2
      go_loopg [11, 12] (n2 - k) (fun gg s t wx => ∃ (j : Nat) (want : Bool), j < n2 ∧ gg = n2 - j ∧ s = .bool want ∧ t = .int .i64 j ∧ Below w5.heap.size w5 wx ∧ (want && f j) = f k)
      case atStart => exact ⟨k, true, hlt, rfl, rfl, rfl, hb, rfl⟩
      case round =>
        obtain ⟨j, want, hj, rfl, rfl, rfl, hb2, hinv⟩ := hrel
        have HI : Hid ((want && f j) = f k) := hinv
        clear hinv hb
        have c2 : wr.cell? ⟨g2, o2 + j, none⟩ = some (.int .i32 (z2 j)) := by rw [hb2.cell (p := ⟨g2, o2 + j, none⟩) s2]; exact H2.out j hj
        have hjz : (j : Int) < (n2 : Int) := by omega
        by_cases hr : j + 1 < n2
        · obtain ⟨w1, w2⟩ := HW.out.inner hr
          obtain ⟨u, hu⟩ : ∃ u : Nat, z2 j = (u : Int) := ⟨(z2 j).toNat, by omega⟩
          have HU : Hid (z2 j = (u : Int)) := hu
          rw [hu] at c2
          have hun : u < n2 := by omega
          have hju : j < u := by omega
          have hunz : (u : Int) < (n2 : Int) := by omega
          have c1 : wr.cell? ⟨g1, o1 + u, none⟩ = some (.int .i32 (z1 u)) := by rw [hb2.cell (p := ⟨g1, o1 + u, none⟩) s1]; exact H1.out u hun
          have c4 : wr.cell? ⟨g4, o4 + u, none⟩ = some (.int .i32 (cntTo z2 n2 u)) := by rw [hb2.cell (p := ⟨g4, o4 + u, none⟩) s4]; exact H4.out u hun
          clear hu w1 w2
          by_cases hE : z1 u = (cntTo z2 n2 u : Int)
          · have hE' : (z1 u != (cntTo z2 n2 u : Int)) = false := by rw [bne_eq_false_iff_eq]; exact hE
            have HE : Hid (z1 u = (cntTo z2 n2 u : Int)) := hE
            clear hE
            go_wp2
            go_quiet (fail)
            go_wp2
            go_roundg (n2 - u)
            case measure => go_light; omega
            case rel =>
              go_light
              exact ⟨u, want, hun, rfl, rfl, rfl, hb2.trans ((below_drewN' wr nq).mono hb2.size), (climb_step HF.out hr HU.out HI.out).1 HE.out⟩
          · have hE' : (z1 u != (cntTo z2 n2 u : Int)) = true := by rw [bne_iff_ne]; exact hE
            have HE : Hid (z1 u ≠ (cntTo z2 n2 u : Int)) := hE
            clear hE
            go_wp2
            go_quiet (fail)
            go_wp2
            go_roundg (n2 - u)
            case measure => go_light; omega
            case rel =>
              go_light
              exact ⟨u, false, hun, rfl, rfl, rfl, hb2.trans ((below_drewN' wr nq).mono hb2.size), (climb_step HF.out hr HU.out HI.out).2 HE.out⟩
        · obtain rfl : j = n2 - 1 := by omega
          have hneg : z2 (n2 - 1) = -1 := HW.out.root (by omega)
          have hwant : want = f k := by have := HI.out; rwa [(HF.out (by omega)).1, Bool.and_true] at this
          rw [hneg] at c2
          have c3 : wr.cell? ⟨g3, o3 + k, none⟩ = some (.bool (f k)) := by rw [hb2.cell (p := ⟨g3, o3 + k, none⟩) s3]; exact H3.out k hlt
          subst hwant
          clear hneg HI
          go_wp2
          go_roundg (n2 - (k + 1))
          case measure => go_light; omega
          case rel =>
            go_light
            exact ⟨k + 1, by omega, rfl, by go_num, hb2⟩
    · go_wp2
      go_ret
      exact ⟨rfl, B5.trans (hb.mono B5.size)⟩

end Go.Proofs.Qxb6000405a
