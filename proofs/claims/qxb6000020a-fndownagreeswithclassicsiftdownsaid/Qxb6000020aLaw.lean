/-
  THE WALK of the law 'FnDownAgreesWithClassicSiftDown', behind its tests.
-/
import Derived.Test.Qxb6000020aTop
namespace Go.Proofs.Qxb6000020a
open Go.RowKit

/-- The two ways down end in one array. -/
theorem same_end {n : Nat} {q q2 qm : Nat → T4} {i : Nat} (hh : i < n → HeapBelow n q i)
    (hm : (n ≤ i ∧ qm = q) ∨ (i < n ∧ ∃ c, SiftEnd n q i c ∧ qm = laid n q i c))
    (h2 : (n ≤ i ∧ q2 = q) ∨ (i < n ∧ ∃ K d, DownEnd n q i K d ∧ q2 = laid n q i d)) : q2 = qm := by
  rcases hm with ⟨m1, m2⟩ | ⟨m1, c, m2, m3⟩
  · rcases h2 with ⟨_, e⟩ | ⟨e, _⟩
    · rw [e, m2]
    · omega
  · rcases h2 with ⟨e, _⟩ | ⟨_, K, d, e, e'⟩
    · omega
    · rw [e', m3]
      have hcK : c ≤ K := by
        rcases Nat.lt_or_ge K c with h | h
        · have a := path_mono (n := n) (q := q) (i := i) h
          have b : path n q i (K + 1) ≤ path n q i c := by
            rcases Nat.lt_or_ge (K + 1) c with h | h
            · exact Nat.le_of_lt (path_mono h)
            · obtain rfl : K + 1 = c := by omega
              exact Nat.le_refl _
          have c' : 2 * path n q i K + 1 ≤ path n q i (K + 1) := by
            show _ ≤ child n q (path n q i K)
            rcases child_cases n q (path n q i K) with h | h <;> omega
          have := m2.lt
          have := e.leaf
          omega
        · exact h
      refine ways_meet (K := K) (heap_path (hh m1) e.lt) hcK e.le m2.up (fun hlt => m2.stop ?_) e.up e.stop
      have a : path n q i (c + 1) ≤ path n q i K := by
        rcases Nat.lt_or_ge (c + 1) K with h | h
        · exact Nat.le_of_lt (path_mono h)
        · obtain rfl : c + 1 = K := by omega
          exact Nat.le_refl _
      have c' : 2 * path n q i c + 1 ≤ path n q i (c + 1) := by
        show _ ≤ child n q (path n q i c)
        rcases child_cases n q (path n q i c) with h | h <;> omega
      have := e.lt
      omega

/-- What stands behind the law's 'ZZHB1Down', for the last loop. -/
structure Last (w wx : World) (a0 a1 a2 a3 : Option Addr) (g0 g1 g2 g3 G n : Nat) (q : Nat → T4) : Prop where
  bel : Below w.heap.size w wx
  quad : Quad wx a0 a1 a2 a3 g0 g1 g2 g3 n q
  mod : 0 < n → TRow wx G 43 n q

theorem Last.below {w wx wy : World} {a0 a1 a2 a3 : Option Addr} {g0 g1 g2 g3 G n : Nat} {q : Nat → T4} (h : Last w wx a0 a1 a2 a3 g0 g1 g2 g3 G n q) (hb : Below wx.heap.size wx wy) : Last w wy a0 a1 a2 a3 g0 g1 g2 g3 G n q :=
  ⟨h.bel.trans (hb.mono h.bel.size), h.quad.below hb, fun e => (h.mod e).below hb⟩

theorem last_of {w w7 w8 : World} {a0 a1 a2 a3 : Option Addr} {g0 g1 g2 g3 G n i : Nat} {q q2 : Nat → T4} (hh : i < n → HeapBelow n q i)
    (hm : (n ≤ i ∧ TRow w7 G 43 n q) ∨ (i < n ∧ ∃ c, SiftEnd n q i c ∧ TRow w7 G 43 n (laid n q i c)))
    (h2 : (n ≤ i ∧ q2 = q) ∨ (i < n ∧ ∃ K d, DownEnd n q i K d ∧ q2 = laid n q i d))
    (B7 : Below w.heap.size w w7) (hQ8 : Quad w8 a0 a1 a2 a3 g0 g1 g2 g3 n q2) (hF : Frame4 g0 g1 g2 g3 w7 w8)
    (hgs : w.heap.size ≤ g0 ∧ w.heap.size ≤ g1 ∧ w.heap.size ≤ g2 ∧ w.heap.size ≤ g3) (hne : 0 < n → (g0 ≠ G ∧ g1 ≠ G ∧ g2 ≠ G ∧ g3 ≠ G)) :
    Last w w8 a0 a1 a2 a3 g0 g1 g2 g3 G n q2 := by
  obtain ⟨qm, hMm, hcm⟩ : ∃ qm, TRow w7 G 43 n qm ∧ ((n ≤ i ∧ qm = q) ∨ (i < n ∧ ∃ c, SiftEnd n q i c ∧ qm = laid n q i c)) := by
    rcases hm with ⟨h1, h2⟩ | ⟨h1, c, h2, h3⟩
    · exact ⟨q, h2, .inl ⟨h1, rfl⟩⟩
    · exact ⟨_, h3, .inr ⟨h1, c, h2, rfl⟩⟩
  obtain rfl := same_end hh hcm h2
  refine ⟨⟨hF.os.trans B7.os, hF.tape.trans B7.tape, hF.output.trans B7.output, Nat.le_trans B7.size hF.size, fun k hk => ?_⟩, hQ8, fun e => ?_⟩
  · have := B7.size
    exact (hF.block k (by omega) (by omega) (by omega) (by omega) (by omega)).trans (B7.block k hk)
  · have := hne e
    exact World.rowIs.of_block hMm (hF.block _ hMm.lt (by omega) (by omega) (by omega) (by omega))

theorem below_drewN' (w : World) (n : Nat) : Below w.heap.size w (w.drewN n) := by
  rw [show w.drewN n = grow w { w with heap := #[], drawn := (w.drewN n).drawn } from by simp [grow, World.drewN]]
  exact grow_below _ _

set_option maxRecDepth 100000 in
set_option maxHeartbeats 8000000 in
theorem top_late (a0 a1 a2 a3 : Option Addr) (n c0 c1 c2 c3 i : Nat) (z0 z1 z2 z3 : Nat → Int) (w : World) (hn : n ≤ 4096)
    (p0 : a0 = none → n = 0 ∧ c0 = 0) (p1 : a1 = none → n = 0 ∧ c1 = 0) (p2 : a2 = none → n = 0 ∧ c2 = 0) (p3 : a3 = none → n = 0 ∧ c3 = 0)
    (h0 : Reads w .i64 a0 n z0) (h1 : Reads w .i32 a1 n z1) (h2 : Reads w .i64 a2 n z2) (h3 : Reads w .i64 a3 n z3) :
    Calls Try.prog 6 #[.slice a0 n c0, .slice a1 n c1, .slice a2 n c2, .slice a3 n c3, .int .i64 i] w (RetTrue w) := by
  have hd1 : decide ((4096 : Int) < (n : Int)) = false := decide_eq_false (by omega)
  go_enter Try.func6, Try.ntmps6
  go_wp2_with fail
  refine (bytes_any _ _ _ _ _ _ _ _ _ _ _ _ _ _).mono ?_
  rintro e w1 ⟨b, rfl, rfl⟩
  cases b
  · go_wp2
    go_ret
    exact ⟨rfl, Below.refl _ _⟩
  go_wp2_with fail
  refine (clone19_any a0 n c0 z0 w hn h0 p0).mono ?_
  rintro e w1 ⟨x0, d0, rfl, b1, o0⟩
  go_wp2_with fail
  refine (clone20_any a1 n c1 z1 w1 hn (h1.below b1) p1).mono ?_
  rintro e w2 ⟨x1, d1, rfl, b2, o1⟩
  go_wp2_with fail
  refine (clone21_any a2 n c2 z2 w2 hn ((h2.below b1).below b2) p2).mono ?_
  rintro e w3 ⟨x2, d2, rfl, b3, o2⟩
  go_wp2_with fail
  refine (clone21_any a3 n c3 z3 w3 hn (((h3.below b1).below b2).below b3) p3).mono ?_
  rintro e w4 ⟨x3, d3, rfl, b4, o3⟩
  obtain ⟨g0, g1, g2, g3, hgs, hQ⟩ := quad_of b1 b2 b3 b4 o0 o1 o2 o3
  have B4 : Below w.heap.size w w4 := ((b1.trans (b2.mono b1.size)).trans (b3.mono (Nat.le_trans b1.size b2.size))).trans (b4.mono (Nat.le_trans b1.size (Nat.le_trans b2.size b3.size)))
  clear o0 o1 o2 o3 b1 b2 b3 b4 p0 p1 p2 p3 h0 h1 h2 h3
  generalize mk4 z0 z1 z2 z3 = q at hQ
  obtain ⟨R0, R1, R2, R3⟩ := hQ.reads
  go_wp2_with fail
  refine (from_any x0 x1 x2 x3 n d0 d1 d2 d3 _ _ _ _ w4 hn R0 R1 R2 R3).mono ?_
  rintro e w5 ⟨rfl, b5, hM⟩
  clear R0 R1 R2 R3
  have hM5 : TRow w5 w4.heap.size 43 n q := hM.congr (fun i _ => rfl)
  have hQ5 := hQ.below b5
  have B5 : Below w.heap.size w w5 := B4.trans (b5.mono B4.size)
  have hne : 0 < n → (g0 ≠ w4.heap.size ∧ g1 ≠ w4.heap.size ∧ g2 ≠ w4.heap.size ∧ g3 ≠ w4.heap.size) := fun e => by
    have l0 := (hQ.r0 e).lt
    have l1 := (hQ.r1 e).lt
    have l2 := (hQ.r2 e).lt
    have l3 := (hQ.r3 e).lt
    omega
  have hG : w.heap.size ≤ w4.heap.size := B4.size
  clear hM hQ b5 B4
  generalize w4.heap.size = G at *
  by_cases hi : i < n
  · have hiz : (i : Int) < (n : Int) := by omega
    go_wp2_with fail
    refine (heap_any G n n i q w5 hn hi hM5).mono ?_
    rintro e w6 ⟨b, rfl, b6, hh⟩
    cases b
    · go_wp2
      go_ret
      exact ⟨rfl, B5.trans (b6.mono B5.size)⟩
    · have hHeap : i < n → HeapBelow n q i := fun _ => hh rfl
      have hM6 := hM5.below b6
      have hQ6 := hQ5.below b6
      have B6 : Below w.heap.size w w6 := B5.trans (b6.mono B5.size)
      clear hM5 hQ5 B5 b6 hh
      go_wp2_with fail
      refine (sift_any G n n i q w6 hn hM6).mono ?_
      rintro e w7 ⟨rfl, hg7, hc7⟩
      have hQ7 := hQ6.grown hg7 hne
      have B7 : Below w.heap.size w w7 := B6.grown hg7 B6.size (fun k e => by cases e; exact hG)
      clear hg7 hM6 hQ6 B6
      go_wp2_with fail
      refine (zd_any x0 x1 x2 x3 g0 g1 g2 g3 n d0 d1 d2 d3 i q w7 hn hQ7).mono ?_
      rintro e w8 ⟨rfl, q2, hQ8, hF8, hc8⟩
      have hL : Last w w8 x0 x1 x2 x3 g0 g1 g2 g3 G n q2 := last_of hHeap hc7 hc8 B7 hQ8 hF8 hgs hne
      clear hQ8 hF8 hc8 hc7 hQ7 B7 hHeap hne hgs hG
      go_wp2
      go_loopg [12] n (fun gg s wx => ∃ k : Nat, k ≤ n ∧ gg = n - k ∧ s = .int .i64 k ∧ Last w wx x0 x1 x2 x3 g0 g1 g2 g3 G n q2)
      case atStart => exact ⟨0, Nat.zero_le _, rfl, rfl, hL⟩
      case round =>
        obtain ⟨k, hk, rfl, rfl, hl⟩ := hrel
        clear hL
        by_cases hlt : k < n
        · obtain ⟨rfl, rfl, rfl, rfl⟩ := hl.quad.pos (by omega)
          have hltz : (k : Int) < (n : Int) := by omega
          have HL : Hid (Last w wr _ _ _ _ g0 g1 g2 g3 G n q2) := hl
          have e0 := (hl.quad.r0 (by omega)).cell hlt
          have e1 := (hl.quad.r1 (by omega)).cell hlt
          have e2 := (hl.quad.r2 (by omega)).cell hlt
          have e3 := (hl.quad.r3 (by omega)).cell hlt
          obtain ⟨t0, t1, t2, t3⟩ := (hl.mod (by omega)).tat hlt
          clear hl
          go_wp2
          go_quiet (fail)
          go_wp2
          go_roundg (n - (k + 1))
          case measure => go_light; omega
          case rel =>
            go_light
            exact ⟨k + 1, by omega, rfl, by go_num, HL.out.below (below_drewN' _ _)⟩
        · go_wp2
          go_ret
          exact ⟨rfl, hl.bel⟩
  · have hHeap : i < n → HeapBelow n q i := fun h => absurd h hi
    have hid : decide (i < n) = false := decide_eq_false hi
    obtain ⟨w6, rfl⟩ : ∃ w6 : World, w6 = w5 := ⟨_, rfl⟩
    have hM6 := hM5
    have hQ6 := hQ5
    have B6 := B5
    clear hM5 hQ5 B5
    go_wp2_with fail
    refine (sift_any G n n i q w6 hn hM6).mono ?_
    rintro e w7 ⟨rfl, hg7, hc7⟩
    have hQ7 := hQ6.grown hg7 hne
    have B7 : Below w.heap.size w w7 := B6.grown hg7 B6.size (fun k e => by cases e; exact hG)
    clear hg7 hM6 hQ6 B6
    go_wp2_with fail
    refine (zd_any x0 x1 x2 x3 g0 g1 g2 g3 n d0 d1 d2 d3 i q w7 hn hQ7).mono ?_
    rintro e w8 ⟨rfl, q2, hQ8, hF8, hc8⟩
    have hL : Last w w8 x0 x1 x2 x3 g0 g1 g2 g3 G n q2 := last_of hHeap hc7 hc8 B7 hQ8 hF8 hgs hne
    clear hQ8 hF8 hc8 hc7 hQ7 B7 hHeap hne hgs hG
    go_wp2
    go_loopg [12] n (fun gg s wx => ∃ k : Nat, k ≤ n ∧ gg = n - k ∧ s = .int .i64 k ∧ Last w wx x0 x1 x2 x3 g0 g1 g2 g3 G n q2)
    case atStart => exact ⟨0, Nat.zero_le _, rfl, rfl, hL⟩
    case round =>
      obtain ⟨k, hk, rfl, rfl, hl⟩ := hrel
      clear hL
      by_cases hlt : k < n
      · obtain ⟨rfl, rfl, rfl, rfl⟩ := hl.quad.pos (by omega)
        have hltz : (k : Int) < (n : Int) := by omega
        have HL : Hid (Last w wr _ _ _ _ g0 g1 g2 g3 G n q2) := hl
        have e0 := (hl.quad.r0 (by omega)).cell hlt
        have e1 := (hl.quad.r1 (by omega)).cell hlt
        have e2 := (hl.quad.r2 (by omega)).cell hlt
        have e3 := (hl.quad.r3 (by omega)).cell hlt
        obtain ⟨t0, t1, t2, t3⟩ := (hl.mod (by omega)).tat hlt
        clear hl
        go_wp2
        go_quiet (fail)
        go_wp2
        go_roundg (n - (k + 1))
        case measure => go_light; omega
        case rel =>
          go_light
          exact ⟨k + 1, by omega, rfl, by go_num, HL.out.below (below_drewN' _ _)⟩
      · go_wp2
        go_ret
        exact ⟨rfl, hl.bel⟩

end Go.Proofs.Qxb6000020a
