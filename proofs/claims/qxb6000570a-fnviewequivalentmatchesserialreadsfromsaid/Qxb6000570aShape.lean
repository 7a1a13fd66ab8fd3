/-
  THE WALKS of 'viewShapeOK' and of the bound on lengths.
-/
import Derived.Test.Qxb6000570aNode
import Derived.Deep.DeepCutAuto
namespace Go.Proofs.Qxb6000570a
open Go.RowKit

/-- What 'viewShapeOK' answers. -/
def RetShape (w : World) (nI m n2 n3 T N : Nat) (it : Nat → Int) (L : Nat → Nat) (R : Nat → Nat → Int) (od : Nat → Int) (e : Ending) (w' : World) : Prop :=
  ∃ b : Bool, e = .returned (.bool b) ∧ w = w' ∧ (b = true → n2 = m ∧ n3 = m ∧ (∀ u, u < T → L u ≤ 131072) ∧ (∀ a, a < m → 0 ≤ it a ∧ it a < (nI : Int)) ∧ (∀ u, u < T → ∀ i, i < L u → 0 ≤ R u i ∧ R u i < (m : Int)) ∧ ∀ k, k < N → 0 ≤ od k ∧ od k < (T : Int))

set_option maxRecDepth 100000 in
set_option maxHeartbeats 16000000 in
theorem shape_any (a1 a2 a3 a4 a5 : Option Addr) (nI m n2 n3 T N c1 c2 c3 c4 c5 : Nat) (it : Nat → Int) (A : Nat → Option Addr) (L C : Nat → Nat) (R : Nat → Nat → Int) (od : Nat → Int) (w : World)
    (l0 : nI ≤ 16384) (l1 : m ≤ 65536) (l2 : n2 ≤ 65536) (l3 : n3 ≤ 65536) (l4 : T ≤ 65536) (l5 : N ≤ 4096)
    (h1 : Reads w a1 m (fun i => .int .i64 (it i))) (h4 : Adj w a4 T A L C R) (h5 : Reads w a5 N (fun i => .int .i64 (od i))) :
    Calls Try.prog 32 #[.int .i64 nI, .slice a1 m c1, .slice a2 n2 c2, .slice a3 n3 c3, .slice a4 T c4, .slice a5 N c5] w (RetShape w nI m n2 n3 T N it L R od) := by
  have d1 : decide ((65536 : Int) < (m : Int)) = false := decide_eq_false (by omega)
  have d2 : decide ((65536 : Int) < (n2 : Int)) = false := decide_eq_false (by omega)
  have d3 : decide ((65536 : Int) < (n3 : Int)) = false := decide_eq_false (by omega)
  have d4 : decide ((65536 : Int) < (T : Int)) = false := decide_eq_false (by omega)
  have d5 : decide ((65536 : Int) < (N : Int)) = false := decide_eq_false (by omega)
  have d6 : decide ((nI : Int) < 0) = false := decide_eq_false (by omega)
  have d7 : decide ((16384 : Int) < (nI : Int)) = false := decide_eq_false (by omega)
  obtain ⟨b1, o1, q1, v1⟩ := h1
  obtain ⟨b5, o5, q5, v5⟩ := h5
  obtain ⟨b4, o4, q4, v4⟩ := h4.top
  have hrow := h4.row
  clear h4
  by_cases t0 : (1048576 : Int) < 8 * ((m : Int) + (n2 : Int) + (n3 : Int) + (T : Int) + (N : Int))
  · clear hrow v1 v4 v5
    go_enter Try.func32, Try.ntmps32
    go_wp2
    go_ret
    exact ⟨false, rfl, rfl, fun h => by cases h⟩
  have t0d : decide ((1048576 : Int) < 8 * ((m : Int) + (n2 : Int) + (n3 : Int) + (T : Int) + (N : Int))) = false := decide_eq_false t0
  go_enter Try.func32, Try.ntmps32
  go_wp2
  clear d1 d2 d3 d4 d5 d6 d7 t0d
  go_loopg [13, 14] T (fun gg t s wx => ∃ (k : Nat) (x : Int), k ≤ T ∧ gg = T - k ∧ t = .int .i64 x ∧ s = .int .i64 k ∧ w = wx ∧ ∀ u, u < k → L u ≤ 131072)
  case atStart => exact ⟨0, _, Nat.zero_le _, rfl, rfl, rfl, rfl, fun u hu => by omega⟩
  case round =>
    obtain ⟨k, x, hk, rfl, rfl, rfl, rfl, hh⟩ := hrel
    have HH : Hid (∀ u, u < k → L u ≤ 131072) := hh
    clear hh
    by_cases hlt : k < T
    · obtain ⟨rfl, lt4⟩ := q4 (by omega)
      have ck : w.cell? ⟨b4, o4 + k, none⟩ = some (.slice (A k) (L k) (C k)) := v4 k hlt
      have hltz : (k : Int) < (T : Int) := by omega
      clear v1 v4 v5 hrow q1 q4 q5
      by_cases tl : (131072 : Int) < (L k : Int)
      · go_wp2
        go_ret
        exact ⟨false, rfl, rfl, fun h => by cases h⟩
      · go_wp2
        · go_ret
          exact ⟨false, rfl, rfl, fun h => by cases h⟩
        · go_roundg (T - (k + 1))
          case measure => go_light; omega
          case rel =>
            go_light
            refine ⟨k + 1, _, by omega, rfl, rfl, by go_num, rfl, fun u hu => ?_⟩
            by_cases e : u = k
            · subst e; omega
            · exact HH.out u (by omega)
    · obtain rfl : k = T := by omega
      clear hk hlt
      by_cases e2 : n2 = m
      rotate_left
      · have e2' : ((n2 : Int) != (m : Int)) = true := by rw [bne_iff_ne]; omega
        clear v1 v4 v5 hrow
        go_wp2
        go_ret
        exact ⟨false, rfl, rfl, fun h => by cases h⟩
      subst e2
      by_cases e3 : n3 = n2
      rotate_left
      · have e3' : ((n3 : Int) != (n2 : Int)) = true := by rw [bne_iff_ne]; omega
        clear v1 v4 v5 hrow
        go_wp2
        go_ret
        exact ⟨false, rfl, rfl, fun h => by cases h⟩
      subst e3
      have HROW : Hid (∀ u, u < k → Reads w (A u) (L u) (fun i => .int .i64 (R u i))) := hrow
      have HV1 : Hid (∀ i, i < n3 → w.cell? ⟨b1, o1 + i, none⟩ = some (.int .i64 (it i))) := v1
      have HV4 : Hid (∀ i, i < k → w.cell? ⟨b4, o4 + i, none⟩ = some (.slice (A i) (L i) (C i))) := v4
      have HV5 : Hid (∀ i, i < N → w.cell? ⟨b5, o5 + i, none⟩ = some (.int .i64 (od i))) := v5
      clear hrow v1 v4 v5
      go_wp2
      go_loopg [15] n3 (fun gg s wx => ∃ k : Nat, k ≤ n3 ∧ gg = n3 - k ∧ s = .int .i64 k ∧ w = wx ∧ ∀ a, a < k → 0 ≤ it a ∧ it a < (nI : Int))
      case atStart => exact ⟨0, Nat.zero_le _, rfl, rfl, rfl, fun u hu => by omega⟩
      case round =>
        obtain ⟨j, hj, rfl, rfl, rfl, hh⟩ := hrel
        have HI : Hid (∀ a, a < j → 0 ≤ it a ∧ it a < (nI : Int)) := hh
        clear hh
        by_cases hlt : j < n3
        · obtain ⟨rfl, lt1⟩ := q1 (by omega)
          have ck := HV1.out j hlt
          have hltz : (j : Int) < (n3 : Int) := by omega
          clear q1 q4 q5
          by_cases s1 : it j < 0
          · go_wp2
            go_ret
            exact ⟨false, rfl, rfl, fun h => by cases h⟩
          have s1d : decide (it j < 0) = false := decide_eq_false s1
          by_cases s2 : (nI : Int) ≤ it j
          · go_wp2
            go_ret
            exact ⟨false, rfl, rfl, fun h => by cases h⟩
          have s2d : decide ((nI : Int) ≤ it j) = false := decide_eq_false s2
          go_wp2
          go_roundg (n3 - (j + 1))
          case measure => go_light; omega
          case rel =>
            go_light
            refine ⟨j + 1, by omega, rfl, by go_num, rfl, fun a ha => ?_⟩
            by_cases e : a = j
            · subst e; omega
            · exact HI.out a (by omega)
        · obtain rfl : j = n3 := by omega
          clear hj hlt
          go_wp2
          go_loopg [16, 17, 18] k (fun gg s r t wx => ∃ u : Nat, u ≤ k ∧ gg = k - u ∧ s = .int .i64 u ∧ w = wx ∧ ∀ v, v < u → ∀ i, i < L v → 0 ≤ R v i ∧ R v i < (j : Int))
          case atStart => exact ⟨0, Nat.zero_le _, rfl, rfl, rfl, fun v hv => by omega⟩
          case round =>
            obtain ⟨u, hu, rfl, rfl, rfl, hh⟩ := hrel
            have HRR : Hid (∀ v, v < u → ∀ i, i < L v → 0 ≤ R v i ∧ R v i < (j : Int)) := hh
            clear hh
            by_cases hlt : u < k
            · obtain ⟨rfl, lt4⟩ := q4 (by omega)
              have ck := HV4.out u hlt
              have hltz : (u : Int) < (k : Int) := by omega
              have hLu := HH.out u hlt
              obtain ⟨br, or, qr, vr⟩ := HROW.out u hlt
              have HVR : Hid (∀ i, i < L u → w.cell? ⟨br, or + i, none⟩ = some (.int .i64 (R u i))) := vr
              clear vr q1 q4
              generalize A u = Au at ck qr
              go_wp2
              go_loopg [18] (L u) (fun gg t wx => ∃ i : Nat, i ≤ L u ∧ gg = L u - i ∧ t = .int .i64 i ∧ w = wx ∧ ∀ i', i' < i → 0 ≤ R u i' ∧ R u i' < (j : Int))
              case atStart => exact ⟨0, Nat.zero_le _, rfl, rfl, rfl, fun v hv => by omega⟩
              case round =>
                obtain ⟨i, hi, rfl, rfl, rfl, hh⟩ := hrel
                have HRI : Hid (∀ i', i' < i → 0 ≤ R u i' ∧ R u i' < (j : Int)) := hh
                clear hh
                by_cases hil : i < L u
                · obtain ⟨rfl, ltr⟩ := qr (by omega)
                  have cr := HVR.out i hil
                  have hilz : (i : Int) < (L u : Int) := by omega
                  clear qr ck
                  by_cases s1 : R u i < 0
                  · go_wp2
                    go_ret
                    exact ⟨false, rfl, rfl, fun h => by cases h⟩
                  have s1d : decide (R u i < 0) = false := decide_eq_false s1
                  by_cases s2 : (j : Int) ≤ R u i
                  · go_wp2
                    go_ret
                    exact ⟨false, rfl, rfl, fun h => by cases h⟩
                  have s2d : decide ((j : Int) ≤ R u i) = false := decide_eq_false s2
                  go_wp2
                  go_roundg (L u - (i + 1))
                  case measure => go_light; omega
                  case rel =>
                    go_light
                    refine ⟨i + 1, by omega, rfl, by go_num, rfl, fun a ha => ?_⟩
                    by_cases e : a = i
                    · subst e; omega
                    · exact HRI.out a (by omega)
                · obtain rfl : i = L u := by omega
                  clear ck qr
                  go_wp2
                  go_roundg (k - (u + 1))
                  case measure => go_light; omega
                  case rel =>
                    go_light
                    refine ⟨u + 1, by omega, rfl, by go_num, rfl, fun v hv => ?_⟩
                    by_cases e : v = u
                    · subst e; exact HRI.out
                    · exact HRR.out v (by omega)
            · obtain rfl : u = k := by omega
              clear hu hlt q4 q1
              go_wp2
              go_loopg [19] N (fun gg s wx => ∃ k : Nat, k ≤ N ∧ gg = N - k ∧ s = .int .i64 k ∧ w = wx ∧ ∀ a, a < k → 0 ≤ od a ∧ od a < (u : Int))
              case atStart => exact ⟨0, Nat.zero_le _, rfl, rfl, rfl, fun v hv => by omega⟩
              case round =>
                obtain ⟨i, hi, rfl, rfl, rfl, hh⟩ := hrel
                have HO : Hid (∀ a, a < i → 0 ≤ od a ∧ od a < (u : Int)) := hh
                clear hh
                by_cases hlt : i < N
                · obtain ⟨rfl, lt5⟩ := q5 (by omega)
                  have ck := HV5.out i hlt
                  have hltz : (i : Int) < (N : Int) := by omega
                  clear q5
                  by_cases s1 : od i < 0
                  · go_wp2
                    go_ret
                    exact ⟨false, rfl, rfl, fun h => by cases h⟩
                  have s1d : decide (od i < 0) = false := decide_eq_false s1
                  by_cases s2 : (u : Int) ≤ od i
                  · go_wp2
                    go_ret
                    exact ⟨false, rfl, rfl, fun h => by cases h⟩
                  have s2d : decide ((u : Int) ≤ od i) = false := decide_eq_false s2
                  go_wp2
                  go_roundg (N - (i + 1))
                  case measure => go_light; omega
                  case rel =>
                    go_light
                    refine ⟨i + 1, by omega, rfl, by go_num, rfl, fun a ha => ?_⟩
                    by_cases e : a = i
                    · subst e; omega
                    · exact HO.out a (by omega)
                · obtain rfl : i = N := by omega
                  clear hi hlt q5
                  go_wp2
                  go_ret
                  exact ⟨true, rfl, rfl, fun _ => ⟨rfl, rfl, HH.out, HI.out, HRR.out, HO.out⟩⟩

end Go.Proofs.Qxb6000570a
