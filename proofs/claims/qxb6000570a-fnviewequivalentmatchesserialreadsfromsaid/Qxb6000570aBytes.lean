/-
  THE WALK of the bound on lengths.
-/
import Derived.Test.Qxb6000570aShape
namespace Go.Proofs.Qxb6000570a
open Go.RowKit

set_option maxRecDepth 100000 in
set_option maxHeartbeats 16000000 in
theorem bytes34_any (a1 a2 a3 a4 a5 : Option Addr) (m n2 n3 T N c1 c2 c3 c4 c5 : Nat) (nI : Int) (A : Nat → Option Addr) (L C : Nat → Nat) (w : World) (h4 : Reads w a4 T (fun u => .slice (A u) (L u) (C u))) :
    Calls Try.prog 34 #[.int .i64 nI, .slice a1 m c1, .slice a2 n2 c2, .slice a3 n3 c3, .slice a4 T c4, .slice a5 N c5] w (RetSome w) := by
  obtain ⟨b4, o4, q4, v4⟩ := h4
  by_cases hT : (1048576 : Int) < (T : Int)
  · clear v4 q4
    go_enter Try.func34, Try.ntmps34
    go_wp2
    all_goals
      go_ret
      exact ⟨_, rfl, rfl⟩
  have HV4 : Hid (∀ i, i < T → w.cell? ⟨b4, o4 + i, none⟩ = some (.slice (A i) (L i) (C i))) := v4
  clear v4
  by_cases hS : (m : Int) + (n2 : Int) + (n3 : Int) + (T : Int) ≤ 1048576
  rotate_left
  · clear q4 HV4
    go_enter Try.func34, Try.ntmps34
    go_upto_region 23 with fail
    all_goals first
      | (go_ret; exact ⟨_, rfl, rfl⟩)
      | (exfalso; omega)
  have d1 : decide ((1048576 : Int) < (m : Int)) = false := decide_eq_false (by omega)
  have d2 : decide ((1048576 : Int) < (n2 : Int)) = false := decide_eq_false (by omega)
  have d3 : decide ((1048576 : Int) < (n3 : Int)) = false := decide_eq_false (by omega)
  have d4 : decide ((1048576 : Int) < (T : Int)) = false := decide_eq_false (by omega)
  have d5 : decide ((1048576 : Int) < (m : Int) + (n2 : Int)) = false := decide_eq_false (by omega)
  have d6 : decide ((1048576 : Int) < (m : Int) + (n2 : Int) + (n3 : Int)) = false := decide_eq_false (by omega)
  have d7 : decide ((1048576 : Int) < (m : Int) + (n2 : Int) + (n3 : Int) + (T : Int)) = false := decide_eq_false (by omega)
  go_enter Try.func34, Try.ntmps34
  go_wp2
  clear d1 d2 d3 d4 d5 d6 d7
  go_loopg [13, 14] T (fun gg t s wx => ∃ (k : Nat) (x : Int), k ≤ T ∧ gg = T - k ∧ t = .int .i64 x ∧ s = .int .i64 k ∧ w = wx)
  case atStart => exact ⟨0, _, Nat.zero_le _, rfl, rfl, rfl, rfl⟩
  case round =>
    obtain ⟨k, x, hk, rfl, rfl, rfl, rfl⟩ := hrel
    by_cases hlt : k < T
    · obtain ⟨rfl, lt4⟩ := q4 (by omega)
      have ck : w.cell? ⟨b4, o4 + k, none⟩ = some (.slice (A k) (L k) (C k)) := HV4.out k hlt
      have hltz : (k : Int) < (T : Int) := by omega
      clear q4
      go_wp2
      · go_ret
        exact ⟨_, rfl, rfl⟩
      · go_ret
        exact ⟨_, rfl, rfl⟩
      · go_roundg (T - (k + 1))
        case measure => go_light; omega
        case rel =>
          go_light
          exact ⟨k + 1, _, by omega, rfl, rfl, by go_num, rfl⟩
    · obtain rfl : k = T := by omega
      clear q4
      go_wp2
      all_goals
        go_ret
        exact ⟨_, rfl, rfl⟩

end Go.Proofs.Qxb6000570a
