/-
  THE WALKS of the copies; of 'zzWellFormed' and 'zzChildCounts'.
-/
import Derived.Test.Qxb6000405aProg
import Derived.Test.Qxb6000405aBase
import Derived.Lib.SliceRun
namespace Go.Proofs.Qxb6000405a
open Go.RowKit

theorem Try.info4 : (Try.prog.info? 4).map (fun i => (i.zero, i.size, i.bytes)) = some (some (.bool false), 1, 1) := by kernel_rfl
theorem Try.info21 : (Try.prog.info? 21).map (fun i => (i.zero, i.size, i.bytes)) = some (some (.int .i32 0), 1, 4) := by kernel_rfl

set_option maxHeartbeats 1000000 in
theorem clone10_any (a : Option Addr) (n c : Nat) (z : Nat → Int) (w : World) (hn : n ≤ 4096) (h : Reads w a n (fun i => .int .i32 (z i))) (ha : a = none → n = 0 ∧ c = 0) :
    Calls Try.prog 10 #[.slice a n c] w (RetReads w n (fun i => .int .i32 (z i))) := by
  obtain ⟨b, o, h1, h2⟩ := h
  have hnl := fun (w : World) => Lib.run_eql_slice_nil (P := Try.prog) w 22 21 a n c 0 0 Try.underlying22
  cases a with
  | none =>
    obtain ⟨rfl, rfl⟩ := ha rfl
    go_enter Try.func10, Try.ntmps10
    go_wp2
    go_ret
    exact ⟨none, 0, rfl, Below.refl _ _, ⟨0, 0, fun h => by omega, fun i hi => by omega⟩⟩
  | some x =>
    clear ha
    have hmk := run_make_row' (P := Try.prog) 22 21 (.int .i32 0) 4 Try.underlying22 Try.info21 rfl .i64 .i64 n (by omega) (by omega)
    have hrow0 : (w.alloc (.cells (madeCells #[.int .i32 0] n) 21)).rowIs w.heap.size 21 n (fun i => if i < 0 then .int .i32 (z i) else .int .i32 0) :=
      (World.rowIs_made w _ n 21).congr (fun i _ => by simp)
    go_enter Try.func10, Try.ntmps10
    go_wp2
    go_loopg [12] n (fun g i wr => ∃ k : Nat, k ≤ n ∧ g = n - k ∧ i = .int .i64 k ∧ Below w.heap.size w wr ∧ wr.rowIs w.heap.size 21 n (fun i => if i < k then .int .i32 (z i) else .int .i32 0))
    case atStart => exact ⟨0, Nat.zero_le _, rfl, rfl, (Below.refl _ _).alloc (Nat.le_refl _) _, hrow0⟩
    case round =>
      obtain ⟨k, hk, rfl, rfl, hb, hr⟩ := hrel
      clear hmk hrow0 hnl
      by_cases hlt : k < n
      · obtain ⟨e, hbw⟩ := h1 (by omega)
        obtain rfl := Option.some.inj e
        have c1 : wr.cell? ⟨b, o + k, none⟩ = some (.int .i32 (z k)) := by rw [hb.cell (p := ⟨b, o + k, none⟩) hbw]; exact h2 k hlt
        have c2 : wr.cell? ⟨w.heap.size, k, none⟩ = some (.int .i32 0) := by simpa using hr.cell hlt
        have c3 : wr.frozen? ⟨w.heap.size, k, none⟩ = false := hr.frozen k
        clear h1 h2
        go_wp2
        go_roundg (n - (k + 1))
        case measure => go_light; omega
        case rel =>
          go_light
          refine ⟨k + 1, by omega, rfl, by go_num, hb.setCell (Nat.le_refl _) _, (hr.set k _).congr (fun j hj => ?_)⟩
          by_cases e : j = k
          · subst e; simp
          · rw [if_neg e]
            by_cases hlt : j < k
            · rw [if_pos hlt, if_pos (by omega)]
            · rw [if_neg hlt, if_neg (by omega)]
      · obtain rfl : k = n := by omega
        clear h1 h2
        go_wp2
        go_ret
        exact ⟨_, _, rfl, hb, Reads.of_row (hr.congr (fun j hj => by rw [if_pos hj]))⟩

set_option maxHeartbeats 1000000 in
theorem clone14_any (a : Option Addr) (n c : Nat) (z : Nat → Bool) (w : World) (hn : n ≤ 4096) (h : Reads w a n (fun i => .bool (z i))) (ha : a = none → n = 0 ∧ c = 0) :
    Calls Try.prog 14 #[.slice a n c] w (RetReads w n (fun i => .bool (z i))) := by
  obtain ⟨b, o, h1, h2⟩ := h
  have hnl := fun (w : World) => Lib.run_eql_slice_nil (P := Try.prog) w 25 4 a n c 0 0 Try.underlying25
  cases a with
  | none =>
    obtain ⟨rfl, rfl⟩ := ha rfl
    go_enter Try.func14, Try.ntmps14
    go_wp2
    go_ret
    exact ⟨none, 0, rfl, Below.refl _ _, ⟨0, 0, fun h => by omega, fun i hi => by omega⟩⟩
  | some x =>
    clear ha
    have hmk := run_make_row' (P := Try.prog) 25 4 (.bool false) 1 Try.underlying25 Try.info4 rfl .i64 .i64 n (by omega) (by omega)
    have hrow0 : (w.alloc (.cells (madeCells #[.bool false] n) 4)).rowIs w.heap.size 4 n (fun i => if i < 0 then .bool (z i) else .bool false) :=
      (World.rowIs_made w _ n 4).congr (fun i _ => by simp)
    go_enter Try.func14, Try.ntmps14
    go_wp2
    go_loopg [12] n (fun g i wr => ∃ k : Nat, k ≤ n ∧ g = n - k ∧ i = .int .i64 k ∧ Below w.heap.size w wr ∧ wr.rowIs w.heap.size 4 n (fun i => if i < k then .bool (z i) else .bool false))
    case atStart => exact ⟨0, Nat.zero_le _, rfl, rfl, (Below.refl _ _).alloc (Nat.le_refl _) _, hrow0⟩
    case round =>
      obtain ⟨k, hk, rfl, rfl, hb, hr⟩ := hrel
      clear hmk hrow0 hnl
      by_cases hlt : k < n
      · obtain ⟨e, hbw⟩ := h1 (by omega)
        obtain rfl := Option.some.inj e
        have c1 : wr.cell? ⟨b, o + k, none⟩ = some (.bool (z k)) := by rw [hb.cell (p := ⟨b, o + k, none⟩) hbw]; exact h2 k hlt
        have c2 : wr.cell? ⟨w.heap.size, k, none⟩ = some (.bool false) := by simpa using hr.cell hlt
        have c3 : wr.frozen? ⟨w.heap.size, k, none⟩ = false := hr.frozen k
        clear h1 h2
        go_wp2
        go_roundg (n - (k + 1))
        case measure => go_light; omega
        case rel =>
          go_light
          refine ⟨k + 1, by omega, rfl, by go_num, hb.setCell (Nat.le_refl _) _, (hr.set k _).congr (fun j hj => ?_)⟩
          by_cases e : j = k
          · subst e; simp
          · rw [if_neg e]
            by_cases hlt : j < k
            · rw [if_pos hlt, if_pos (by omega)]
            · rw [if_neg hlt, if_neg (by omega)]
      · obtain rfl : k = n := by omega
        clear h1 h2
        go_wp2
        go_ret
        exact ⟨_, _, rfl, hb, Reads.of_row (hr.congr (fun j hj => by rw [if_pos hj]))⟩

end Go.Proofs.Qxb6000405a
