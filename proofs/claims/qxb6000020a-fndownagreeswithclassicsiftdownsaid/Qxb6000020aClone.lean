/-
  THE WALKS of the copies of the four slices.
-/
import Derived.Test.Qxb6000020aProg
import Derived.Test.Qxb6000020aBase
import Derived.Lib.SliceRun
namespace Go.Proofs.Qxb6000020a
open Go.RowKit

theorem Try.info2 : (Try.prog.info? 2).map (fun i => (i.zero, i.size, i.bytes)) = some (some (.int .i64 0), 1, 8) := by kernel_rfl
theorem Try.info3 : (Try.prog.info? 3).map (fun i => (i.zero, i.size, i.bytes)) = some (some (.int .i64 0), 1, 8) := by kernel_rfl
theorem Try.info21 : (Try.prog.info? 21).map (fun i => (i.zero, i.size, i.bytes)) = some (some (.int .i32 0), 1, 4) := by kernel_rfl

/-- A slice of numbers that can be read: its first n elements are z 0 .. -/
def Reads (w : World) (k : IntKind) (a : Option Addr) (n : Nat) (z : Nat → Int) : Prop :=
  ∃ b o, (0 < n → a = some ⟨b, o, none⟩ ∧ b < w.heap.size) ∧ ∀ i, i < n → w.cell? ⟨b, o + i, none⟩ = some (.int k (z i))

/-- A slice over a block of the call's own. -/
def Owns (w : World) (B : Nat) (k : IntKind) (t : TypeId) (a : Option Addr) (n : Nat) (z : Nat → Int) : Prop :=
  0 < n → ∃ g, a = some ⟨g, 0, none⟩ ∧ B ≤ g ∧ w.rowIs g t n (fun i => .int k (z i))

/-- What a copy leaves: a slice over a new block (or an empty one); nothing old has turned. -/
def RetOwns (w : World) (k : IntKind) (t : TypeId) (n : Nat) (z : Nat → Int) (e : Ending) (w' : World) : Prop :=
  ∃ a' c', e = .returned (.slice a' n c') ∧ Below w.heap.size w w' ∧ Owns w' w.heap.size k t a' n z

set_option maxHeartbeats 1000000 in
theorem clone19_any (a : Option Addr) (n c : Nat) (z : Nat → Int) (w : World) (hn : n ≤ 4096) (h : Reads w .i64 a n z) (ha : a = none → n = 0 ∧ c = 0) :
    Calls Try.prog 19 #[.slice a n c] w (RetOwns w .i64 2 n z) := by
  obtain ⟨b, o, h1, h2⟩ := h
  have hnl := fun (w : World) => Lib.run_eql_slice_nil (P := Try.prog) w 30 2 a n c 0 0 Try.underlying30
  cases a with
  | none =>
    obtain ⟨rfl, rfl⟩ := ha rfl
    go_enter Try.func19, Try.ntmps19
    go_wp2
    go_ret
    exact ⟨none, 0, rfl, Below.refl _ _, fun h => by omega⟩
  | some x =>
    clear ha
    have hmk := run_make_row' (P := Try.prog) 30 2 (.int .i64 0) 8 Try.underlying30 Try.info2 rfl .i64 .i64 n (by omega) (by omega)
    have hrow0 : (w.alloc (.cells (madeCells #[.int .i64 0] n) 2)).rowIs w.heap.size 2 n (fun i => if i < 0 then .int .i64 (z i) else .int .i64 0) :=
      (World.rowIs_made w _ n 2).congr (fun i _ => by simp)
    go_enter Try.func19, Try.ntmps19
    go_wp2
    go_loopg [4] n (fun g i wr => ∃ k : Nat, k ≤ n ∧ g = n - k ∧ i = .int .i64 k ∧ Below w.heap.size w wr ∧ wr.rowIs w.heap.size 2 n (fun i => if i < k then .int .i64 (z i) else .int .i64 0))
    case atStart => exact ⟨0, Nat.zero_le _, rfl, rfl, (Below.refl _ _).alloc (Nat.le_refl _) _, hrow0⟩
    case round =>
      obtain ⟨k, hk, rfl, rfl, hb, hr⟩ := hrel
      clear hmk hrow0 hnl
      by_cases hlt : k < n
      · obtain ⟨e, hbw⟩ := h1 (by omega)
        obtain rfl := Option.some.inj e
        have c1 : wr.cell? ⟨b, o + k, none⟩ = some (.int .i64 (z k)) := by rw [hb.cell (p := ⟨b, o + k, none⟩) hbw]; exact h2 k hlt
        have c2 : wr.cell? ⟨w.heap.size, k, none⟩ = some (.int .i64 0) := by simpa using hr.cell hlt
        have c3 : wr.frozen? ⟨w.heap.size, k, none⟩ = false := hr.frozen k
        clear h1 h2
        go_wp2
        go_roundg (n - (k + 1))
        case measure => go_light; omega
        case rel =>
          go_light
          refine ⟨k + 1, by omega, rfl, by go_num, hb.setCell (Nat.le_refl _) _, (hr.set k _).congr (fun j hj => ?_)⟩
          by_cases e : j = k
          · subst e; simp
          · rw [if_neg e]
            by_cases hlt : j < k
            · rw [if_pos hlt, if_pos (by omega)]
            · rw [if_neg hlt, if_neg (by omega)]
      · obtain rfl : k = n := by omega
        clear h1 h2
        go_wp2
        go_ret
        exact ⟨_, _, rfl, hb, fun _ => ⟨w.heap.size, rfl, Nat.le_refl _, hr.congr (fun j hj => by rw [if_pos hj])⟩⟩

set_option maxHeartbeats 1000000 in
theorem clone20_any (a : Option Addr) (n c : Nat) (z : Nat → Int) (w : World) (hn : n ≤ 4096) (h : Reads w .i32 a n z) (ha : a = none → n = 0 ∧ c = 0) :
    Calls Try.prog 20 #[.slice a n c] w (RetOwns w .i32 21 n z) := by
  obtain ⟨b, o, h1, h2⟩ := h
  have hnl := fun (w : World) => Lib.run_eql_slice_nil (P := Try.prog) w 31 21 a n c 0 0 Try.underlying31
  cases a with
  | none =>
    obtain ⟨rfl, rfl⟩ := ha rfl
    go_enter Try.func20, Try.ntmps20
    go_wp2
    go_ret
    exact ⟨none, 0, rfl, Below.refl _ _, fun h => by omega⟩
  | some x =>
    clear ha
    have hmk := run_make_row' (P := Try.prog) 31 21 (.int .i32 0) 4 Try.underlying31 Try.info21 rfl .i64 .i64 n (by omega) (by omega)
    have hrow0 : (w.alloc (.cells (madeCells #[.int .i32 0] n) 21)).rowIs w.heap.size 21 n (fun i => if i < 0 then .int .i32 (z i) else .int .i32 0) :=
      (World.rowIs_made w _ n 21).congr (fun i _ => by simp)
    go_enter Try.func20, Try.ntmps20
    go_wp2
    go_loopg [4] n (fun g i wr => ∃ k : Nat, k ≤ n ∧ g = n - k ∧ i = .int .i64 k ∧ Below w.heap.size w wr ∧ wr.rowIs w.heap.size 21 n (fun i => if i < k then .int .i32 (z i) else .int .i32 0))
    case atStart => exact ⟨0, Nat.zero_le _, rfl, rfl, (Below.refl _ _).alloc (Nat.le_refl _) _, hrow0⟩
    case round =>
      obtain ⟨k, hk, rfl, rfl, hb, hr⟩ := hrel
      clear hmk hrow0 hnl
      by_cases hlt : k < n
      · obtain ⟨e, hbw⟩ := h1 (by omega)
        obtain rfl := Option.some.inj e
        have c1 : wr.cell? ⟨b, o + k, none⟩ = some (.int .i32 (z k)) := by rw [hb.cell (p := ⟨b, o + k, none⟩) hbw]; exact h2 k hlt
        have c2 : wr.cell? ⟨w.heap.size, k, none⟩ = some (.int .i32 0) := by simpa using hr.cell hlt
        have c3 : wr.frozen? ⟨w.heap.size, k, none⟩ = false := hr.frozen k
        clear h1 h2
        go_wp2
        go_roundg (n - (k + 1))
        case measure => go_light; omega
        case rel =>
          go_light
          refine ⟨k + 1, by omega, rfl, by go_num, hb.setCell (Nat.le_refl _) _, (hr.set k _).congr (fun j hj => ?_)⟩
          by_cases e : j = k
          · subst e; simp
          · rw [if_neg e]
            by_cases hlt : j < k
            · rw [if_pos hlt, if_pos (by omega)]
            · rw [if_neg hlt, if_neg (by omega)]
      · obtain rfl : k = n := by omega
        clear h1 h2
        go_wp2
        go_ret
        exact ⟨_, _, rfl, hb, fun _ => ⟨w.heap.size, rfl, Nat.le_refl _, hr.congr (fun j hj => by rw [if_pos hj])⟩⟩

set_option maxHeartbeats 1000000 in
theorem clone21_any (a : Option Addr) (n c : Nat) (z : Nat → Int) (w : World) (hn : n ≤ 4096) (h : Reads w .i64 a n z) (ha : a = none → n = 0 ∧ c = 0) :
    Calls Try.prog 21 #[.slice a n c] w (RetOwns w .i64 3 n z) := by
  obtain ⟨b, o, h1, h2⟩ := h
  have hnl := fun (w : World) => Lib.run_eql_slice_nil (P := Try.prog) w 32 3 a n c 0 0 Try.underlying32
  cases a with
  | none =>
    obtain ⟨rfl, rfl⟩ := ha rfl
    go_enter Try.func21, Try.ntmps21
    go_wp2
    go_ret
    exact ⟨none, 0, rfl, Below.refl _ _, fun h => by omega⟩
  | some x =>
    clear ha
    have hmk := run_make_row' (P := Try.prog) 32 3 (.int .i64 0) 8 Try.underlying32 Try.info3 rfl .i64 .i64 n (by omega) (by omega)
    have hrow0 : (w.alloc (.cells (madeCells #[.int .i64 0] n) 3)).rowIs w.heap.size 3 n (fun i => if i < 0 then .int .i64 (z i) else .int .i64 0) :=
      (World.rowIs_made w _ n 3).congr (fun i _ => by simp)
    go_enter Try.func21, Try.ntmps21
    go_wp2
    go_loopg [4] n (fun g i wr => ∃ k : Nat, k ≤ n ∧ g = n - k ∧ i = .int .i64 k ∧ Below w.heap.size w wr ∧ wr.rowIs w.heap.size 3 n (fun i => if i < k then .int .i64 (z i) else .int .i64 0))
    case atStart => exact ⟨0, Nat.zero_le _, rfl, rfl, (Below.refl _ _).alloc (Nat.le_refl _) _, hrow0⟩
    case round =>
      obtain ⟨k, hk, rfl, rfl, hb, hr⟩ := hrel
      clear hmk hrow0 hnl
      by_cases hlt : k < n
      · obtain ⟨e, hbw⟩ := h1 (by omega)
        obtain rfl := Option.some.inj e
        have c1 : wr.cell? ⟨b, o + k, none⟩ = some (.int .i64 (z k)) := by rw [hb.cell (p := ⟨b, o + k, none⟩) hbw]; exact h2 k hlt
        have c2 : wr.cell? ⟨w.heap.size, k, none⟩ = some (.int .i64 0) := by simpa using hr.cell hlt
        have c3 : wr.frozen? ⟨w.heap.size, k, none⟩ = false := hr.frozen k
        clear h1 h2
        go_wp2
        go_roundg (n - (k + 1))
        case measure => go_light; omega
        case rel =>
          go_light
          refine ⟨k + 1, by omega, rfl, by go_num, hb.setCell (Nat.le_refl _) _, (hr.set k _).congr (fun j hj => ?_)⟩
          by_cases e : j = k
          · subst e; simp
          · rw [if_neg e]
            by_cases hlt : j < k
            · rw [if_pos hlt, if_pos (by omega)]
            · rw [if_neg hlt, if_neg (by omega)]
      · obtain rfl : k = n := by omega
        clear h1 h2
        go_wp2
        go_ret
        exact ⟨_, _, rfl, hb, fun _ => ⟨w.heap.size, rfl, Nat.le_refl _, hr.congr (fun j hj => by rw [if_pos hj])⟩⟩

end Go.Proofs.Qxb6000020a
