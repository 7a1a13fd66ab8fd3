/-
  THE WALK of 'kKeyBytes': it only reads.
-/
import Derived.Test.Qxb6000463aIn
namespace Go.Proofs.Qxb6000463a
open Go.RowKit

/-- Some number; nothing old has turned. -/
def RetNum (w : World) (e : Ending) (w' : World) : Prop := ∃ t : Int, e = .returned (.int .i64 t) ∧ Below w.heap.size w w'

set_option maxRecDepth 100000 in
set_option maxHeartbeats 16000000 in
theorem kkb_any (v1 v2 : Value) (k : Kd) (w : World) (hn : k.n ≤ 1048576) (hm : k.m ≤ 1048576) (h : KeyIn w v1 v2 k) :
    Calls Try.prog 39 #[.agg #[v1, v2]] w (RetNum w) := by
  obtain ⟨a, c, a', c', rfl, rfl, ⟨b1, o1, q1, r1⟩, ⟨b2, o2, q2, r2⟩, hsz⟩ := h
  obtain ⟨W, hW⟩ : ∃ W, W = w.alloc (.cells #[.slice a k.n c, .slice a' k.m c'] 59) := ⟨_, rfl⟩
  have bW : Below w.heap.size w W := by rw [hW]; exact (Below.refl _ _).alloc (Nat.le_refl _) _
  have HR1 : Hid (∀ i, i < k.n → w.cell? ⟨b1, o1 + i, none⟩ = some (.string (k.col i))) := r1
  have HR2 : Hid (∀ i, i < k.m → w.cell? ⟨b2, o2 + i, none⟩ = some (.string (k.co i))) := r2
  have f0 : W.cell? ⟨w.heap.size, 0, none⟩ = some (.slice a k.n c) := by rw [hW, World.cell?_alloc_at _ _ _ _ rfl]; rfl
  have f1 : W.cell? ⟨w.heap.size, 1, none⟩ = some (.slice a' k.m c') := by rw [hW, World.cell?_alloc_at _ _ _ _ rfl]; rfl
  have HW : Hid (W = w.alloc (.cells #[.slice a k.n c, .slice a' k.m c'] 59)) := hW
  clear hsz r1 r2 hW
  go_enter Try.func39, Try.ntmps39
  go_upto_region 1 with fail
  rw [← HW.out]
  go_wp2
  go_loopg [3, 4] k.n (fun gg s t wx => ∃ (i : Nat) (x : Int), i ≤ k.n ∧ gg = k.n - i ∧ s = .int .i64 x ∧ t = .int .i64 i ∧ W = wx)
  case atStart => exact ⟨0, _, Nat.zero_le _, rfl, rfl, rfl, rfl⟩
  case round =>
    obtain ⟨i, x, hi, rfl, rfl, rfl, rfl⟩ := hrel
    by_cases hlt : i < k.n
    · obtain ⟨rfl, lb1⟩ := q1 (by omega)
      have hltz : (i : Int) < (k.n : Int) := by omega
      have x0 : W.cell? ⟨b1, o1 + i, none⟩ = some (.string (k.col i)) := by rw [bW.cell (p := ⟨b1, o1 + i, none⟩) lb1]; exact HR1.out i hlt
      clear q1 q2
      by_cases hx : 1048576 < x
      · go_wp2
        go_ret
        exact ⟨_, rfl, bW⟩
      · go_wp2
        go_roundg (k.n - (i + 1))
        case measure => go_light; omega
        case rel =>
          go_light
          exact ⟨i + 1, _, by omega, rfl, rfl, by go_num, rfl⟩
    · obtain rfl : i = k.n := by omega
      clear q1 hlt hi
      go_wp2
      go_loopg [3, 5] k.m (fun gg s t wx => ∃ (i : Nat) (x : Int), i ≤ k.m ∧ gg = k.m - i ∧ s = .int .i64 x ∧ t = .int .i64 i ∧ W = wx)
      case atStart => exact ⟨0, _, Nat.zero_le _, rfl, rfl, rfl, rfl⟩
      case round =>
        obtain ⟨i, x, hi, rfl, rfl, rfl, rfl⟩ := hrel
        by_cases hlt : i < k.m
        · obtain ⟨rfl, lb2⟩ := q2 (by omega)
          have hltz : (i : Int) < (k.m : Int) := by omega
          have x0 : W.cell? ⟨b2, o2 + i, none⟩ = some (.string (k.co i)) := by rw [bW.cell (p := ⟨b2, o2 + i, none⟩) lb2]; exact HR2.out i hlt
          clear q2
          by_cases hx : 1048576 < x
          · go_wp2
            go_ret
            exact ⟨_, rfl, bW⟩
          · go_wp2
            go_roundg (k.m - (i + 1))
            case measure => go_light; omega
            case rel =>
              go_light
              exact ⟨i + 1, _, by omega, rfl, rfl, by go_num, rfl⟩
        · obtain rfl : i = k.m := by omega
          clear q2
          go_wp2
          go_ret
          exact ⟨_, rfl, bW⟩

end Go.Proofs.Qxb6000463a
