/-
  THE WALKS of 'zzCondOf', '(condition).needed' and 'ZZNeeded'.
-/
import Derived.Test.Qxb6000405aWF
namespace Go.Proofs.Qxb6000405a
open Go.RowKit

theorem Try.info55 : (Try.prog.info? 55).map (fun i => (i.zero, i.size, i.bytes)) = some (some (.agg #[.int .i32 0, .int .i32 0, .int .i32 0]), 3, 12) := by kernel_rfl

/-- A node: process, need, parent. -/
structure C3 where
  p : Int
  d : Int
  u : Int

/-- The cells of a row of nodes. -/
def ccell (q : Nat → C3) (j : Nat) : Value :=
  if j % 3 = 0 then .int .i32 (q (j / 3)).p else if j % 3 = 1 then .int .i32 (q (j / 3)).d else .int .i32 (q (j / 3)).u

/-- A node lies in memory. -/
structure CAt (w : World) (b o : Nat) (a : C3) : Prop where
  c0 : w.cell? ⟨b, o, none⟩ = some (.int .i32 a.p)
  c1 : w.cell? ⟨b, o + 1, none⟩ = some (.int .i32 a.d)
  c2 : w.cell? ⟨b, o + 2, none⟩ = some (.int .i32 a.u)

/-- Block g is a row of n nodes. -/
def CRow (w : World) (g n : Nat) (q : Nat → C3) : Prop := w.rowIs g 55 (n * 3) (ccell q)

theorem ccell0 (q : Nat → C3) (i : Nat) : ccell q (i * 3) = .int .i32 (q i).p := by
  unfold ccell; rw [if_pos (by omega), show i * 3 / 3 = i from by omega]
theorem ccell1 (q : Nat → C3) (i : Nat) : ccell q (i * 3 + 1) = .int .i32 (q i).d := by
  unfold ccell; rw [if_neg (by omega), if_pos (by omega), show (i * 3 + 1) / 3 = i from by omega]
theorem ccell2 (q : Nat → C3) (i : Nat) : ccell q (i * 3 + 2) = .int .i32 (q i).u := by
  unfold ccell; rw [if_neg (by omega), if_neg (by omega), show (i * 3 + 2) / 3 = i from by omega]

section
variable {w : World} {g n : Nat} {q : Nat → C3}
theorem CRow.cat (h : CRow w g n q) {i : Nat} (hi : i < n) : CAt w g (i * 3) (q i) :=
  ⟨by rw [World.rowIs.cell h (by omega), ccell0], by rw [World.rowIs.cell h (by omega), ccell1], by rw [World.rowIs.cell h (by omega), ccell2]⟩
theorem CRow.frozen (h : CRow w g n q) (i : Nat) : w.frozen? ⟨g, i, none⟩ = false := World.rowIs.frozen h i
theorem CRow.lt (h : CRow w g n q) : g < w.heap.size := World.rowIs.lt h
theorem CRow.below {w' : World} (h : CRow w g n q) (hb : Below w.heap.size w w') : CRow w' g n q := rowIs_below h hb
theorem CRow.drew (h : CRow w g n q) : CRow w.drew g n q := h
theorem CRow.congr {q' : Nat → C3} (h : CRow w g n q) (e : ∀ i, i < n → q i = q' i) : CRow w g n q' :=
  World.rowIs.congr h fun j hj => by unfold ccell; rw [e (j / 3) (by omega)]

def zero3 : C3 := ⟨0, 0, 0⟩

theorem CRow_made (w : World) (n : Nat) : CRow (w.alloc (.cells (madeCells (Value.agg #[.int .i32 0, .int .i32 0, .int .i32 0]).cells (n * 3)) 55)) w.heap.size n (fun _ => zero3) := by
  refine ⟨_, Go.Deep.blk_alloc_new _ _, size_madeCells _ _, fun i hi => ?_⟩
  have hm : i % 3 = 0 ∨ i % 3 = 1 ∨ i % 3 = 2 := by omega
  simp only [madeCells, Value.cells]
  rcases hm with h | h | h <;> simp [hi, h, ccell, zero3]

theorem CRow.put (h : CRow w g n q) (i : Nat) (v : C3) :
    CRow (((w.setCell ⟨g, i * 3, none⟩ (.int .i32 v.p)).setCell ⟨g, i * 3 + 1, none⟩ (.int .i32 v.d)).setCell ⟨g, i * 3 + 2, none⟩ (.int .i32 v.u)) g n (upd q i v) := by
  refine World.rowIs.congr (((World.rowIs.set h _ _).set _ _).set _ _) fun j hj => ?_
  by_cases e : j / 3 = i
  · have hm : j = i * 3 ∨ j = i * 3 + 1 ∨ j = i * 3 + 2 := by omega
    rcases hm with rfl | rfl | rfl
    · rw [ccell0 (upd q i v), upd_same, if_neg (by omega), if_neg (by omega), if_pos rfl]
    · rw [ccell1 (upd q i v), upd_same, if_neg (by omega), if_pos rfl]
    · rw [ccell2 (upd q i v), upd_same, if_pos rfl]
  · rw [if_neg (by omega), if_neg (by omega), if_neg (by omega)]
    unfold ccell
    rw [upd_other _ _ _ e]
end

def mk3 (z0 z1 z2 : Nat → Int) (i : Nat) : C3 := ⟨z0 i, z1 i, z2 i⟩

/-- What 'zzCondOf' leaves. -/
def RetCond (w : World) (n : Nat) (q : Nat → C3) (e : Ending) (w' : World) : Prop :=
  e = .returned (.slice (some ⟨w.heap.size, 0, none⟩) n n) ∧ Below w.heap.size w w' ∧ CRow w' w.heap.size n q

set_option maxHeartbeats 2000000 in
theorem cond_any (a0 a1 a2 : Option Addr) (n c0 c1 c2 : Nat) (z0 z1 z2 : Nat → Int) (w : World) (hn : n ≤ 4096)
    (h0 : Reads w a0 n (fun i => .int .i32 (z0 i))) (h1 : Reads w a1 n (fun i => .int .i32 (z1 i))) (h2 : Reads w a2 n (fun i => .int .i32 (z2 i))) :
    Calls Try.prog 23 #[.slice a0 n c0, .slice a1 n c1, .slice a2 n c2] w (RetCond w n (mk3 z0 z1 z2)) := by
  obtain ⟨b0, o0, p0, r0⟩ := h0
  obtain ⟨b1, o1, p1, r1⟩ := h1
  obtain ⟨b2, o2, p2, r2⟩ := h2
  have hmk := run_make_wide (P := Try.prog) 39 55 _ 3 12 Try.underlying39 Try.info55 n (by omega) (by omega)
  have hrow0 := CRow_made w n
  go_enter Try.func23, Try.ntmps23
  go_wp2
  go_loopg [14] n (fun g i wr => ∃ k : Nat, k ≤ n ∧ g = n - k ∧ i = .int .i64 k ∧ Below w.heap.size w wr ∧ CRow wr w.heap.size n (fun i => if i < k then mk3 z0 z1 z2 i else zero3))
  case atStart => exact ⟨0, Nat.zero_le _, rfl, rfl, (Below.refl _ _).alloc (Nat.le_refl _) _, hrow0.congr (fun i _ => by simp)⟩
  case round =>
    obtain ⟨k, hk, rfl, rfl, hb, hr⟩ := hrel
    clear hmk hrow0
    by_cases hlt : k < n
    · obtain ⟨rfl, hb0⟩ := p0 (by omega)
      obtain ⟨rfl, hb1⟩ := p1 (by omega)
      obtain ⟨rfl, hb2⟩ := p2 (by omega)
      have hltz : (k : Int) < (n : Int) := by omega
      have e0 : wr.cell? ⟨b0, o0 + k, none⟩ = some (.int .i32 (z0 k)) := by rw [hb.cell (p := ⟨b0, o0 + k, none⟩) hb0]; exact r0 k hlt
      have e1 : wr.cell? ⟨b1, o1 + k, none⟩ = some (.int .i32 (z1 k)) := by rw [hb.cell (p := ⟨b1, o1 + k, none⟩) hb1]; exact r1 k hlt
      have e2 : wr.cell? ⟨b2, o2 + k, none⟩ = some (.int .i32 (z2 k)) := by rw [hb.cell (p := ⟨b2, o2 + k, none⟩) hb2]; exact r2 k hlt
      obtain ⟨t0, t1, t2⟩ := hr.cat hlt
      have f0 := hr.frozen (k * 3)
      have f1 := hr.frozen (k * 3 + 1)
      have f2 := hr.frozen (k * 3 + 2)
      clear p0 p1 p2 r0 r1 r2
      go_wp2
      go_region
      go_wp2
      go_roundg (n - (k + 1))
      case measure => go_light; omega
      case rel =>
        go_light
        refine ⟨k + 1, by omega, rfl, by go_num, (((hb.setCell (Nat.le_refl _) _).setCell (Nat.le_refl _) _).setCell (Nat.le_refl _) _).drew, CRow.congr (CRow.drew (hr.put k (mk3 z0 z1 z2 k))) (fun j hj => ?_)⟩
        by_cases e : j = k
        · subst e; rw [upd_same, if_pos (by omega)]
        · rw [upd_other _ _ _ e]
          by_cases hlt : j < k
          · rw [if_pos hlt, if_pos (by omega)]
          · rw [if_neg hlt, if_neg (by omega)]
    · obtain rfl : k = n := by omega
      clear p0 p1 p2 r0 r1 r2
      go_wp2
      go_ret
      exact ⟨rfl, hb, hr.congr (fun j hj => by rw [if_pos hj])⟩

end Go.Proofs.Qxb6000405a
