/-
  THE WALK of 'ZZNeeds'.
-/
import Derived.Test.Qxb6000405aNeeds
namespace Go.Proofs.Qxb6000405a
open Go.RowKit

theorem Try.info44 : (Try.prog.info? 44).map (fun i => (i.zero, i.size, i.bytes)) = some (some (.agg #[.int .i32 0, .int .i32 0, .int .i32 0, .int .i32 0]), 4, 16) := by kernel_rfl

/-- The cells of a row of reduction nodes. -/
def ncell (z : Nat → Int) (j : Nat) : Value := if j % 4 = 0 then .int .i32 (z (j / 4)) else .int .i32 0
def NRow (w : World) (g n : Nat) (z : Nat → Int) : Prop := w.rowIs g 44 (n * 4) (ncell z)

theorem NRow_made (w : World) (n : Nat) : NRow (w.alloc (.cells (madeCells (Value.agg #[.int .i32 0, .int .i32 0, .int .i32 0, .int .i32 0]).cells (n * 4)) 44)) w.heap.size n (fun _ => 0) := by
  refine ⟨_, Go.Deep.blk_alloc_new _ _, size_madeCells _ _, fun i hi => ?_⟩
  have hm : i % 4 = 0 ∨ i % 4 = 1 ∨ i % 4 = 2 ∨ i % 4 = 3 := by omega
  simp only [madeCells, Value.cells]
  rcases hm with h | h | h | h <;> simp [hi, h, ncell]

theorem NRow.put {w : World} {g n : Nat} {z : Nat → Int} (h : NRow w g n z) (i : Nat) (v : Int) :
    NRow ((((w.setCell ⟨g, i * 4, none⟩ (.int .i32 v)).setCell ⟨g, i * 4 + 1, none⟩ (.int .i32 0)).setCell ⟨g, i * 4 + 2, none⟩ (.int .i32 0)).setCell ⟨g, i * 4 + 3, none⟩ (.int .i32 0)) g n (upd z i v) := by
  refine World.rowIs.congr ((((World.rowIs.set h _ _).set _ _).set _ _).set _ _) fun j hj => ?_
  unfold ncell
  by_cases e : j / 4 = i
  · have hm : j = i * 4 ∨ j = i * 4 + 1 ∨ j = i * 4 + 2 ∨ j = i * 4 + 3 := by omega
    rcases hm with rfl | rfl | rfl | rfl
    · rw [if_neg (by omega), if_neg (by omega), if_neg (by omega), if_pos rfl, if_pos (by omega), e, upd_same]
    · rw [if_neg (by omega), if_neg (by omega), if_pos rfl, if_neg (by omega)]
    · rw [if_neg (by omega), if_pos rfl, if_neg (by omega)]
    · rw [if_pos rfl, if_neg (by omega)]
  · rw [if_neg (by omega), if_neg (by omega), if_neg (by omega), if_neg (by omega), upd_other _ _ _ e]

theorem NRow.congr {w : World} {g n : Nat} {z z' : Nat → Int} (h : NRow w g n z) (e : ∀ i, i < n → z i = z' i) : NRow w g n z' :=
  World.rowIs.congr h fun j hj => by unfold ncell; rw [e (j / 4) (by omega)]

theorem NRow.cells {w : World} {g n : Nat} {z : Nat → Int} (h : NRow w g n z) {i : Nat} (hi : i < n) :
    w.cell? ⟨g, i * 4, none⟩ = some (.int .i32 (z i)) ∧ w.cell? ⟨g, i * 4 + 1, none⟩ = some (.int .i32 0) ∧ w.cell? ⟨g, i * 4 + 2, none⟩ = some (.int .i32 0) ∧ w.cell? ⟨g, i * 4 + 3, none⟩ = some (.int .i32 0) := by
  refine ⟨?_, ?_, ?_, ?_⟩
  · rw [World.rowIs.cell h (by omega)]; unfold ncell; rw [if_pos (by omega), show i * 4 / 4 = i from by omega]
  · rw [World.rowIs.cell h (by omega)]; unfold ncell; rw [if_neg (by omega)]
  · rw [World.rowIs.cell h (by omega)]; unfold ncell; rw [if_neg (by omega)]
  · rw [World.rowIs.cell h (by omega)]; unfold ncell; rw [if_neg (by omega)]

set_option maxHeartbeats 8000000 in
theorem zzneeds_any (a0 a1 a2 a3 a4 : Option Addr) (n n4 c0 c1 c2 c3 c4 : Nat) (z0 z1 z2 z3 z4 : Nat → Int) (w : World) (hn : n ≤ 4096)
    (h0 : Reads w a0 n (fun i => .int .i32 (z0 i))) (h1 : Reads w a1 n (fun i => .int .i32 (z1 i))) (h2 : Reads w a2 n (fun i => .int .i32 (z2 i))) (h3 : Reads w a3 n (fun i => .int .i32 (z3 i))) (h4 : Reads w a4 n4 (fun i => .int .i32 (z4 i)))
    (hw : WF n z2) (hp : ∀ i, i < n → z0 i < (n4 : Int)) (hm : ∀ i, i < n4 → z4 i < 32) :
    Calls Try.prog 17 #[.slice a0 n c0, .slice a1 n c1, .slice a2 n c2, .slice a3 n c3, .slice a4 n4 c4] w (RetNeeds w n (mk3 z0 z1 z2) z3 z4) := by
  have hmk := run_make_wide (P := Try.prog) 42 44 _ 4 16 Try.underlying42 Try.info44 n (by omega) (by omega)
  have hrow0 := NRow_made w n
  obtain ⟨b3, o3, p3, r3⟩ := h3
  go_enter Try.func17, Try.ntmps17
  go_wp2
  go_loopg [20] n (fun gg s wx => ∃ k : Nat, k ≤ n ∧ gg = n - k ∧ s = .int .i64 k ∧ Below w.heap.size w wx ∧ NRow wx w.heap.size n (fun i => if i < k then z3 i else 0))
  case atStart => exact ⟨0, Nat.zero_le _, rfl, rfl, (Below.refl _ _).alloc (Nat.le_refl _) _, hrow0.congr (fun i _ => by simp)⟩
  case round =>
    obtain ⟨k, hk, rfl, rfl, hb, hr⟩ := hrel
    clear hmk hrow0
    by_cases hlt : k < n
    · obtain ⟨rfl, hb3⟩ := p3 (by omega)
      have hltz : (k : Int) < (n : Int) := by omega
      have e3 : wr.cell? ⟨b3, o3 + k, none⟩ = some (.int .i32 (z3 k)) := by rw [hb.cell (p := ⟨b3, o3 + k, none⟩) hb3]; exact r3 k hlt
      obtain ⟨t0, t1, t2, t3⟩ := hr.cells hlt
      have f0 := World.rowIs.frozen hr (k * 4)
      have f1 := World.rowIs.frozen hr (k * 4 + 1)
      have f2 := World.rowIs.frozen hr (k * 4 + 2)
      have f3 := World.rowIs.frozen hr (k * 4 + 3)
      clear p3 r3 h0 h1 h2 h4
      go_wp2
      go_roundg (n - (k + 1))
      case measure => go_light; omega
      case rel =>
        go_light
        refine ⟨k + 1, by omega, rfl, by go_num, (((hb.setCell (Nat.le_refl _) _).setCell (Nat.le_refl _) _).setCell (Nat.le_refl _) _).setCell (Nat.le_refl _) _, NRow.congr (NRow.put hr k (z3 k)) (fun j hj => ?_)⟩
        by_cases e : j = k
        · subst e; rw [upd_same, if_pos (by omega)]
        · rw [upd_other _ _ _ e]
          by_cases hlt : j < k
          · rw [if_pos hlt, if_pos (by omega)]
          · rw [if_neg hlt, if_neg (by omega)]
    · obtain rfl : k = n := by omega
      have hN : NRow wr w.heap.size k z3 := hr.congr (fun j hj => by rw [if_pos hj])
      clear hr p3 r3
      have BW : ∀ o1 o2, Below w.heap.size w ((wr.alloc o1).alloc o2) := fun o1 o2 => (hb.alloc hb.size _).alloc (by simp; have := hb.size; omega) _
      have BR : ∀ o1 o2, Below wr.heap.size wr ((wr.alloc o1).alloc o2) := fun o1 o2 => ((Below.refl _ _).alloc (Nat.le_refl _) _).alloc (by simp) _
      have HRED : Red ((wr.alloc (.cells #[.int .i32 0] 21)).alloc (.cells #[.slice none 0 0, .slice none 0 0, .slice none 0 0, .slice (some ⟨wr.heap.size, 0, none⟩) 1 1, .slice (some ⟨w.heap.size, 0, none⟩) k k, .slice none 0 0, .slice none 0 0, .bool false, .slice none 0 0, .slice none 0 0] 49))
          (wr.heap.size + 1) wr.heap.size w.heap.size k z3 :=
        ⟨by simp [go_sem], by simp [go_sem], by simp [go_sem], fun i hi => (World.rowIs.cell (rowIs_below hN (BR _ _)) (show i * 4 < k * 4 by omega)).trans (by unfold ncell; rw [if_pos (by omega), show i * 4 / 4 = i from by omega]), (rowIs_below hN (BR _ _)).lt⟩
      have HB1 := BW (.cells #[.int .i32 0] 21) (.cells #[.slice none 0 0, .slice none 0 0, .slice none 0 0, .slice (some ⟨wr.heap.size, 0, none⟩) 1 1, .slice (some ⟨w.heap.size, 0, none⟩) k k, .slice none 0 0, .slice none 0 0, .bool false, .slice none 0 0, .slice none 0 0] 49)
      clear BW BR hN
      go_wp2_with fail
      generalize ((wr.alloc (.cells #[.int .i32 0] 21)).alloc (.cells #[.slice none 0 0, .slice none 0 0, .slice none 0 0, .slice (some ⟨wr.heap.size, 0, none⟩) 1 1, .slice (some ⟨w.heap.size, 0, none⟩) k k, .slice none 0 0, .slice none 0 0, .bool false, .slice none 0 0, .slice none 0 0] 49)) = W1 at *
      refine (cond_any a0 a1 a2 k c0 c1 c2 z0 z1 z2 W1 hn (h0.below HB1) (h1.below HB1) (h2.below HB1)).mono ?_
      rintro e w2 ⟨rfl, b2, hC⟩
      have HR2 := HRED.below b2
      have HB2 : Below w.heap.size w w2 := HB1.trans (b2.mono HB1.size)
      have h42 := h4.below HB2
      clear HRED HB1 b2 h0 h1 h2 h4 hb
      generalize W1.heap.size = G at *
      generalize wr.heap.size = Bs at *
      have B3 : Below w2.heap.size w2 ((w2.alloc (.cells #[.slice (some ⟨G, 0, none⟩) k k] 39)).alloc (.cells #[.pointer (some ⟨Bs + 1, 0, none⟩), .slice (some ⟨w2.heap.size, 0, none⟩) 1 1, .slice none 0 0, .slice a4 n4 c4] 52)) :=
        ((Below.refl _ _).alloc (Nat.le_refl _) _).alloc (by simp) _
      have HSR : Srch ((w2.alloc (.cells #[.slice (some ⟨G, 0, none⟩) k k] 39)).alloc (.cells #[.pointer (some ⟨Bs + 1, 0, none⟩), .slice (some ⟨w2.heap.size, 0, none⟩) 1 1, .slice none 0 0, .slice a4 n4 c4] 52))
          (w2.heap.size + 1) (Bs + 1) w2.heap.size Bs w.heap.size G k n4 c4 a4 (mk3 z0 z1 z2) z3 z4 :=
        ⟨by simp [go_sem], by simp [go_sem], by simp [go_sem], by simp [go_sem], hC.below B3, HR2.below B3, h42.below B3⟩
      have B4 := HB2.trans (B3.mono HB2.size)
      go_wp2_with fail
      refine (needs_any _ _ _ _ _ _ k n4 c4 a4 (mk3 z0 z1 z2) z3 z4 _ hn HSR hw hp hm).mono ?_
      rintro e w5 ⟨f, hf, rfl, b5⟩
      clear HSR HR2 hC h42 B3
      go_wp2
      go_ret2
      exact ⟨f, hf, rfl, B4.trans (b5.mono B4.size)⟩

end Go.Proofs.Qxb6000405a
