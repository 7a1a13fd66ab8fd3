/-
  THE WALK of 'ZZViewEquivalent'.
-/
import Derived.Test.Qxb6000570aZA
namespace Go.Proofs.Qxb6000570a
open Go.RowKit

theorem ARow.drew {w : World} {g n : Nat} {q : Nat → A3} (h : ARow w g n q) : ARow w.drew g n q := h

set_option maxRecDepth 100000 in
set_option maxHeartbeats 16000000 in
theorem zv_any (g : G) (nI m T N c1 c2 c3 c4 c5 : Nat) (a1 a2 a3 a4 a5 : Option Addr) (A : Nat → Option Addr) (C : Nat → Nat) (w : World) (hR : InR g nI m T N)
    (h1 : Reads w a1 m (fun i => .int .i64 (g.it i : Nat))) (h2 : Reads w a2 m (fun i => .int .i64 (g.fw i))) (h3 : Reads w a3 m (fun i => .int .i64 (g.fr i)))
    (h4 : Adj w a4 T A g.L C (fun u i => (g.R u i : Nat))) (h5 : Reads w a5 N (fun k => .int .i64 (g.od k : Nat))) :
    Calls Try.prog 33 #[.int .i64 nI, .slice a1 m c1, .slice a2 m c2, .slice a3 m c3, .slice a4 T c4, .slice a5 N c5] w (RetView w g N) := by
  have lI := hR.lI
  have lm := hR.lm
  obtain ⟨b1, o1, q1, v1⟩ := h1
  obtain ⟨b2, o2, q2, v2⟩ := h2
  obtain ⟨b3, o3, q3, v3⟩ := h3
  have hmk := run_make_wide (P := Try.prog) 50 69 _ 7 56 Try.underlying50 Try.info69 m (by omega) (by omega)
  have hmi := run_make_wide (P := Try.prog) 49 100 _ 3 64 Try.underlying49 Try.info100 nI (by omega) (by omega)
  have hrow0 := ARow_made w m
  have H4 : Hid (Adj w a4 T A g.L C (fun u i => (g.R u i : Nat))) := h4
  have H5 : Hid (Reads w a5 N (fun k => .int .i64 (g.od k : Nat))) := h5
  have HR : Hid (InR g nI m T N) := hR
  clear h4 h5 hR
  go_enter Try.func33, Try.ntmps33
  go_wp2
  go_loopg [14] m (fun gg s wr => ∃ k : Nat, k ≤ m ∧ gg = m - k ∧ s = .int .i64 k ∧ Below w.heap.size w wr ∧ ARow wr w.heap.size m (fun i => if i < k then mkA g i else zeroA))
  case atStart => exact ⟨0, Nat.zero_le _, rfl, rfl, (Below.refl _ _).alloc (Nat.le_refl _) _, hrow0.congr (fun i _ => by simp)⟩
  case round =>
    obtain ⟨k, hk, rfl, rfl, hb, hr⟩ := hrel
    clear hmk hrow0
    by_cases hlt : k < m
    · obtain ⟨rfl, l1⟩ := q1 (by omega)
      obtain ⟨rfl, l2⟩ := q2 (by omega)
      obtain ⟨rfl, l3⟩ := q3 (by omega)
      have hltz : (k : Int) < (m : Int) := by omega
      have e1 : wr.cell? ⟨b1, o1 + k, none⟩ = some (.int .i64 (g.it k : Nat)) := by rw [hb.cell (p := ⟨b1, o1 + k, none⟩) l1]; exact v1 k hlt
      have e2 : wr.cell? ⟨b2, o2 + k, none⟩ = some (.int .i64 (g.fw k)) := by rw [hb.cell (p := ⟨b2, o2 + k, none⟩) l2]; exact v2 k hlt
      have e3 : wr.cell? ⟨b3, o3 + k, none⟩ = some (.int .i64 (g.fr k)) := by rw [hb.cell (p := ⟨b3, o3 + k, none⟩) l3]; exact v3 k hlt
      have t0 := World.rowIs.cell hr (i := k * 7) (by omega)
      have t1 := World.rowIs.cell hr (i := k * 7 + 1) (by omega)
      have t2 := World.rowIs.cell hr (i := k * 7 + 2) (by omega)
      have t3 := World.rowIs.cell hr (i := k * 7 + 3) (by omega)
      have t4 := World.rowIs.cell hr (i := k * 7 + 4) (by omega)
      have t5 := World.rowIs.cell hr (i := k * 7 + 5) (by omega)
      have t6 := World.rowIs.cell hr (i := k * 7 + 6) (by omega)
      have f0 := World.rowIs.frozen hr (k * 7)
      have f1 := World.rowIs.frozen hr (k * 7 + 1)
      have f2 := World.rowIs.frozen hr (k * 7 + 2)
      have f3 := World.rowIs.frozen hr (k * 7 + 3)
      have f4 := World.rowIs.frozen hr (k * 7 + 4)
      have f5 := World.rowIs.frozen hr (k * 7 + 5)
      have f6 := World.rowIs.frozen hr (k * 7 + 6)
      have HRW : Hid (ARow wr w.heap.size m (fun i => if i < k then mkA g i else zeroA)) := hr
      generalize acell (fun i => if i < k then mkA g i else zeroA) = ac at t0 t1 t2 t3 t4 t5 t6
      clear q1 q2 q3 v1 v2 v3 hr hmi
      go_wp2
      go_region
      go_wp2
      go_roundg (m - (k + 1))
      case measure => go_light; omega
      case rel =>
        go_light
        refine ⟨k + 1, by omega, rfl, by go_num, (((((((hb.setCell (Nat.le_refl _) _).setCell (Nat.le_refl _) _).setCell (Nat.le_refl _) _).setCell (Nat.le_refl _) _).setCell (Nat.le_refl _) _).setCell (Nat.le_refl _) _).setCell (Nat.le_refl _) _).drew, ARow.congr (ARow.drew (HRW.out.put k (mkA g k))) (fun j hj => ?_)⟩
        by_cases e : j = k
        · subst e; rw [upd_same, if_pos (by omega)]
        · rw [upd_other _ _ _ e]
          by_cases hlt : j < k
          · rw [if_pos hlt, if_pos (by omega)]
          · rw [if_neg hlt, if_neg (by omega)]
    · obtain rfl : k = m := by omega
      have HRW : Hid (ARow wr w.heap.size k (mkA g)) := hr.congr (fun i hi => by rw [if_pos hi])
      clear q1 q2 q3 v1 v2 v3 hr hk hlt
      have HI : Hid (Below wr.heap.size wr ((wr.alloc (.cells (madeCells #[.string ⟨#[]⟩, .slice none 0 0, .slice none 0 0] (nI * 3)) 100)).alloc (.cells #[.slice none 0 0, .slice (some ⟨wr.heap.size, 0, none⟩) nI nI, .slice (some ⟨w.heap.size, 0, none⟩) k k, .slice a4 T c4, .slice none 0 0] 52))) :=
        ((Below.refl _ _).alloc (Nat.le_refl _) _).alloc (by simp) _
      have HB := hb.trans (HI.out.mono hb.size)
      have HGr : Hid (Gr ((wr.alloc (.cells (madeCells #[.string ⟨#[]⟩, .slice none 0 0, .slice none 0 0] (nI * 3)) 100)).alloc (.cells #[.slice none 0 0, .slice (some ⟨wr.heap.size, 0, none⟩) nI nI, .slice (some ⟨w.heap.size, 0, none⟩) k k, .slice a4 T c4, .slice none 0 0] 52)) (wr.heap.size + 1) w.heap.size nI k T c4 (some ⟨wr.heap.size, 0, none⟩) a4 nI g) := by
        have lw : w.heap.size < wr.heap.size := World.rowIs.lt HRW.out
        refine ⟨?_, ?_, ?_, by simp, by simp; omega, fun a ha => (HRW.out.accAt ha g rfl).below lw HI.out⟩
        · rw [World.cell?_alloc_at _ _ _ _ (by simp)]; rfl
        · rw [World.cell?_alloc_at _ _ _ _ (by simp)]; rfl
        · rw [World.cell?_alloc_at _ _ _ _ (by simp)]; rfl
      go_wp2_with fail
      refine (view_any g (wr.heap.size + 1) w.heap.size nI k T N c4 c5 nI (some ⟨wr.heap.size, 0, none⟩) a4 a5 A C _ HR.out HGr.out (H4.out.below HB) (H5.out.below HB)).mono ?_
      rintro e w1 ⟨b, rfl, hbb, hB1⟩
      have HBB : Hid (b = true ↔ AllTo g N) := hbb
      have HF : Hid (Below w.heap.size w w1) := HB.trans (hB1.mono HB.size)
      clear hbb hB1 HGr HB HI
      go_wp2
      go_ret
      exact ⟨b, rfl, HBB.out, HF.out⟩

end Go.Proofs.Qxb6000570a
