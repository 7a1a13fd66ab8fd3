/-
  THE WALKS of 'zzWellFormed' and 'zzChildCounts'.
-/
import Derived.Test.Qxb6000405aClone
import Derived.Test.Qxb6000405aTree
namespace Go.Proofs.Qxb6000405a
open Go.RowKit

/-- Every number fits int32. -/
def I32 (z : Nat → Int) : Prop := ∀ i, -2147483648 ≤ z i ∧ z i ≤ 2147483647

/-- What 'zzWellFormed' answers. -/
def RetWF (w : World) (n0 n1 n2 : Nat) (par : Nat → Int) (e : Ending) (w' : World) : Prop :=
  ∃ b : Bool, e = .returned (.bool b) ∧ w = w' ∧ (b = true → n1 = n0 ∧ n2 = n0 ∧ WF n0 par)

set_option maxHeartbeats 2000000 in
theorem wf_any (a0 a1 a2 : Option Addr) (n0 n1 n2 c0 c1 c2 : Nat) (par : Nat → Int) (w : World) (hn : n0 ≤ 4096) (h : Reads w a2 n2 (fun i => .int .i32 (par i))) (h32 : I32 par) :
    Calls Try.prog 9 #[.slice a0 n0 c0, .slice a1 n1 c1, .slice a2 n2 c2] w (RetWF w n0 n1 n2 par) := by
  obtain ⟨b, o, h1, h2⟩ := h
  by_cases e1 : n1 = n0
  · by_cases e2 : n2 = n0
    · subst e1 e2
      by_cases hz : n2 = 0
      · subst hz
        go_enter Try.func9, Try.ntmps9
        go_wp2
        go_ret
        exact ⟨true, rfl, rfl, fun _ => ⟨rfl, rfl, fun h => by omega⟩⟩
      · obtain ⟨rfl, hb⟩ := h1 (by omega)
        have hz' : ((n2 : Int) == 0) = false := by rw [beq_eq_false_iff_ne]; omega
        have cl := h2 (n2 - 1) (by omega)
        by_cases hr : par (n2 - 1) = -1
        · have hr' : (par (n2 - 1) != -1) = false := by rw [bne_eq_false_iff_eq]; exact hr
          have HR : Hid (par (n2 - 1) = -1) := hr
          clear hr
          go_enter Try.func9, Try.ntmps9
          go_wp2
          go_loopg [8] n2 (fun g s wr => ∃ k : Nat, k + 1 ≤ n2 ∧ g = n2 - k ∧ s = .int .i64 k ∧ w = wr ∧ ∀ i, i < k → (i : Int) < par i ∧ par i < (n2 : Int))
          case atStart => exact ⟨0, by omega, rfl, rfl, rfl, fun i hi => by omega⟩
          case round =>
            obtain ⟨k, hk, rfl, rfl, rfl, hh⟩ := hrel
            have HH : Hid (∀ i, i < k → (i : Int) < par i ∧ par i < (n2 : Int)) := hh
            clear hh cl
            by_cases hlt : k + 1 < n2
            · have ck := h2 k (by omega)
              obtain ⟨p1, p2⟩ := h32 k
              clear h2 h32
              by_cases t1 : par k ≤ k
              · go_wp2
                go_ret
                exact ⟨false, rfl, rfl, fun h => by cases h⟩
              · have t1d : decide (par k ≤ (k : Int)) = false := decide_eq_false t1
                by_cases t2 : (n2 : Int) ≤ par k
                · go_wp2
                  go_ret
                  exact ⟨false, rfl, rfl, fun h => by cases h⟩
                · have t2d : decide ((n2 : Int) ≤ par k) = false := decide_eq_false t2
                  go_wp2
                  go_roundg (n2 - (k + 1))
                  case measure => go_light; omega
                  case rel =>
                    go_light
                    refine ⟨k + 1, by omega, rfl, by go_num, rfl, fun i hi => ?_⟩
                    by_cases e : i = k
                    · subst e; omega
                    · exact HH.out i (by omega)
            · clear h2 h32
              go_wp2
              go_ret
              exact ⟨true, rfl, rfl, fun _ => ⟨rfl, rfl, fun _ => ⟨HR.out, fun i hi => HH.out i (by omega)⟩⟩⟩
        · have hr' : (par (n2 - 1) != -1) = true := by rw [bne_iff_ne]; exact hr
          go_enter Try.func9, Try.ntmps9
          go_wp2
          go_ret
          exact ⟨false, rfl, rfl, fun h => by cases h⟩
    · subst e1
      have e2' : ((n2 : Int) != (n1 : Int)) = true := by rw [bne_iff_ne]; omega
      go_enter Try.func9, Try.ntmps9
      go_wp2
      go_ret
      exact ⟨false, rfl, rfl, fun h => by cases h⟩
  · have e1' : ((n1 : Int) != (n0 : Int)) = true := by rw [bne_iff_ne]; omega
    go_enter Try.func9, Try.ntmps9
    go_wp2
    go_ret
    exact ⟨false, rfl, rfl, fun h => by cases h⟩

theorem cnt_row {w : World} {g n k m : Nat} {par : Nat → Int} (h : w.rowIs g 21 n (fun i => .int .i32 (cntTo par k i))) (hm : par k = (m : Int)) :
    (w.setCell ⟨g, m, none⟩ (.int .i32 ((cntTo par k m : Int) + 1))).rowIs g 21 n (fun i => .int .i32 (cntTo par (k + 1) i)) := by
  refine (h.set m _).congr fun j _ => ?_
  rw [cntTo]
  by_cases e : j = m
  · subst e; rw [if_pos rfl, if_pos hm]; simp
  · rw [if_neg e, if_neg (by omega)]; rfl

theorem cnt_row_no {w : World} {g n k : Nat} {par : Nat → Int} (h : w.rowIs g 21 n (fun i => .int .i32 (cntTo par k i))) (hm : par k < 0) :
    w.rowIs g 21 n (fun i => .int .i32 (cntTo par (k + 1) i)) :=
  h.congr fun j _ => by rw [cntTo, if_neg (by omega)]; rfl

set_option maxHeartbeats 2000000 in
theorem counts_any (a : Option Addr) (n c : Nat) (par : Nat → Int) (w : World) (hn : n ≤ 4096) (h : Reads w a n (fun i => .int .i32 (par i))) (hw : WF n par) :
    Calls Try.prog 12 #[.slice a n c] w (RetReads w n (fun i => .int .i32 (cntTo par n i))) := by
  obtain ⟨b, o, h1, h2⟩ := h
  have hmk := run_make_row' (P := Try.prog) 22 21 (.int .i32 0) 4 Try.underlying22 Try.info21 rfl .i64 .i64 n (by omega) (by omega)
  have hrow0 : (w.alloc (.cells (madeCells #[.int .i32 0] n) 21)).rowIs w.heap.size 21 n (fun i => .int .i32 (cntTo par 0 i)) :=
    (World.rowIs_made w _ n 21).congr (fun i _ => rfl)
  go_enter Try.func12, Try.ntmps12
  go_wp2
  go_loopg [11] n (fun g i wr => ∃ k : Nat, k ≤ n ∧ g = n - k ∧ i = .int .i64 k ∧ Below w.heap.size w wr ∧ wr.rowIs w.heap.size 21 n (fun i => .int .i32 (cntTo par k i)))
  case atStart => exact ⟨0, Nat.zero_le _, rfl, rfl, (Below.refl _ _).alloc (Nat.le_refl _) _, hrow0⟩
  case round =>
    obtain ⟨k, hk, rfl, rfl, hb, hr⟩ := hrel
    clear hmk hrow0
    by_cases hlt : k < n
    · obtain ⟨rfl, hbw⟩ := h1 (by omega)
      have c1 : wr.cell? ⟨b, o + k, none⟩ = some (.int .i32 (par k)) := by rw [hb.cell (p := ⟨b, o + k, none⟩) hbw]; exact h2 k hlt
      have rg := hw.range hlt
      clear h1 h2 hw
      by_cases h0 : par k < 0
      · have h0d : decide (0 ≤ par k) = false := decide_eq_false (by omega)
        go_wp2
        go_roundg (n - (k + 1))
        case measure => go_light; omega
        case rel =>
          go_light
          exact ⟨k + 1, by omega, rfl, by go_num, hb, cnt_row_no hr h0⟩
      · obtain ⟨m, hm⟩ : ∃ m : Nat, par k = (m : Int) := ⟨(par k).toNat, by omega⟩
        have HM : Hid (par k = (m : Int)) := hm
        rw [hm] at c1
        have hmn : m < n := by omega
        clear h0 rg hm
        have c2 := hr.cell hmn
        have c3 := hr.frozen m
        have hle := cntTo_le par m k
        go_wp2
        go_roundg (n - (k + 1))
        case measure => go_light; omega
        case rel =>
          go_light
          exact ⟨k + 1, by omega, rfl, by go_num, hb.setCell (Nat.le_refl _) _, cnt_row hr HM.out⟩
    · obtain rfl : k = n := by omega
      clear h1 h2
      go_wp2
      go_ret
      exact ⟨_, _, rfl, hb, Reads.of_row hr⟩

end Go.Proofs.Qxb6000405a
