/-
  THE WALKS of '(condition).needed' and 'ZZNeeded'.
-/
import Derived.Test.Qxb6000405aCond
namespace Go.Proofs.Qxb6000405a
open Go.RowKit

/-- What 'needed' answers. -/
def RetNeed (w : World) (n : Nat) (par need : Nat → Int) (e : Ending) (w' : World) : Prop :=
  ∃ f : Nat → Bool, NeedSpec n par need f ∧ RetReads w n (fun i => .bool (f i)) e w'

/-- From k on 'needed' is filled. -/
def NeedFrom (n k : Nat) (par need : Nat → Int) (f : Nat → Bool) : Prop :=
  f (n - 1) = true ∧ ∀ i, k ≤ i → i + 1 < n → f i = (f (par i).toNat && decide (need (par i).toNat = (cntTo par n (par i).toNat : Int)))

theorem NeedFrom.step {n k u : Nat} {par need : Nat → Int} {f : Nat → Bool} (h : NeedFrom n (k + 1) par need f) (hw : WF n par) (hk : k + 1 < n) (hu : par k = (u : Int)) {v : Bool}
    (hv : v = (f u && decide (need u = (cntTo par n u : Int)))) : NeedFrom n k par need (upd f k v) := by
  refine ⟨by rw [upd_other _ _ _ (by omega)]; exact h.1, fun i h1 h2 => ?_⟩
  obtain ⟨r1, r2⟩ := hw.inner h2
  have hne : (par i).toNat ≠ k := by omega
  rw [upd_other _ _ _ hne]
  by_cases e : i = k
  · subst e
    rw [upd_same, hv, hu, Int.toNat_natCast]
  · rw [upd_other _ _ _ e]
    exact h.2 i (by omega) h2

theorem made_last (w : World) (k : Nat) :
    (w.alloc (.cells ((madeCells #[.bool false] k).setIfInBounds (k - 1) (.bool true)) 4)).rowIs w.heap.size 4 k (fun j => .bool (decide (j = k - 1))) := by
  refine ⟨_, Go.Deep.blk_alloc_new _ _, by simp [size_madeCells], fun i hi => ?_⟩
  have hs := size_madeCells #[Value.bool false] k
  rw [Array.getElem?_setIfInBounds]
  by_cases e : k - 1 = i
  · subst e
    rw [if_pos rfl, if_pos (by rw [hs]; omega)]
    simp
  · rw [if_neg e]
    have e' : ¬ i = k - 1 := fun h => e h.symm
    simp [madeCells, hi, Nat.mod_one, e']

set_option maxHeartbeats 4000000 in
theorem needed_any (g n c : Nat) (q : Nat → C3) (w : World) (hn : n ≤ 4096) (hq : CRow w g n q) (hw : WF n (fun i => (q i).u)) :
    Calls Try.prog 24 #[.slice (some ⟨g, 0, none⟩) n c] w (RetNeed w n (fun i => (q i).u) (fun i => (q i).d)) := by
  by_cases hz : n = 0
  · subst hz
    go_enter Try.func24, Try.ntmps24
    go_wp2
    go_ret
    exact ⟨fun _ => true, fun h => by omega, none, 0, rfl, Below.refl _ _, ⟨0, 0, fun h => by omega, fun i hi => by omega⟩⟩
  · have hz' : ((n : Int) == 0) = false := by rw [beq_eq_false_iff_ne]; omega
    have hmk := run_make_row' (P := Try.prog) 22 21 (.int .i32 0) 4 Try.underlying22 Try.info21 rfl .i64 .i64 n (by omega) (by omega)
    have hmk2 := run_make_row' (P := Try.prog) 25 4 (.bool false) 1 Try.underlying25 Try.info4 rfl .i64 .i64 n (by omega) (by omega)
    have hrow0 : (w.alloc (.cells (madeCells #[.int .i32 0] n) 21)).rowIs w.heap.size 21 n (fun i => .int .i32 (cntTo (fun i => (q i).u) 0 i)) :=
      (World.rowIs_made w _ n 21).congr (fun i _ => rfl)
    go_enter Try.func24, Try.ntmps24
    go_wp2
    go_loopg [17] n (fun gg i wr => ∃ k : Nat, k ≤ n ∧ gg = n - k ∧ i = .int .i64 k ∧ Below w.heap.size w wr ∧ wr.rowIs w.heap.size 21 n (fun i => .int .i32 (cntTo (fun i => (q i).u) k i)))
    case atStart => exact ⟨0, Nat.zero_le _, rfl, rfl, (Below.refl _ _).alloc (Nat.le_refl _) _, hrow0⟩
    case round =>
      obtain ⟨k, hk, rfl, rfl, hb, hr⟩ := hrel
      clear hmk hrow0
      have hq2 : CRow wr g n q := hq.below hb
      by_cases hlt : k < n
      · obtain ⟨t0, t1, t2⟩ := hq2.cat hlt
        have rg := hw.range hlt
        have hws : w.heap.size < wr.heap.size := hr.lt
        clear hw hmk2 hq2
        by_cases h0 : (q k).u < 0
        · have h0d : decide (0 ≤ (q k).u) = false := decide_eq_false (by omega)
          go_wp2
          go_roundg (n - (k + 1))
          case measure => go_light; omega
          case rel =>
            go_light
            exact ⟨k + 1, by omega, rfl, by go_num, hb.alloc hb.size _, (cnt_row_no hr h0).alloc _⟩
        · obtain ⟨m, hm⟩ : ∃ m : Nat, (q k).u = (m : Int) := ⟨((q k).u).toNat, by omega⟩
          have HM : Hid ((q k).u = (m : Int)) := hm
          have hmn : m < n := by omega
          have hle := cntTo_le (fun i => (q i).u) m k
          have c2 := hr.cell hmn
          have c3 := hr.frozen m
          rw [hm] at t2
          clear h0 rg hm
          go_wp2
          go_roundg (n - (k + 1))
          case measure => go_light; omega
          case rel =>
            go_light
            exact ⟨k + 1, by omega, rfl, by go_num, (hb.setCell (Nat.le_refl _) _).alloc (by simp; omega) _, (cnt_row (par := fun i => (q i).u) hr HM.out).alloc _⟩
      · obtain rfl : k = n := by omega
        clear hk hlt hq
        obtain ⟨wo, rfl⟩ : ∃ wo : World, wo = wr := ⟨_, rfl⟩
        have hws : w.heap.size < wo.heap.size := hr.lt
        have hgs : g < wo.heap.size := hq2.lt
        have hnew := World.rowIs_made wo (.bool false) k 4
        have s1 := hnew.cell (show k - 1 < k by omega)
        have s2 := hnew.frozen (k - 1)
        have HC : Hid (CRow wo g k q) := hq2
        have HT : Hid (wo.rowIs w.heap.size 21 k (fun i => .int .i32 (cntTo (fun i => (q i).u) k i))) := hr
        clear hnew hq2 hr
        go_wp2
        clear s1 s2 hmk2
        go_loopg [7] (k - 1) (fun gg s wx => ∃ (i : Int) (F : Nat → Bool), i + 1 = (gg : Int) ∧ gg + 1 ≤ k ∧ s = .int .i64 i ∧ NeedFrom k gg (fun i => (q i).u) (fun i => (q i).d) F ∧ Below w.heap.size w wx ∧ CRow wx g k q ∧
          wx.rowIs w.heap.size 21 k (fun i => .int .i32 (cntTo (fun i => (q i).u) k i)) ∧ wx.rowIs wo.heap.size 4 k (fun j => .bool (F j)))
        case atStart => exact ⟨_, _, by omega, by omega, rfl, ⟨by simp, fun i h1 h2 => by omega⟩, hb.alloc hb.size _, HC.out.below ((Below.refl _ _).alloc (Nat.le_refl _) _), HT.out.alloc _, made_last wo k⟩
        case round =>
          obtain ⟨i, F, hi, hgk, rfl, hF, hb2, hC2, hT2, hN2⟩ := hrel
          have HF : Hid (NeedFrom k gk (fun i => (q i).u) (fun i => (q i).d) F) := hF
          have HC2 : Hid (CRow wr g k q) := hC2
          have HT2 : Hid (wr.rowIs w.heap.size 21 k (fun i => .int .i32 (cntTo (fun i => (q i).u) k i))) := hT2
          have HN2 : Hid (wr.rowIs wo.heap.size 4 k (fun j => .bool (F j))) := hN2
          clear hF HC HT
          cases gk with
          | zero =>
            obtain rfl : i = -1 := by omega
            clear hi hC2 hT2 hN2 hw
            go_wp2
            go_ret
            exact ⟨F, fun _ => ⟨HF.out.1, fun i hi => HF.out.2 i (Nat.zero_le _) hi⟩, _, _, rfl, hb2, Reads.of_row HN2.out⟩
          | succ m =>
            obtain rfl : i = (m : Int) := by omega
            clear hi
            obtain ⟨r1, r2⟩ := hw.inner (show m + 1 < k by omega)
            obtain ⟨u, hu⟩ : ∃ u : Nat, (q m).u = (u : Int) := ⟨((q m).u).toNat, by omega⟩
            have HU : Hid ((q m).u = (u : Int)) := hu
            have t2 := (hC2.cat (show m < k by omega)).c2
            rw [hu] at t2
            have hun : u < k := by omega
            have hunz : (u : Int) < (k : Int) := by omega
            have hmz : (m : Int) < (k : Int) := by omega
            have c1 := (hC2.cat hun).c1
            have d1 := hT2.cell hun
            have n1 := hN2.cell hun
            have n2 := hN2.cell (show m < k by omega)
            have n3 := hN2.frozen m
            have HW : Hid (WF k (fun i => (q i).u)) := hw
            clear hC2 hT2 hN2 hw r1 r2 hu
            cases hF1 : F u
            · rw [hF1] at n1
              go_wp2
              go_region
              go_wp2
              go_roundg m
              case measure => go_light; omega
              case rel =>
                go_light
                refine ⟨(m : Int) - 1, upd F m false, by omega, by omega, rfl, HF.out.step HW.out (by omega) HU.out (by rw [hF1]; rfl), (hb2.setCell (by show w.heap.size ≤ wo.heap.size; omega) _).drew,
                  World.rowIs.setOther HC2.out (by show g ≠ wo.heap.size; omega) _, HT2.out.setOther (by show w.heap.size ≠ wo.heap.size; omega) _, (HN2.out.set m _).congr (fun j _ => ?_)⟩
                by_cases e : j = m
                · rw [if_pos e, e, upd_same]
                · rw [if_neg e, upd_other _ _ _ e]
            · rw [hF1] at n1
              by_cases hE : (q u).d = (cntTo (fun i => (q i).u) k u : Int)
              · have hE' : ((q u).d == (cntTo (fun i => (q i).u) k u : Int)) = true := beq_iff_eq.2 hE
                have HE : Hid ((q u).d = (cntTo (fun i => (q i).u) k u : Int)) := hE
                clear hE
                go_wp2
                go_region
                go_wp2
                go_roundg m
                case measure => go_light; omega
                case rel =>
                  go_light
                  refine ⟨(m : Int) - 1, upd F m true, by omega, by omega, rfl, HF.out.step HW.out (by omega) HU.out (by rw [hF1, HE.out]; simp), (hb2.setCell (by show w.heap.size ≤ wo.heap.size; omega) _).drew,
                    World.rowIs.setOther HC2.out (by show g ≠ wo.heap.size; omega) _, HT2.out.setOther (by show w.heap.size ≠ wo.heap.size; omega) _, (HN2.out.set m _).congr (fun j _ => ?_)⟩
                  by_cases e : j = m
                  · rw [if_pos e, e, upd_same]
                  · rw [if_neg e, upd_other _ _ _ e]
              · have hE' : ((q u).d == (cntTo (fun i => (q i).u) k u : Int)) = false := beq_eq_false_iff_ne.2 hE
                go_wp2
                go_region
                go_wp2
                go_roundg m
                case measure => go_light; omega
                case rel =>
                  go_light
                  refine ⟨(m : Int) - 1, upd F m false, by omega, by omega, rfl, HF.out.step HW.out (by omega) HU.out (by rw [hF1, decide_eq_false hE]; rfl), (hb2.setCell (by show w.heap.size ≤ wo.heap.size; omega) _).drew,
                    World.rowIs.setOther HC2.out (by show g ≠ wo.heap.size; omega) _, HT2.out.setOther (by show w.heap.size ≠ wo.heap.size; omega) _, (HN2.out.set m _).congr (fun j _ => ?_)⟩
                  by_cases e : j = m
                  · rw [if_pos e, e, upd_same]
                  · rw [if_neg e, upd_other _ _ _ e]

/-- What 'ZZNeeded' answers. -/
theorem zzneeded_any (a0 a1 a2 : Option Addr) (n c0 c1 c2 : Nat) (z0 z1 z2 : Nat → Int) (w : World) (hn : n ≤ 4096)
    (h0 : Reads w a0 n (fun i => .int .i32 (z0 i))) (h1 : Reads w a1 n (fun i => .int .i32 (z1 i))) (h2 : Reads w a2 n (fun i => .int .i32 (z2 i))) (hw : WF n z2) :
    Calls Try.prog 11 #[.slice a0 n c0, .slice a1 n c1, .slice a2 n c2] w (RetNeed w n z2 z1) := by
  go_enter Try.func11, Try.ntmps11
  go_wp2_with fail
  refine (cond_any a0 a1 a2 n c0 c1 c2 z0 z1 z2 w hn h0 h1 h2).mono ?_
  rintro e w1 ⟨rfl, b1, hC⟩
  go_wp2_with fail
  refine (needed_any w.heap.size n n (mk3 z0 z1 z2) w1 hn hC hw).mono ?_
  rintro e w2 ⟨f, hf, a', c', rfl, b2, hr⟩
  go_wp2
  go_ret
  exact ⟨f, hf, a', c', rfl, b1.trans (b2.mono b1.size), hr⟩

end Go.Proofs.Qxb6000405a
