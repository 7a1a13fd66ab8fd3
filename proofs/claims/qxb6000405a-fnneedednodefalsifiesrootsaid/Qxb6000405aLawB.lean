/-
  THE WALK of the law 'FnNeededNodeFalsifiesRoot', behind its tests on lengths.
-/
import Derived.Test.Qxb6000405aEarlyB
namespace Go.Proofs.Qxb6000405a
open Go.RowKit

theorem tc_row {w : World} {g n u : Nat} {tc : Nat → Nat} (h : w.rowIs g 21 n (fun a => .int .i32 (tc a))) :
    (w.setCell ⟨g, u, none⟩ (.int .i32 ((tc u : Int) + 1))).rowIs g 21 n (fun a => .int .i32 (upd tc u (tc u + 1) a : Nat)) := by
  refine (h.set u _).congr fun j _ => ?_
  by_cases e : j = u
  · subst e; rw [if_pos rfl, upd_same]; simp
  · rw [if_neg e, upd_other _ _ _ e]

theorem cast_tc {n k i u : Nat} {par need : Nat → Int} {f : Nat → Bool} {tc : Nat → Nat} {r : Bool} (hu : par i = (u : Int))
    (h : EvalAt n par need f k (i + 1) (fun a => if a = (par i).toNat then tc a + 1 else tc a) r) : EvalAt n par need f k (i + 1) (upd tc u (tc u + 1)) r := by
  have e : (fun a => if a = (par i).toNat then tc a + 1 else tc a) = upd tc u (tc u + 1) := by
    funext a
    rw [hu, Int.toNat_natCast]
    by_cases e : a = u
    · subst e; rw [if_pos rfl, upd_same]
    · rw [if_neg e, upd_other _ _ _ e]
  rw [← e]; exact h

set_option maxRecDepth 100000 in
set_option maxHeartbeats 16000000 in
theorem lateB_any (a0 a1 a2 a3 : Option Addr) (n0 n1 n2 n3 c0 c1 c2 c3 : Nat) (k : Int) (z0 z1 z2 : Nat → Int) (zb : Nat → Bool) (w : World) (l0 : n0 ≤ 4096) (l1 : n1 ≤ 4096) (l2 : n2 ≤ 4096) (l3 : n3 ≤ 4096)
    (p0 : a0 = none → n0 = 0 ∧ c0 = 0) (p1 : a1 = none → n1 = 0 ∧ c1 = 0) (p2 : a2 = none → n2 = 0 ∧ c2 = 0) (p3 : a3 = none → n3 = 0 ∧ c3 = 0)
    (h0 : Reads w a0 n0 (fun i => .int .i32 (z0 i))) (h1 : Reads w a1 n1 (fun i => .int .i32 (z1 i))) (h2 : Reads w a2 n2 (fun i => .int .i32 (z2 i))) (h3 : Reads w a3 n3 (fun i => .bool (zb i))) (i2 : I32 z2) :
    Calls Try.prog 4 #[.slice a0 n0 c0, .slice a1 n1 c1, .slice a2 n2 c2, .slice a3 n3 c3, .int .i64 k] w (RetTrue w) := by
  have d0 : decide ((1048576 : Int) < (n0 : Int)) = false := decide_eq_false (by omega)
  have d1 : decide ((1048576 : Int) < (n1 : Int)) = false := decide_eq_false (by omega)
  have d2 : decide ((1048576 : Int) < (n2 : Int)) = false := decide_eq_false (by omega)
  have d3 : decide ((1048576 : Int) < (n3 : Int)) = false := decide_eq_false (by omega)
  have d4 : decide ((1048576 : Int) < 4 * ((n0 : Int) + (n1 : Int) + (n2 : Int)) + (n3 : Int)) = false := decide_eq_false (by omega)
  have d5 : decide ((4096 : Int) < (n0 : Int)) = false := decide_eq_false (by omega)
  have d6 : decide ((4096 : Int) < (n1 : Int)) = false := decide_eq_false (by omega)
  have d7 : decide ((4096 : Int) < (n2 : Int)) = false := decide_eq_false (by omega)
  have d8 : decide ((4096 : Int) < (n3 : Int)) = false := decide_eq_false (by omega)
  go_enter Try.func4, Try.ntmps4
  go_wp2_with fail
  refine (bytes13_any _ _ _ _ _ _ _ _ _ _ _ _ _ _).mono ?_
  rintro e w1 ⟨b, rfl, rfl⟩
  cases b
  · go_wp2
    go_ret
    exact ⟨rfl, Below.refl _ _⟩
  go_wp2_with fail
  refine (wf_any a0 a1 a2 n0 n1 n2 c0 c1 c2 z2 w l0 h2 i2).mono ?_
  rintro e w1 ⟨b, rfl, rfl, hwf⟩
  cases b
  · go_wp2
    go_ret
    exact ⟨rfl, Below.refl _ _⟩
  obtain ⟨rfl, rfl, hW⟩ := hwf rfl
  clear hwf d0 d1 d2 d3 d4 d5 d6 d7 d8 i2
  by_cases hn3 : n3 = n2
  rotate_left
  · have hn3' : ((n3 : Int) != (n2 : Int)) = true := by rw [bne_iff_ne]; omega
    go_wp2
    go_ret
    exact ⟨rfl, Below.refl _ _⟩
  obtain rfl := hn3
  by_cases hk0 : k < 0
  · go_wp2
    go_ret
    exact ⟨rfl, Below.refl _ _⟩
  have hk0d : decide (k < 0) = false := decide_eq_false hk0
  by_cases hk1 : (n3 : Int) ≤ k
  · go_wp2
    go_ret
    exact ⟨rfl, Below.refl _ _⟩
  obtain ⟨kk, rfl⟩ := Int.eq_ofNat_of_zero_le (show 0 ≤ k by omega)
  have hk0d : decide ((kk : Int) < 0) = false := decide_eq_false hk0
  have hk1d : decide (n3 ≤ kk) = false := decide_eq_false (by omega)
  have hkn : kk < n3 := by omega
  have hknz : (kk : Int) < (n3 : Int) := by omega
  clear hk0 hk1
  go_wp2_with fail
  refine (clone10_any a0 _ c0 z0 w l0 h0 p0).mono ?_
  rintro e w1 ⟨x0, e0, rfl, b1, r0⟩
  go_wp2_with fail
  refine (clone10_any a1 _ c1 z1 w1 l0 (h1.below b1) p1).mono ?_
  rintro e w2 ⟨x1, e1, rfl, b2, r1⟩
  go_wp2_with fail
  refine (clone10_any a2 _ c2 z2 w2 l0 ((h2.below b1).below b2) p2).mono ?_
  rintro e w3 ⟨x2, e2, rfl, b3, r2⟩
  go_wp2_with fail
  refine (clone14_any a3 _ c3 zb w3 l0 (((h3.below b1).below b2).below b3) p3).mono ?_
  rintro e w4 ⟨x3, e3, rfl, b4, r3⟩
  replace r0 := ((r0.below b2).below b3).below b4
  replace r1 := (r1.below b3).below b4
  replace r2 := r2.below b4
  have B4 : Below w.heap.size w w4 := ((b1.trans (b2.mono b1.size)).trans (b3.mono (Nat.le_trans b1.size b2.size))).trans (b4.mono (Nat.le_trans b1.size (Nat.le_trans b2.size b3.size)))
  clear b1 b2 b3 b4 h0 h1 h2 h3 p0 p1 p2 p3
  go_wp2_with fail
  refine (zzneeded_any x0 x1 x2 _ e0 e1 e2 z0 z1 z2 w4 l0 r0 r1 r2 hW).mono ?_
  rintro e w5 ⟨f, hf, x4, e4, rfl, b5, r4⟩
  replace r1 := r1.below b5
  replace r2 := r2.below b5
  replace r3 := r3.below b5
  have B5 : Below w.heap.size w w5 := B4.trans (b5.mono B4.size)
  clear b5 B4 r0
  obtain ⟨g4, o4, q4, v4⟩ := r4
  obtain ⟨rfl, s4⟩ := q4 (by omega)
  have ck : w5.cell? ⟨g4, o4 + kk, none⟩ = some (.bool (f kk)) := v4 kk hkn
  cases hfk : f kk
  · rw [hfk] at ck
    clear v4 q4
    go_wp2
    go_ret
    exact ⟨rfl, B5⟩
  rw [hfk] at ck
  clear v4 q4
  go_wp2_with fail
  refine (counts_any x2 _ e2 z2 w5 l0 r2 hW).mono ?_
  rintro e w6 ⟨x5, e5, rfl, b6, r5⟩
  clear ck s4
  obtain ⟨g1, o1, q1, v1⟩ := r1.below b6
  obtain ⟨g2, o2, q2, v2⟩ := r2.below b6
  obtain ⟨g3, o3, q3, v3⟩ := r3.below b6
  obtain ⟨g5, o5, q5, v5⟩ := r5
  obtain ⟨rfl, s1⟩ := q1 (by omega)
  obtain ⟨rfl, s2⟩ := q2 (by omega)
  obtain ⟨rfl, s3⟩ := q3 (by omega)
  obtain ⟨rfl, s5⟩ := q5 (by omega)
  have B6 : Below w.heap.size w w6 := B5.trans (b6.mono B5.size)
  have H1 : Hid (∀ i, i < n3 → w6.cell? ⟨g1, o1 + i, none⟩ = some (.int .i32 (z1 i))) := v1
  have H2 : Hid (∀ i, i < n3 → w6.cell? ⟨g2, o2 + i, none⟩ = some (.int .i32 (z2 i))) := v2
  have H3 : Hid (∀ i, i < n3 → w6.cell? ⟨g3, o3 + i, none⟩ = some (.bool (zb i))) := v3
  have H5 : Hid (∀ i, i < n3 → w6.cell? ⟨g5, o5 + i, none⟩ = some (.int .i32 (cntTo z2 n3 i))) := v5
  have HW : Hid (WF n3 z2) := hW
  have HS : Hid (NeedSpec n3 z2 z1 f) := hf
  have HK : Hid (f kk = true) := hfk
  clear q1 q2 q3 q5 v1 v2 v3 v5 r1 r2 r3 b6 B5 hW hf l1 l2 l3 hfk
  have hmk := run_make_row' (P := Try.prog) 22 21 (.int .i32 0) 4 Try.underlying22 Try.info21 rfl .i64 .i64 n3 (by omega) (by omega)
  have HR0 : Hid ((w6.alloc (.cells (madeCells #[.int .i32 0] n3) 21)).rowIs w6.heap.size 21 n3 (fun a => .int .i32 ((fun _ => 0 : Nat → Nat) a : Nat))) :=
    (World.rowIs_made w6 _ n3 21).congr (fun i _ => rfl)
  go_wp2
  clear hmk
  go_loopg [15, 16] n3 (fun gg s t wx => ∃ (i : Nat) (tc : Nat → Nat) (r : Bool), i ≤ n3 ∧ gg = n3 - i ∧ s = .bool r ∧ t = .int .i64 i ∧ EvalAt n3 z2 z1 f kk i tc r ∧ Below w6.heap.size w6 wx ∧ wx.rowIs w6.heap.size 21 n3 (fun a => .int .i32 (tc a : Nat)))
  case atStart => exact ⟨0, _, true, Nat.zero_le _, rfl, rfl, rfl, EvalAt.start _ _ _ _ _, (Below.refl _ _).alloc (Nat.le_refl _) _, HR0.out⟩
  case round =>
    obtain ⟨i, tc, r, hi, rfl, rfl, rfl, hE, hB, hT⟩ := hrel
    have HE : Hid (EvalAt n3 z2 z1 f kk i tc r) := hE
    have HB : Hid (Below w6.heap.size w6 wr) := hB
    have HT : Hid (wr.rowIs w6.heap.size 21 n3 (fun a => .int .i32 (tc a : Nat))) := hT
    clear HR0
    by_cases hlt : i < n3
    · have hltz : (i : Int) < (n3 : Int) := by omega
      have c1 : wr.cell? ⟨g1, o1 + i, none⟩ = some (.int .i32 (z1 i)) := by rw [hB.cell (p := ⟨g1, o1 + i, none⟩) s1]; exact H1.out i hlt
      have c2 : wr.cell? ⟨g2, o2 + i, none⟩ = some (.int .i32 (z2 i)) := by rw [hB.cell (p := ⟨g2, o2 + i, none⟩) s2]; exact H2.out i hlt
      have cb : wr.cell? ⟨g3, o3 + i, none⟩ = some (.bool (zb i)) := by rw [hB.cell (p := ⟨g3, o3 + i, none⟩) s3]; exact H3.out i hlt
      have c5 : wr.cell? ⟨g5, o5 + i, none⟩ = some (.int .i32 (cntTo z2 n3 i)) := by rw [hB.cell (p := ⟨g5, o5 + i, none⟩) s5]; exact H5.out i hlt
      have ct : wr.cell? ⟨w6.heap.size, i, none⟩ = some (.int .i32 (tc i : Nat)) := hT.cell hlt
      clear hE hB
      by_cases hr : i + 1 < n3
      · obtain ⟨y1, y2⟩ := HW.out.inner hr
        obtain ⟨u, hu⟩ : ∃ u : Nat, z2 i = (u : Int) := ⟨(z2 i).toNat, by omega⟩
        have HU : Hid (z2 i = (u : Int)) := hu
        rw [hu] at c2
        have hun : u < n3 := by omega
        have hunz : (u : Int) < (n3 : Int) := by omega
        have cu : wr.cell? ⟨w6.heap.size, u, none⟩ = some (.int .i32 (tc u : Nat)) := hT.cell hun
        have fu := hT.frozen u
        have lu : tc u ≤ 4096 := Nat.le_trans (HE.out.le u) (Nat.le_trans (cntTo_le _ _ _) (by omega))
        clear hu y1 y2 hT
        by_cases hc : cntTo z2 n3 i = 0
        · have hc' : ((cntTo z2 n3 i : Int) == 0) = true := by rw [beq_iff_eq]; omega
          by_cases hk : i = kk
          · subst hk
            have hv : valOf n3 z2 z1 zb i i tc = false := by unfold valOf; rw [if_pos rfl]
            go_wp2
            go_roundg (n3 - (i + 1))
            case measure => go_light; omega
            case rel =>
              go_light
              exact ⟨i + 1, tc, r, by omega, rfl, rfl, by go_num, (HE.out.inner (bits := zb) HS.out HW.out HK.out (by omega)).2 hv, HB.out, HT.out⟩
          · have hk' : ((i : Int) == (kk : Int)) = false := by rw [beq_eq_false_iff_ne]; omega
            cases hb : zb i
            · rw [hb] at cb
              have hv : valOf n3 z2 z1 zb kk i tc = false := by unfold valOf; rw [if_neg hk, if_pos hc, hb]
              go_wp2
              go_roundg (n3 - (i + 1))
              case measure => go_light; omega
              case rel =>
                go_light
                exact ⟨i + 1, tc, r, by omega, rfl, rfl, by go_num, (HE.out.inner (bits := zb) HS.out HW.out HK.out (by omega)).2 hv, HB.out, HT.out⟩
            · rw [hb] at cb
              have hv : valOf n3 z2 z1 zb kk i tc = true := by unfold valOf; rw [if_neg hk, if_pos hc, hb]
              go_wp2
              go_roundg (n3 - (i + 1))
              case measure => go_light; omega
              case rel =>
                go_light
                exact ⟨i + 1, upd tc u (tc u + 1), r, by omega, rfl, rfl, by go_num, cast_tc HU.out ((HE.out.inner (bits := zb) HS.out HW.out HK.out (by omega)).1 hv), (HB.out.setCell (Nat.le_refl _) _), (tc_row HT.out)⟩
        · have hc' : ((cntTo z2 n3 i : Int) == 0) = false := by rw [beq_eq_false_iff_ne]; omega
          by_cases hk : i = kk
          · subst hk
            have hv : valOf n3 z2 z1 zb i i tc = false := by unfold valOf; rw [if_pos rfl]
            go_wp2
            go_quiet (fail)
            go_wp2
            go_roundg (n3 - (i + 1))
            case measure => go_light; omega
            case rel =>
              go_light
              exact ⟨i + 1, tc, r, by omega, rfl, rfl, by go_num, (HE.out.inner (bits := zb) HS.out HW.out HK.out (by omega)).2 hv, (HB.out.trans ((below_drewN' wr nq).mono HB.out.size)), (World.rowIs.of_block HT.out rfl)⟩
          · have hk' : ((i : Int) == (kk : Int)) = false := by rw [beq_eq_false_iff_ne]; omega
            by_cases hb : z1 i ≤ (tc i : Int)
            · have hv : valOf n3 z2 z1 zb kk i tc = true := by unfold valOf; rw [if_neg hk, if_neg hc]; exact decide_eq_true hb
              go_wp2
              go_quiet (fail)
              go_wp2
              go_roundg (n3 - (i + 1))
              case measure => go_light; omega
              case rel =>
                go_light
                exact ⟨i + 1, upd tc u (tc u + 1), r, by omega, rfl, rfl, by go_num, cast_tc HU.out ((HE.out.inner (bits := zb) HS.out HW.out HK.out (by omega)).1 hv), ((HB.out.setCell (Nat.le_refl _) _).trans ((below_drewN' _ nq).mono (by simpa using HB.out.size))), (World.rowIs.of_block (tc_row HT.out) rfl)⟩
            · have hbd : decide (z1 i ≤ (tc i : Int)) = false := decide_eq_false hb
              have hv : valOf n3 z2 z1 zb kk i tc = false := by unfold valOf; rw [if_neg hk, if_neg hc]; exact hbd
              go_wp2
              go_quiet (fail)
              go_wp2
              go_roundg (n3 - (i + 1))
              case measure => go_light; omega
              case rel =>
                go_light
                exact ⟨i + 1, tc, r, by omega, rfl, rfl, by go_num, (HE.out.inner (bits := zb) HS.out HW.out HK.out (by omega)).2 hv, (HB.out.trans ((below_drewN' wr nq).mono HB.out.size)), (World.rowIs.of_block HT.out rfl)⟩
      · have hneg : z2 i = -1 := by have := HW.out.root (by omega); rwa [show n3 - 1 = i from by omega] at this
        rw [hneg] at c2
        clear hneg hT
        by_cases hc : cntTo z2 n3 i = 0
        · have hc' : ((cntTo z2 n3 i : Int) == 0) = true := by rw [beq_iff_eq]; omega
          by_cases hk : i = kk
          · subst hk
            have hv : valOf n3 z2 z1 zb i i tc = false := by unfold valOf; rw [if_pos rfl]
            go_wp2
            go_roundg (n3 - (i + 1))
            case measure => go_light; omega
            case rel =>
              go_light
              exact ⟨i + 1, tc, false, by omega, rfl, rfl, by go_num, ⟨fun a => Nat.le_trans (HE.out.le a) (by rw [cnt_step]; omega), .inr (.inr ⟨by omega, rfl⟩)⟩, HB.out, HT.out⟩
          · have hk' : ((i : Int) == (kk : Int)) = false := by rw [beq_eq_false_iff_ne]; omega
            cases hb : zb i
            · rw [hb] at cb
              have hv : valOf n3 z2 z1 zb kk i tc = false := by unfold valOf; rw [if_neg hk, if_pos hc, hb]
              go_wp2
              go_roundg (n3 - (i + 1))
              case measure => go_light; omega
              case rel =>
                go_light
                exact ⟨i + 1, tc, false, by omega, rfl, rfl, by go_num, ⟨fun a => Nat.le_trans (HE.out.le a) (by rw [cnt_step]; omega), .inr (.inr ⟨by omega, rfl⟩)⟩, HB.out, HT.out⟩
            · rw [hb] at cb
              have hv : valOf n3 z2 z1 zb kk i tc = true := by unfold valOf; rw [if_neg hk, if_pos hc, hb]
              exact absurd hv (by rw [HE.out.root HW.out hkn (by omega)]; simp)
        · have hc' : ((cntTo z2 n3 i : Int) == 0) = false := by rw [beq_eq_false_iff_ne]; omega
          by_cases hk : i = kk
          · subst hk
            have hv : valOf n3 z2 z1 zb i i tc = false := by unfold valOf; rw [if_pos rfl]
            go_wp2
            go_quiet (fail)
            go_wp2
            go_roundg (n3 - (i + 1))
            case measure => go_light; omega
            case rel =>
              go_light
              exact ⟨i + 1, tc, false, by omega, rfl, rfl, by go_num, ⟨fun a => Nat.le_trans (HE.out.le a) (by rw [cnt_step]; omega), .inr (.inr ⟨by omega, rfl⟩)⟩, (HB.out.trans ((below_drewN' wr nq).mono HB.out.size)), (World.rowIs.of_block HT.out rfl)⟩
          · have hk' : ((i : Int) == (kk : Int)) = false := by rw [beq_eq_false_iff_ne]; omega
            by_cases hb : z1 i ≤ (tc i : Int)
            · have hv : valOf n3 z2 z1 zb kk i tc = true := by unfold valOf; rw [if_neg hk, if_neg hc]; exact decide_eq_true hb
              exact absurd hv (by rw [HE.out.root HW.out hkn (by omega)]; simp)
            · have hbd : decide (z1 i ≤ (tc i : Int)) = false := decide_eq_false hb
              have hv : valOf n3 z2 z1 zb kk i tc = false := by unfold valOf; rw [if_neg hk, if_neg hc]; exact hbd
              go_wp2
              go_quiet (fail)
              go_wp2
              go_roundg (n3 - (i + 1))
              case measure => go_light; omega
              case rel =>
                go_light
                exact ⟨i + 1, tc, false, by omega, rfl, rfl, by go_num, ⟨fun a => Nat.le_trans (HE.out.le a) (by rw [cnt_step]; omega), .inr (.inr ⟨by omega, rfl⟩)⟩, (HB.out.trans ((below_drewN' wr nq).mono HB.out.size)), (World.rowIs.of_block HT.out rfl)⟩
    · obtain rfl : i = n3 := by omega
      have hr : r = false := by
        rcases hE.st with s | ⟨x, _, s, s', _⟩ | ⟨_, s⟩
        · omega
        · omega
        · exact s
      subst hr
      clear hE hT
      go_wp2
      go_ret
      exact ⟨rfl, B6.trans (hB.mono B6.size)⟩

end Go.Proofs.Qxb6000405a
