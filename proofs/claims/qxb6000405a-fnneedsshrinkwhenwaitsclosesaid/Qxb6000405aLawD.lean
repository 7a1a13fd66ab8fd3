/-
  THE WALK of the law 'FnNeedsShrinkWhenWaitsClose', behind its tests on lengths.
-/
import Derived.Test.Qxb6000405aEarlyD
namespace Go.Proofs.Qxb6000405a
open Go.RowKit

/-- A wait's count, closed or not. -/
def cl (to : Int) (z : Nat → Int) (zc : Nat → Bool) (i : Nat) : Int := if zc i = true then to else z i

theorem cl_row {w : World} {g n k : Nat} {to : Int} {z : Nat → Int} {zc : Nat → Bool} (h : w.rowIs g 21 n (fun i => .int .i32 (if i < k then cl to z zc i else 0))) {v : Int} (hv : v = cl to z zc k) :
    (w.setCell ⟨g, k, none⟩ (.int .i32 v)).rowIs g 21 n (fun i => .int .i32 (if i < k + 1 then cl to z zc i else 0)) := by
  refine (h.set k _).congr fun j _ => ?_
  by_cases e : j = k
  · subst e; rw [if_pos rfl, if_pos (by omega), hv]
  · rw [if_neg e]
    by_cases hl : j < k
    · rw [if_pos hl, if_pos (by omega)]
    · rw [if_neg hl, if_neg (by omega)]

theorem cl_row2 {w : World} {g n k : Nat} {to : Int} {z : Nat → Int} {zc : Nat → Bool} (h : w.rowIs g 21 n (fun i => .int .i32 (if i < k then cl to z zc i else 0))) {u v : Int} (hv : v = cl to z zc k) :
    ((w.setCell ⟨g, k, none⟩ (.int .i32 u)).setCell ⟨g, k, none⟩ (.int .i32 v)).rowIs g 21 n (fun i => .int .i32 (if i < k + 1 then cl to z zc i else 0)) := by
  refine ((h.set k _).set k _).congr fun j _ => ?_
  by_cases e : j = k
  · subst e; rw [if_pos rfl, if_pos (by omega), hv]
  · rw [if_neg e, if_neg e]
    by_cases hl : j < k
    · rw [if_pos hl, if_pos (by omega)]
    · rw [if_neg hl, if_neg (by omega)]

set_option maxRecDepth 100000 in
set_option maxHeartbeats 16000000 in
theorem lateD_any (a0 a1 a2 a3 a4 a5 : Option Addr) (n0 n1 n2 n3 n4 n5 c0 c1 c2 c3 c4 c5 : Nat) (to : Int) (z0 z1 z2 z3 z4 : Nat → Int) (zc : Nat → Bool) (w : World) (l0 : n0 ≤ 4096) (l1 : n1 ≤ 4096) (l2 : n2 ≤ 4096) (l3 : n3 ≤ 4096) (l4 : n4 ≤ 4096) (l5 : n5 ≤ 4096)
    (p0 : a0 = none → n0 = 0 ∧ c0 = 0) (p1 : a1 = none → n1 = 0 ∧ c1 = 0) (p2 : a2 = none → n2 = 0 ∧ c2 = 0) (p3 : a3 = none → n3 = 0 ∧ c3 = 0) (p4 : a4 = none → n4 = 0 ∧ c4 = 0) (p5 : a5 = none → n5 = 0 ∧ c5 = 0)
    (h0 : Reads w a0 n0 (fun i => .int .i32 (z0 i))) (h1 : Reads w a1 n1 (fun i => .int .i32 (z1 i))) (h2 : Reads w a2 n2 (fun i => .int .i32 (z2 i))) (h3 : Reads w a3 n3 (fun i => .int .i32 (z3 i))) (h4 : Reads w a4 n4 (fun i => .int .i32 (z4 i)))
    (h5 : Reads w a5 n5 (fun i => .bool (zc i))) (i0 : I32 z0) (i2 : I32 z2) :
    Calls Try.prog 6 #[.slice a0 n0 c0, .slice a1 n1 c1, .slice a2 n2 c2, .slice a3 n3 c3, .slice a4 n4 c4, .slice a5 n5 c5, .int .i32 to] w (RetTrue w) := by
  have d0 : decide ((1048576 : Int) < (n0 : Int)) = false := decide_eq_false (by omega)
  have d1 : decide ((1048576 : Int) < (n1 : Int)) = false := decide_eq_false (by omega)
  have d2 : decide ((1048576 : Int) < (n2 : Int)) = false := decide_eq_false (by omega)
  have d3 : decide ((1048576 : Int) < (n3 : Int)) = false := decide_eq_false (by omega)
  have d4 : decide ((1048576 : Int) < (n4 : Int)) = false := decide_eq_false (by omega)
  have d5 : decide ((1048576 : Int) < (n5 : Int)) = false := decide_eq_false (by omega)
  have d6 : decide ((1048576 : Int) < 4 * ((n0 : Int) + (n1 : Int) + (n2 : Int) + (n3 : Int) + (n4 : Int)) + (n5 : Int)) = false := decide_eq_false (by omega)
  have d7 : decide ((4096 : Int) < (n0 : Int)) = false := decide_eq_false (by omega)
  have d8 : decide ((4096 : Int) < (n1 : Int)) = false := decide_eq_false (by omega)
  have d9 : decide ((4096 : Int) < (n2 : Int)) = false := decide_eq_false (by omega)
  have d10 : decide ((4096 : Int) < (n3 : Int)) = false := decide_eq_false (by omega)
  have d11 : decide ((4096 : Int) < (n4 : Int)) = false := decide_eq_false (by omega)
  have d12 : decide ((4096 : Int) < (n5 : Int)) = false := decide_eq_false (by omega)
  by_cases ht : to = 1
  · subst ht
    go_enter Try.func6, Try.ntmps6
    go_wp2_with fail
    refine (bytes18_any _ _ _ _ _ _ _ _ _ _ _ _ _ _ _ _ _ _ _ _).mono ?_
    rintro e w1 ⟨b, rfl, rfl⟩
    cases b
    all_goals
      go_wp2
      go_ret
      exact ⟨rfl, Below.refl _ _⟩
  have ht' : (to == 1) = false := beq_eq_false_iff_ne.2 ht
  go_enter Try.func6, Try.ntmps6
  go_wp2_with fail
  refine (bytes18_any _ _ _ _ _ _ _ _ _ _ _ _ _ _ _ _ _ _ _ _).mono ?_
  rintro e w1 ⟨b, rfl, rfl⟩
  cases b
  · go_wp2
    go_ret
    exact ⟨rfl, Below.refl _ _⟩
  go_wp2_with fail
  refine (input_any a0 a1 a2 a3 a4 n0 n1 n2 n3 n4 c0 c1 c2 c3 c4 z0 z2 z4 w l0 l4 h0 h2 h4 i0 i2).mono ?_
  rintro e w1 ⟨b, rfl, rfl, hok⟩
  cases b
  · go_wp2
    go_ret
    exact ⟨rfl, Below.refl _ _⟩
  obtain ⟨rfl, rfl, rfl, hW, hM, hP⟩ := hok rfl
  clear hok d0 d1 d2 d3 d4 d5 d6 d7 d8 d9 d10 d11 d12 i2 i0
  by_cases hn5 : n5 = n3
  rotate_left
  · have hn5' : ((n5 : Int) != (n3 : Int)) = true := by rw [bne_iff_ne]; omega
    go_wp2
    go_ret
    exact ⟨rfl, Below.refl _ _⟩
  subst hn5
  have b2 : Below w.heap.size w w := Below.refl _ _
  go_wp2_with fail
  refine (clone10_any _ _ c0 z0 w l0 (h0.below b2) p0).mono ?_
  rintro e w3 ⟨x0, f0, rfl, b3, r0⟩
  have B3 := b2.trans (b3.mono b2.size)
  go_wp2_with fail
  refine (clone10_any _ _ c1 z1 w3 l0 (h1.below B3) p1).mono ?_
  rintro e w4 ⟨x1, f1, rfl, b4, r1⟩
  have B4 := B3.trans (b4.mono B3.size)
  go_wp2_with fail
  refine (clone10_any _ _ c2 z2 w4 l0 (h2.below B4) p2).mono ?_
  rintro e w5 ⟨x2, f2, rfl, b5, r2⟩
  have B5 := B4.trans (b5.mono B4.size)
  go_wp2_with fail
  refine (clone10_any _ _ c3 z3 w5 l0 (h3.below B5) p3).mono ?_
  rintro e w6 ⟨x3, f3, rfl, b6, r3⟩
  have B6 := B5.trans (b6.mono B5.size)
  go_wp2_with fail
  refine (clone10_any _ _ c4 z4 w6 l4 (h4.below B6) p4).mono ?_
  rintro e w7 ⟨x4, f4, rfl, b7, r4⟩
  have B7 := B6.trans (b7.mono B6.size)
  go_wp2_with fail
  refine (clone14_any _ _ c5 zc w7 l0 (h5.below B7) p5).mono ?_
  rintro e w8 ⟨x5, f5, rfl, b8, r5⟩
  have B8 := B7.trans (b8.mono B7.size)
  replace r0 := ((((r0.below b4).below b5).below b6).below b7).below b8
  replace r1 := (((r1.below b5).below b6).below b7).below b8
  replace r2 := ((r2.below b6).below b7).below b8
  replace r3 := (r3.below b7).below b8
  replace r4 := r4.below b8
  clear b2 b3 b4 b5 b6 b7 b8 B3 B4 B5 B6 B7 h0 h1 h2 h3 h4 h5 p0 p1 p2 p3 p4 p5
  have R3 := r3
  obtain ⟨g3, o3, q3, v3⟩ := r3
  obtain ⟨g5, o5, q5, v5⟩ := r5
  have H3 : Hid (∀ i, i < n5 → w8.cell? ⟨g3, o3 + i, none⟩ = some (.int .i32 (z3 i))) := v3
  have H5 : Hid (∀ i, i < n5 → w8.cell? ⟨g5, o5 + i, none⟩ = some (.bool (zc i))) := v5
  have HQ3 : Hid (0 < n5 → x3 = some ⟨g3, o3, none⟩ ∧ g3 < w8.heap.size) := q3
  have HQ5 : Hid (0 < n5 → x5 = some ⟨g5, o5, none⟩ ∧ g5 < w8.heap.size) := q5
  clear v3 v5 q3 q5
  have hmk := run_make_row' (P := Try.prog) 22 21 (.int .i32 0) 4 Try.underlying22 Try.info21 rfl .i64 .i64 n5 (by omega) (by omega)
  have HR0 : Hid ((w8.alloc (.cells (madeCells #[.int .i32 0] n5) 21)).rowIs w8.heap.size 21 n5 (fun i => .int .i32 (if i < 0 then (cl to z3 zc i) else 0))) :=
    (World.rowIs_made w8 _ n5 21).congr (fun i _ => by simp)
  go_wp2
  clear hmk
  go_loopg [17] n5 (fun gg s wx => ∃ k : Nat, k ≤ n5 ∧ gg = n5 - k ∧ s = .int .i64 k ∧ Below w8.heap.size w8 wx ∧ wx.rowIs w8.heap.size 21 n5 (fun i => .int .i32 (if i < k then (cl to z3 zc i) else 0)))
  case atStart => exact ⟨0, Nat.zero_le _, rfl, rfl, (Below.refl _ _).alloc (Nat.le_refl _) _, HR0.out⟩
  case round =>
    obtain ⟨k, hk, rfl, rfl, hb, hr⟩ := hrel
    have HR : Hid (wr.rowIs w8.heap.size 21 n5 (fun i => .int .i32 (if i < k then (cl to z3 zc i) else 0))) := hr
    clear HR0
    by_cases hlt : k < n5
    · obtain ⟨e3, s3⟩ := HQ3.out (by omega)
      obtain ⟨e5, s5⟩ := HQ5.out (by omega)
      have hltz : (k : Int) < (n5 : Int) := by omega
      have c3 : wr.cell? ⟨g3, o3 + k, none⟩ = some (.int .i32 (z3 k)) := by rw [hb.cell (p := ⟨g3, o3 + k, none⟩) s3]; exact H3.out k hlt
      have c5 : wr.cell? ⟨g5, o5 + k, none⟩ = some (.bool (zc k)) := by rw [hb.cell (p := ⟨g5, o5 + k, none⟩) s5]; exact H5.out k hlt
      have cw := hr.cell hlt
      have fw := hr.frozen k
      subst e3 e5
      have hne : g5 ≠ w8.heap.size := by omega
      clear hr R3 r0 r1 r2 r4
      cases hc : zc k
      · rw [hc] at c5
        go_wp2
        go_roundg (n5 - (k + 1))
        case measure => go_light; omega
        case rel =>
          go_light
          exact ⟨k + 1, by omega, rfl, by go_num, hb.setCell (Nat.le_refl _) _, cl_row HR.out (by unfold cl; rw [hc]; rfl)⟩
      · rw [hc] at c5
        go_wp2
        go_roundg (n5 - (k + 1))
        case measure => go_light; omega
        case rel =>
          go_light
          exact ⟨k + 1, by omega, rfl, by go_num, (hb.setCell (Nat.le_refl _) _).setCell (Nat.le_refl _) _, cl_row2 HR.out (by unfold cl; rw [hc]; rfl)⟩
    · obtain rfl : k = n5 := by omega
      have hC : wr.rowIs w8.heap.size 21 k (fun i => .int .i32 (cl to z3 zc i)) := hr.congr (fun j hj => by rw [if_pos hj])
      have RC := Reads.of_row hC
      have BX := B8.trans (hb.mono B8.size)
      clear hr HR hC
      go_wp2_with fail
      refine (zzneeds_any x0 x1 x2 x3 x4 k n4 f0 f1 f2 f3 f4 z0 z1 z2 z3 z4 wr l0 (r0.below hb) (r1.below hb) (r2.below hb) (R3.below hb) (r4.below hb) hW hP hM).mono ?_
      rintro e w9 ⟨m1, hm1, rfl, b9⟩
      have hb9 := hb.trans (b9.mono hb.size)
      go_wp2_with fail
      refine (zzneeds_any x0 x1 x2 _ x4 k n4 f0 f1 f2 _ f4 z0 z1 z2 (cl to z3 zc) z4 w9 l0 (r0.below hb9) (r1.below hb9) (r2.below hb9) (RC.below b9) (r4.below hb9) hW hP hM).mono ?_
      rintro e w10 ⟨m2, hm2, rfl, b10⟩
      have hs := st_shrinks (n := k) (p := fun i => (mk3 z0 z1 z2 i).p) (nn := z3) (n2 := cl to z3 zc) (mem := z4) (f := m1) (g := m2) (fl0 := decide (inner (fun i => (mk3 z0 z1 z2 i).p) k ≤ 1))
        (fun i hi => need_unique hW hm1 hm2 (k - 1 - i) i (by omega)) (fun i _ h => by unfold cl at h; split at h; exact absurd h ht; exact h) k (Nat.le_refl _)
      have hF : Fits k (fun i => (mk3 z0 z1 z2 i).p) z4 := fun i hi h0 => hM _ (by have h1 : z0 i < (n4 : Int) := hP i hi; have h2 : 0 ≤ z0 i := h0; show (z0 i).toNat < n4; omega)
      have lt1 := (st_lt (nn := z3) (must := m1) (fl0 := decide (inner (fun i => (mk3 z0 z1 z2 i).p) k ≤ 1)) hF k (Nat.le_refl _)).2
      have lt2 := (st_lt (nn := cl to z3 zc) (must := m2) (fl0 := decide (inner (fun i => (mk3 z0 z1 z2 i).p) k ≤ 1)) hF k (Nat.le_refl _)).2
      generalize st (fun i => (mk3 z0 z1 z2 i).p) z3 z4 m1 (decide (inner (fun i => (mk3 z0 z1 z2 i).p) k ≤ 1)) k = S1 at *
      generalize st (fun i => (mk3 z0 z1 z2 i).p) (cl to z3 zc) z4 m2 (decide (inner (fun i => (mk3 z0 z1 z2 i).p) k ≤ 1)) k = S2 at *
      obtain ⟨nm1, nd1, fl1⟩ := S1
      obtain ⟨nm2, nd2, fl2⟩ := S2
      dsimp only at *
      have hz : bits .andNot .u32 (nd2 : Int) (nd1 : Int) = 0 := by rw [u32_andNot_nat nd2 nd1 lt2 lt1, andNot_zero hs.2.1 lt1]; rfl
      have BF : Below w.heap.size w w10 := (BX.trans (b9.mono BX.size)).trans (b10.mono (Nat.le_trans BX.size b9.size))
      have hfl := hs.2.2
      clear hs lt1 lt2 hF hm1 hm2 b10 b9 RC r0 r1 r2 R3 r4 hb hb9 BX B8 hW hP hM
      cases fl1
      · clear hfl
        go_wp2
        go_ret
        exact ⟨rfl, BF⟩
      · obtain rfl : fl2 = true := hfl rfl
        clear hfl
        go_wp2
        go_ret
        exact ⟨rfl, BF⟩

end Go.Proofs.Qxb6000405a
