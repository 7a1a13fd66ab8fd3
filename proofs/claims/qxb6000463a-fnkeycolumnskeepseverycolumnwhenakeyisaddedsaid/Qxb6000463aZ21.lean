/-
  THE WALK of the bound on lengths (func 21).
-/
import Derived.Test.Qxb6000463aFr
namespace Go.Proofs.Qxb6000463a
open Go.RowKit

/-- What the bound on lengths gives, where a key is added. -/
def RetZK (w : World) (N : Nat) (ts : Nat → Td) (k : Kd) (e : Ending) (w' : World) : Prop :=
  ∃ b : Bool, e = .returned (.bool b) ∧ Below w.heap.size w w' ∧ (b = true → N ≤ 1048576 ∧ (∀ i, i < N → Zd (ts i)) ∧ k.n ≤ 1048576 ∧ k.m ≤ 1048576)

set_option maxRecDepth 100000 in
set_option maxHeartbeats 16000000 in
theorem z21_any (a : Option Addr) (N c b0 o0 : Nat) (ts : Nat → Td) (is : Nat → Ti) (kk : Int) (v1 v2 : Value) (k : Kd) (w : World) (ha : 0 < N → a = some ⟨b0, o0, none⟩) (hin : ∀ i, i < N → TIn w b0 (o0 + i * 7) (ts i) (is i)) (hk : KeyIn w v1 v2 k) :
    Calls Try.prog 21 #[.slice a N c, .int .i64 kk, .agg #[v1, v2]] w (RetZK w N ts k) := by
  obtain ⟨ka, kc, ka', kc', rfl, rfl, ⟨kb1, ko1, kq1, kr1⟩, ⟨kb2, ko2, kq2, kr2⟩, _⟩ := hk
  obtain ⟨W, hW⟩ : ∃ W, W = w.alloc (.cells #[.slice ka k.n kc, .slice ka' k.m kc'] 59) := ⟨_, rfl⟩
  have bW : Below w.heap.size w W := by rw [hW]; exact (Below.refl _ _).alloc (Nat.le_refl _) _
  have g0 : W.cell? ⟨w.heap.size, 0, none⟩ = some (.slice ka k.n kc) := by rw [hW, World.cell?_alloc_at _ _ _ _ rfl]; rfl
  have g1 : W.cell? ⟨w.heap.size, 1, none⟩ = some (.slice ka' k.m kc') := by rw [hW, World.cell?_alloc_at _ _ _ _ rfl]; rfl
  have HKR1 : Hid (∀ i, i < k.n → w.cell? ⟨kb1, ko1 + i, none⟩ = some (.string (k.col i))) := kr1
  have HKR2 : Hid (∀ i, i < k.m → w.cell? ⟨kb2, ko2 + i, none⟩ = some (.string (k.co i))) := kr2
  have HW : Hid (W = w.alloc (.cells #[.slice ka k.n kc, .slice ka' k.m kc'] 59)) := hW
  have HIN : Hid (∀ i, i < N → TIn W b0 (o0 + i * 7) (ts i) (is i)) := fun i hi => (hin i hi).below bW
  clear hin kr1 kr2 hW
  by_cases n0 : (1048576 : Int) < (N : Int)
  · go_enter Try.func21, Try.ntmps21
    go_upto_region 1 with fail
    rw [← HW.out]
    go_wp2
    go_ret
    exact ⟨false, rfl, bW, fun h => by cases h⟩
  go_enter Try.func21, Try.ntmps21
  go_upto_region 1 with fail
  rw [← HW.out]
  go_wp2
  have bN : N ≤ 1048576 := by omega
  refine wp_loop_ghost_k (fun gg ac wx => ∃ f : Nat → Value, ac = ⟨((List.range 490).map f).toArray, []⟩ ∧ ∃ (i : Nat) (x : Int), i ≤ N ∧ gg = N - i ∧ f 7 = .int .i64 x ∧ f 8 = .int .i64 i ∧ f 0 = .slice a N c ∧ f 5 = .pointer (some ⟨w.heap.size, 0, none⟩) ∧ (0 ≤ x ∧ x ≤ 1048576) ∧ W = wx ∧ ∀ y, y < i → Zd (ts y)) N ?_ ?_
  · exact ⟨_, act_f _ 490 rfl rfl, 0, _, Nat.zero_le _, rfl, rfl, rfl, rfl, rfl, ⟨by omega, by omega⟩, rfl, fun y hy => by omega⟩
  rintro gk _ wr ⟨f, rfl, i, x, hi, rfl, f7, f8, f0, f5, ⟨hx0, hx1⟩, rfl, hzd⟩
  intro J8 K8 hJ8 hK8
  rw [lit490 f, f7, f8, f0, f5]
  clear f7 f8 f0 f5
  have HZD : Hid (∀ y, y < i → Zd (ts y)) := hzd
  clear hzd n0
  by_cases hlt : i < N
  · obtain rfl := ha (by omega)
    have hltz : (i : Int) < (N : Int) := by omega
    have HI : Hid (TIn W b0 (o0 + i * 7) (ts i) (is i)) := HIN.out i hlt
    obtain ⟨T, hT⟩ : ∃ T, T = ts i := ⟨_, rfl⟩
    obtain ⟨M, hM⟩ : ∃ M, M = is i := ⟨_, rfl⟩
    rw [← hT, ← hM] at HI
    have HT : Hid (T = ts i) := hT
    clear hT hM
    have c0 : W.cell? ⟨b0, o0 + i * 7, none⟩ = some (.string T.sch) := HI.out.cells 0 _ rfl
    have c1 : W.cell? ⟨b0, o0 + i * 7 + 1, none⟩ = some (.string T.nm) := HI.out.cells 1 _ rfl
    have c3 : W.cell? ⟨b0, o0 + i * 7 + 3, none⟩ = some (.slice M.ca T.nc M.cc) := HI.out.cells 3 _ rfl
    go_upto_region 10 with fail
    by_cases s0 : (1048576 : Int) < (T.sch.size : Int)
    · go_wp2
      go_ret
      exact ⟨false, rfl, bW, fun h => by cases h⟩
    go_upto_region 13 with fail
    by_cases s1 : (1048576 : Int) < x + (T.sch.size : Int)
    · go_wp2
      go_ret
      exact ⟨false, rfl, bW, fun h => by cases h⟩
    go_upto_region 15 with fail
    by_cases s2 : (1048576 : Int) < (T.nm.size : Int)
    · go_wp2
      go_ret
      exact ⟨false, rfl, bW, fun h => by cases h⟩
    go_upto_region 18 with fail
    by_cases s3 : (1048576 : Int) < x + (T.sch.size : Int) + (T.nm.size : Int)
    · go_wp2
      go_ret
      exact ⟨false, rfl, bW, fun h => by cases h⟩
    go_upto_region 20 with fail
    by_cases s4 : (1048576 : Int) < (T.nc : Int)
    · go_wp2
      go_ret
      exact ⟨false, rfl, bW, fun h => by cases h⟩
    go_upto_region 23 with fail
    by_cases s5 : (1048576 : Int) < x + (T.sch.size : Int) + (T.nm.size : Int) + (T.nc : Int)
    · go_wp2
      go_ret
      exact ⟨false, rfl, bW, fun h => by cases h⟩
    have bnc : T.nc ≤ 1048576 := by omega
    go_wp2
    refine wp_loop_ghost_k (fun gg ac wx => ∃ f : Nat → Value, ac = ⟨((List.range 490).map f).toArray, []⟩ ∧ ∃ (j : Nat) (x : Int), j ≤ T.nc ∧ gg = T.nc - j ∧ f 7 = .int .i64 x ∧ f 9 = .int .i64 j ∧ f 0 = .slice (some ⟨b0, o0, none⟩) N c ∧ f 8 = .int .i64 i ∧ f 5 = .pointer (some ⟨w.heap.size, 0, none⟩) ∧ (0 ≤ x ∧ x ≤ 1048576) ∧ W = wx) T.nc ?_ ?_
    · exact ⟨_, act_f _ 490 rfl rfl, 0, _, Nat.zero_le _, rfl, rfl, rfl, rfl, rfl, rfl, ⟨by omega, by omega⟩, rfl⟩
    rintro gk _ wr ⟨f, rfl, j, x, hj, rfl, f7, f9, f0, f8, f5, ⟨hx0, hx1⟩, rfl⟩
    intro J9 K9 hJ9 hK9
    rw [lit490 f, f7, f9, f0, f8, f5]
    clear f7 f9 f0 f8 f5
    clear c0 c1 c3 s0 s1 s2 s3 s4 s5
    have c3 : W.cell? ⟨b0, o0 + i * 7 + 3, none⟩ = some (.slice M.ca T.nc M.cc) := HI.out.cells 3 _ rfl
    by_cases hjl : j < T.nc
    · have hjz : (j : Int) < (T.nc : Int) := by omega
      obtain ⟨ec, lc⟩ := HI.out.ca (by omega)
      rw [ec] at c3
      have d0 : W.cell? ⟨M.bc, M.oc + j * 3, none⟩ = some (.string (T.col j).nm) := (HI.out.cols j hjl).1 0 _ rfl
      have d2 : W.cell? ⟨M.bc, M.oc + j * 3 + 2, none⟩ = some (.string (T.col j).co) := (HI.out.cols j hjl).1 2 _ rfl
      clear ec
      go_upto_region 28 with fail
      by_cases s0 : (1048576 : Int) < ((T.col j).nm.size : Int)
      · go_wp2
        go_ret
        exact ⟨false, rfl, bW, fun h => by cases h⟩
      go_upto_region 31 with fail
      by_cases s1 : (1048576 : Int) < x + ((T.col j).nm.size : Int)
      · go_wp2
        go_ret
        exact ⟨false, rfl, bW, fun h => by cases h⟩
      go_upto_region 33 with fail
      by_cases s2 : (1048576 : Int) < ((T.col j).co.size : Int)
      · go_wp2
        go_ret
        exact ⟨false, rfl, bW, fun h => by cases h⟩
      go_upto_region 36 with fail
      by_cases s3 : (1048576 : Int) < x + ((T.col j).nm.size : Int) + ((T.col j).co.size : Int)
      · go_wp2
        go_ret
        exact ⟨false, rfl, bW, fun h => by cases h⟩
      go_wp2
      refine Handed.intro (T.nc - (j + 1)) (by omega) (hJ9 _ _ _ ?_)
      exact ⟨_, act_f _ 490 rfl rfl, j + 1, _, by omega, rfl, rfl, intEq _ _ (by omega), rfl, rfl, rfl, ⟨by omega, by omega⟩, rfl⟩
    · obtain rfl : j = T.nc := by omega
      clear hj hjl
      obtain ⟨pa, pc, pa', pc', e1, e2, ⟨b1, o1, q1, r1⟩, ⟨b2, o2, q2, r2⟩, _⟩ := HI.out.pri
      have HR1 : Hid (∀ i, i < T.pri.n → W.cell? ⟨b1, o1 + i, none⟩ = some (.string (T.pri.col i))) := r1
      have HR2 : Hid (∀ i, i < T.pri.m → W.cell? ⟨b2, o2 + i, none⟩ = some (.string (T.pri.co i))) := r2
      have c4 : W.cell? ⟨b0, o0 + i * 7 + 4, none⟩ = some (.slice pa T.pri.n pc) := by rw [← e1]; exact HI.out.cells 4 _ rfl
      have c5 : W.cell? ⟨b0, o0 + i * 7 + 5, none⟩ = some (.slice pa' T.pri.m pc') := by rw [← e2]; exact HI.out.cells 5 _ rfl
      clear r1 r2 e1 e2
      go_upto_region 38 with fail
      by_cases s0 : (1048576 : Int) < (T.pri.n : Int)
      · go_wp2
        go_ret
        exact ⟨false, rfl, bW, fun h => by cases h⟩
      go_upto_region 41 with fail
      by_cases s1 : (1048576 : Int) < x + (T.pri.n : Int)
      · go_wp2
        go_ret
        exact ⟨false, rfl, bW, fun h => by cases h⟩
      have bpn : T.pri.n ≤ 1048576 := by omega
      go_wp2
      refine wp_loop_ghost_k (fun gg ac wx => ∃ f : Nat → Value, ac = ⟨((List.range 490).map f).toArray, []⟩ ∧ ∃ (j : Nat) (x : Int), j ≤ T.pri.n ∧ gg = T.pri.n - j ∧ f 7 = .int .i64 x ∧ f 10 = .int .i64 j ∧ f 0 = .slice (some ⟨b0, o0, none⟩) N c ∧ f 8 = .int .i64 i ∧ f 5 = .pointer (some ⟨w.heap.size, 0, none⟩) ∧ (0 ≤ x ∧ x ≤ 1048576) ∧ W = wx) T.pri.n ?_ ?_
      · exact ⟨_, act_f _ 490 rfl rfl, 0, _, Nat.zero_le _, rfl, rfl, rfl, rfl, rfl, rfl, ⟨by omega, by omega⟩, rfl⟩
      rintro gk _ wr ⟨f, rfl, j, x, hj, rfl, f7, f10, f0, f8, f5, ⟨hx0, hx1⟩, rfl⟩
      intro J10 K10 hJ10 hK10
      rw [lit490 f, f7, f10, f0, f8, f5]
      clear f7 f10 f0 f8 f5
      clear c3 s0 s1
      by_cases hjl : j < T.pri.n
      · have hjz : (j : Int) < (T.pri.n : Int) := by omega
        obtain ⟨rfl, l1⟩ := q1 (by omega)
        have d0 : W.cell? ⟨b1, o1 + j, none⟩ = some (.string (T.pri.col j)) := HR1.out j hjl
        clear q1 q2
        go_upto_region 46 with fail
        by_cases s0 : (1048576 : Int) < ((T.pri.col j).size : Int)
        · go_wp2
          go_ret
          exact ⟨false, rfl, bW, fun h => by cases h⟩
        go_upto_region 49 with fail
        by_cases s1 : (1048576 : Int) < x + ((T.pri.col j).size : Int)
        · go_wp2
          go_ret
          exact ⟨false, rfl, bW, fun h => by cases h⟩
        go_wp2
        refine Handed.intro (T.pri.n - (j + 1)) (by omega) (hJ10 _ _ _ ?_)
        exact ⟨_, act_f _ 490 rfl rfl, j + 1, _, by omega, rfl, rfl, intEq _ _ (by omega), rfl, rfl, rfl, ⟨by omega, by omega⟩, rfl⟩
      · obtain rfl : j = T.pri.n := by omega
        clear hj hjl q1 HR1
        go_upto_region 51 with fail
        by_cases s0 : (1048576 : Int) < (T.pri.m : Int)
        · go_wp2
          go_ret
          exact ⟨false, rfl, bW, fun h => by cases h⟩
        go_upto_region 54 with fail
        by_cases s1 : (1048576 : Int) < x + (T.pri.m : Int)
        · go_wp2
          go_ret
          exact ⟨false, rfl, bW, fun h => by cases h⟩
        have bpm : T.pri.m ≤ 1048576 := by omega
        go_wp2
        refine wp_loop_ghost_k (fun gg ac wx => ∃ f : Nat → Value, ac = ⟨((List.range 490).map f).toArray, []⟩ ∧ ∃ (j : Nat) (x : Int), j ≤ T.pri.m ∧ gg = T.pri.m - j ∧ f 7 = .int .i64 x ∧ f 11 = .int .i64 j ∧ f 0 = .slice (some ⟨b0, o0, none⟩) N c ∧ f 8 = .int .i64 i ∧ f 5 = .pointer (some ⟨w.heap.size, 0, none⟩) ∧ (0 ≤ x ∧ x ≤ 1048576) ∧ W = wx) T.pri.m ?_ ?_
        · exact ⟨_, act_f _ 490 rfl rfl, 0, _, Nat.zero_le _, rfl, rfl, rfl, rfl, rfl, rfl, ⟨by omega, by omega⟩, rfl⟩
        rintro gk _ wr ⟨f, rfl, j, x, hj, rfl, f7, f11, f0, f8, f5, ⟨hx0, hx1⟩, rfl⟩
        intro J11 K11 hJ11 hK11
        rw [lit490 f, f7, f11, f0, f8, f5]
        clear f7 f11 f0 f8 f5
        clear c4 s0 s1
        by_cases hjl : j < T.pri.m
        · have hjz : (j : Int) < (T.pri.m : Int) := by omega
          obtain ⟨rfl, l2⟩ := q2 (by omega)
          have d0 : W.cell? ⟨b2, o2 + j, none⟩ = some (.string (T.pri.co j)) := HR2.out j hjl
          clear q2
          go_upto_region 59 with fail
          by_cases s0 : (1048576 : Int) < ((T.pri.co j).size : Int)
          · go_wp2
            go_ret
            exact ⟨false, rfl, bW, fun h => by cases h⟩
          go_upto_region 62 with fail
          by_cases s1 : (1048576 : Int) < x + ((T.pri.co j).size : Int)
          · go_wp2
            go_ret
            exact ⟨false, rfl, bW, fun h => by cases h⟩
          go_wp2
          refine Handed.intro (T.pri.m - (j + 1)) (by omega) (hJ11 _ _ _ ?_)
          exact ⟨_, act_f _ 490 rfl rfl, j + 1, _, by omega, rfl, rfl, intEq _ _ (by omega), rfl, rfl, rfl, ⟨by omega, by omega⟩, rfl⟩
        · obtain rfl : j = T.pri.m := by omega
          clear hj hjl q2 HR2
          have c6 : W.cell? ⟨b0, o0 + i * 7 + 6, none⟩ = some (.slice M.ua T.nu M.uc) := HI.out.cells 6 _ rfl
          go_upto_region 64 with fail
          by_cases s0 : (1048576 : Int) < (T.nu : Int)
          · go_wp2
            go_ret
            exact ⟨false, rfl, bW, fun h => by cases h⟩
          go_upto_region 67 with fail
          by_cases s1 : (1048576 : Int) < x + (T.nu : Int)
          · go_wp2
            go_ret
            exact ⟨false, rfl, bW, fun h => by cases h⟩
          have bnu : T.nu ≤ 1048576 := by omega
          go_wp2
          refine wp_loop_ghost_k (fun gg ac wx => ∃ f : Nat → Value, ac = ⟨((List.range 490).map f).toArray, []⟩ ∧ ∃ (u : Nat) (x : Int), u ≤ T.nu ∧ gg = T.nu - u ∧ f 7 = .int .i64 x ∧ f 12 = .int .i64 u ∧ f 0 = .slice (some ⟨b0, o0, none⟩) N c ∧ f 8 = .int .i64 i ∧ f 5 = .pointer (some ⟨w.heap.size, 0, none⟩) ∧ (0 ≤ x ∧ x ≤ 1048576) ∧ W = wx ∧ ∀ y, y < u → (T.uni y).n ≤ 1048576 ∧ (T.uni y).m ≤ 1048576) T.nu ?_ ?_
          · exact ⟨_, act_f _ 490 rfl rfl, 0, _, Nat.zero_le _, rfl, rfl, rfl, rfl, rfl, rfl, ⟨by omega, by omega⟩, rfl, fun y hy => by omega⟩
          rintro gk _ wr ⟨f, rfl, u, x, hu, rfl, f7, f12, f0, f8, f5, ⟨hx0, hx1⟩, rfl, huk⟩
          intro J12 K12 hJ12 hK12
          rw [lit490 f, f7, f12, f0, f8, f5]
          clear f7 f12 f0 f8 f5
          have HUK : Hid (∀ y, y < u → (T.uni y).n ≤ 1048576 ∧ (T.uni y).m ≤ 1048576) := huk
          clear huk c6 s0 s1
          have c6 : W.cell? ⟨b0, o0 + i * 7 + 6, none⟩ = some (.slice M.ua T.nu M.uc) := HI.out.cells 6 _ rfl
          by_cases hul : u < T.nu
          · have huz : (u : Int) < (T.nu : Int) := by omega
            obtain ⟨eu, lu⟩ := HI.out.ua (by omega)
            rw [eu] at c6
            obtain ⟨y1, y2, ⟨xa, xc, xa', xc', e1, e2, ⟨b3, o3, q3, r3⟩, ⟨b4, o4, q4, r4⟩, _⟩⟩ := HI.out.uni u hul
            rw [e1] at y1
            rw [e2] at y2
            have HR3 : Hid (∀ i, i < (T.uni u).n → W.cell? ⟨b3, o3 + i, none⟩ = some (.string ((T.uni u).col i))) := r3
            have HR4 : Hid (∀ i, i < (T.uni u).m → W.cell? ⟨b4, o4 + i, none⟩ = some (.string ((T.uni u).co i))) := r4
            clear eu e1 e2 r3 r4
            obtain ⟨K, hK⟩ : ∃ K, K = T.uni u := ⟨_, rfl⟩
            rw [← hK] at y1 y2 q3 q4 HR3 HR4
            have HK : Hid (K = T.uni u) := hK
            clear hK
            go_upto_region 72 with fail
            by_cases s0 : (1048576 : Int) < (K.n : Int)
            · go_wp2
              go_ret
              exact ⟨false, rfl, bW, fun h => by cases h⟩
            go_upto_region 75 with fail
            by_cases s1 : (1048576 : Int) < x + (K.n : Int)
            · go_wp2
              go_ret
              exact ⟨false, rfl, bW, fun h => by cases h⟩
            have bkn : K.n ≤ 1048576 := by omega
            go_wp2
            refine wp_loop_ghost_k (fun gg ac wx => ∃ f : Nat → Value, ac = ⟨((List.range 490).map f).toArray, []⟩ ∧ ∃ (j : Nat) (x : Int), j ≤ K.n ∧ gg = K.n - j ∧ f 7 = .int .i64 x ∧ f 13 = .int .i64 j ∧ f 0 = .slice (some ⟨b0, o0, none⟩) N c ∧ f 8 = .int .i64 i ∧ f 5 = .pointer (some ⟨w.heap.size, 0, none⟩) ∧ f 12 = .int .i64 u ∧ (0 ≤ x ∧ x ≤ 1048576) ∧ W = wx) K.n ?_ ?_
            · exact ⟨_, act_f _ 490 rfl rfl, 0, _, Nat.zero_le _, rfl, rfl, rfl, rfl, rfl, rfl, rfl, ⟨by omega, by omega⟩, rfl⟩
            rintro gk _ wr ⟨f, rfl, j, x, hj, rfl, f7, f13, f0, f8, f5, f12, ⟨hx0, hx1⟩, rfl⟩
            intro J13 K13 hJ13 hK13
            rw [lit490 f, f7, f13, f0, f8, f5, f12]
            clear f7 f13 f0 f8 f5 f12
            clear s0 s1
            by_cases hjl : j < K.n
            · have hjz : (j : Int) < (K.n : Int) := by omega
              obtain ⟨rfl, l3⟩ := q3 (by omega)
              have d0 : W.cell? ⟨b3, o3 + j, none⟩ = some (.string (K.col j)) := HR3.out j hjl
              clear q3 q4
              go_upto_region 80 with fail
              by_cases s0 : (1048576 : Int) < ((K.col j).size : Int)
              · go_wp2
                go_ret
                exact ⟨false, rfl, bW, fun h => by cases h⟩
              go_upto_region 83 with fail
              by_cases s1 : (1048576 : Int) < x + ((K.col j).size : Int)
              · go_wp2
                go_ret
                exact ⟨false, rfl, bW, fun h => by cases h⟩
              go_wp2
              refine Handed.intro (K.n - (j + 1)) (by omega) (hJ13 _ _ _ ?_)
              exact ⟨_, act_f _ 490 rfl rfl, j + 1, _, by omega, rfl, rfl, intEq _ _ (by omega), rfl, rfl, rfl, rfl, ⟨by omega, by omega⟩, rfl⟩
            · obtain rfl : j = K.n := by omega
              clear hj hjl q3 HR3
              go_upto_region 85 with fail
              by_cases s0 : (1048576 : Int) < (K.m : Int)
              · go_wp2
                go_ret
                exact ⟨false, rfl, bW, fun h => by cases h⟩
              go_upto_region 88 with fail
              by_cases s1 : (1048576 : Int) < x + (K.m : Int)
              · go_wp2
                go_ret
                exact ⟨false, rfl, bW, fun h => by cases h⟩
              have bkm : K.m ≤ 1048576 := by omega
              go_wp2
              refine wp_loop_ghost_k (fun gg ac wx => ∃ f : Nat → Value, ac = ⟨((List.range 490).map f).toArray, []⟩ ∧ ∃ (j : Nat) (x : Int), j ≤ K.m ∧ gg = K.m - j ∧ f 7 = .int .i64 x ∧ f 14 = .int .i64 j ∧ f 0 = .slice (some ⟨b0, o0, none⟩) N c ∧ f 8 = .int .i64 i ∧ f 5 = .pointer (some ⟨w.heap.size, 0, none⟩) ∧ f 12 = .int .i64 u ∧ (0 ≤ x ∧ x ≤ 1048576) ∧ W = wx) K.m ?_ ?_
              · exact ⟨_, act_f _ 490 rfl rfl, 0, _, Nat.zero_le _, rfl, rfl, rfl, rfl, rfl, rfl, rfl, ⟨by omega, by omega⟩, rfl⟩
              rintro gk _ wr ⟨f, rfl, j, x, hj, rfl, f7, f14, f0, f8, f5, f12, ⟨hx0, hx1⟩, rfl⟩
              intro J14 K14 hJ14 hK14
              rw [lit490 f, f7, f14, f0, f8, f5, f12]
              clear f7 f14 f0 f8 f5 f12
              clear s0 s1
              by_cases hjl : j < K.m
              · have hjz : (j : Int) < (K.m : Int) := by omega
                obtain ⟨rfl, l4⟩ := q4 (by omega)
                have d0 : W.cell? ⟨b4, o4 + j, none⟩ = some (.string (K.co j)) := HR4.out j hjl
                clear q4
                go_upto_region 93 with fail
                by_cases s0 : (1048576 : Int) < ((K.co j).size : Int)
                · go_wp2
                  go_ret
                  exact ⟨false, rfl, bW, fun h => by cases h⟩
                go_upto_region 96 with fail
                by_cases s1 : (1048576 : Int) < x + ((K.co j).size : Int)
                · go_wp2
                  go_ret
                  exact ⟨false, rfl, bW, fun h => by cases h⟩
                go_wp2
                refine Handed.intro (K.m - (j + 1)) (by omega) (hJ14 _ _ _ ?_)
                exact ⟨_, act_f _ 490 rfl rfl, j + 1, _, by omega, rfl, rfl, intEq _ _ (by omega), rfl, rfl, rfl, rfl, ⟨by omega, by omega⟩, rfl⟩
              · obtain rfl : j = K.m := by omega
                have HUN : Hid (∀ y, y < u + 1 → (T.uni y).n ≤ 1048576 ∧ (T.uni y).m ≤ 1048576) := fun y hy => by
                  by_cases e : y = u
                  · subst e; rw [← HK.out]; exact ⟨bkn, bkm⟩
                  · exact HUK.out y (by omega)
                clear hj hjl q4 HR4
                go_wp2
                refine Handed.intro (T.nu - (u + 1)) (by omega) (hJ12 _ _ _ ?_)
                exact ⟨_, act_f _ 490 rfl rfl, u + 1, _, by omega, rfl, rfl, intEq _ _ (by omega), rfl, rfl, rfl, ⟨by omega, by omega⟩, rfl, HUN.out⟩
          · obtain rfl : u = T.nu := by omega
            have HZN : Hid (∀ y, y < i + 1 → Zd (ts y)) := fun y hy => by
              by_cases e : y = i
              · subst e
                rw [← HT.out]
                refine ⟨bnc, bnu, fun u hu => ?_⟩
                cases u with
                | zero => exact ⟨bpn, bpm⟩
                | succ u => exact HUK.out u (by omega)
              · exact HZD.out y (by omega)
            clear hu hul
            go_wp2
            refine Handed.intro (N - (i + 1)) (by omega) (hJ8 _ _ _ ?_)
            exact ⟨_, act_f _ 490 rfl rfl, i + 1, _, by omega, rfl, rfl, intEq _ _ (by omega), rfl, rfl, ⟨by omega, by omega⟩, rfl, HZN.out⟩
  · obtain rfl : i = N := by omega
    clear hi hlt
    go_upto_region 98 with fail
    by_cases s0 : (1048576 : Int) < (k.n : Int)
    · go_wp2
      go_ret
      exact ⟨false, rfl, bW, fun h => by cases h⟩
    go_upto_region 101 with fail
    by_cases s1 : (1048576 : Int) < x + (k.n : Int)
    · go_wp2
      go_ret
      exact ⟨false, rfl, bW, fun h => by cases h⟩
    have bkn : k.n ≤ 1048576 := by omega
    go_wp2
    refine wp_loop_ghost_k (fun gg ac wx => ∃ f : Nat → Value, ac = ⟨((List.range 490).map f).toArray, []⟩ ∧ ∃ (j : Nat) (x : Int), j ≤ k.n ∧ gg = k.n - j ∧ f 7 = .int .i64 x ∧ f 15 = .int .i64 j ∧ f 5 = .pointer (some ⟨w.heap.size, 0, none⟩) ∧ (0 ≤ x ∧ x ≤ 1048576) ∧ W = wx) k.n ?_ ?_
    · exact ⟨_, act_f _ 490 rfl rfl, 0, _, Nat.zero_le _, rfl, rfl, rfl, rfl, ⟨by omega, by omega⟩, rfl⟩
    rintro gk _ wr ⟨f, rfl, j, x, hj, rfl, f7, f15, f5, ⟨hx0, hx1⟩, rfl⟩
    intro J15 K15 hJ15 hK15
    rw [lit490 f, f7, f15, f5]
    clear f7 f15 f5
    clear s0 s1
    by_cases hjl : j < k.n
    · have hjz : (j : Int) < (k.n : Int) := by omega
      obtain ⟨rfl, l1⟩ := kq1 (by omega)
      have d0 : W.cell? ⟨kb1, ko1 + j, none⟩ = some (.string (k.col j)) := by rw [bW.cell (p := ⟨kb1, ko1 + j, none⟩) l1]; exact HKR1.out j hjl
      clear kq1 kq2
      go_upto_region 106 with fail
      by_cases s0 : (1048576 : Int) < ((k.col j).size : Int)
      · go_wp2
        go_ret
        exact ⟨false, rfl, bW, fun h => by cases h⟩
      go_upto_region 109 with fail
      by_cases s1 : (1048576 : Int) < x + ((k.col j).size : Int)
      · go_wp2
        go_ret
        exact ⟨false, rfl, bW, fun h => by cases h⟩
      go_wp2
      refine Handed.intro (k.n - (j + 1)) (by omega) (hJ15 _ _ _ ?_)
      exact ⟨_, act_f _ 490 rfl rfl, j + 1, _, by omega, rfl, rfl, intEq _ _ (by omega), rfl, ⟨by omega, by omega⟩, rfl⟩
    · obtain rfl : j = k.n := by omega
      clear hj hjl kq1 HKR1
      go_upto_region 111 with fail
      by_cases s0 : (1048576 : Int) < (k.m : Int)
      · go_wp2
        go_ret
        exact ⟨false, rfl, bW, fun h => by cases h⟩
      go_upto_region 114 with fail
      by_cases s1 : (1048576 : Int) < x + (k.m : Int)
      · go_wp2
        go_ret
        exact ⟨false, rfl, bW, fun h => by cases h⟩
      have bkm : k.m ≤ 1048576 := by omega
      go_wp2
      refine wp_loop_ghost_k (fun gg ac wx => ∃ f : Nat → Value, ac = ⟨((List.range 490).map f).toArray, []⟩ ∧ ∃ (j : Nat) (x : Int), j ≤ k.m ∧ gg = k.m - j ∧ f 7 = .int .i64 x ∧ f 16 = .int .i64 j ∧ f 5 = .pointer (some ⟨w.heap.size, 0, none⟩) ∧ (0 ≤ x ∧ x ≤ 1048576) ∧ W = wx) k.m ?_ ?_
      · exact ⟨_, act_f _ 490 rfl rfl, 0, _, Nat.zero_le _, rfl, rfl, rfl, rfl, ⟨by omega, by omega⟩, rfl⟩
      rintro gk _ wr ⟨f, rfl, j, x, hj, rfl, f7, f16, f5, ⟨hx0, hx1⟩, rfl⟩
      intro J16 K16 hJ16 hK16
      rw [lit490 f, f7, f16, f5]
      clear f7 f16 f5
      clear s0 s1
      by_cases hjl : j < k.m
      · have hjz : (j : Int) < (k.m : Int) := by omega
        obtain ⟨rfl, l2⟩ := kq2 (by omega)
        have d0 : W.cell? ⟨kb2, ko2 + j, none⟩ = some (.string (k.co j)) := by rw [bW.cell (p := ⟨kb2, ko2 + j, none⟩) l2]; exact HKR2.out j hjl
        clear kq2
        go_upto_region 119 with fail
        by_cases s0 : (1048576 : Int) < ((k.co j).size : Int)
        · go_wp2
          go_ret
          exact ⟨false, rfl, bW, fun h => by cases h⟩
        go_upto_region 122 with fail
        by_cases s1 : (1048576 : Int) < x + ((k.co j).size : Int)
        · go_wp2
          go_ret
          exact ⟨false, rfl, bW, fun h => by cases h⟩
        go_wp2
        refine Handed.intro (k.m - (j + 1)) (by omega) (hJ16 _ _ _ ?_)
        exact ⟨_, act_f _ 490 rfl rfl, j + 1, _, by omega, rfl, rfl, intEq _ _ (by omega), rfl, ⟨by omega, by omega⟩, rfl⟩
      · obtain rfl : j = k.m := by omega
        clear hj hjl kq2
        go_wp2
        go_ret
        exact ⟨true, rfl, bW, fun _ => ⟨bN, HZD.out, bkn, bkm⟩⟩

end Go.Proofs.Qxb6000463a
