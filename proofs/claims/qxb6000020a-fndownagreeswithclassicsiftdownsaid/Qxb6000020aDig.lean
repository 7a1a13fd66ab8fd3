/-
  THE WALK of '(turns).down'.
-/
import Derived.Test.Qxb6000020aDown
namespace Go.Proofs.Qxb6000020a
open Go.RowKit

theorem TAt.below {w w' : World} {b o : Nat} {a : T4} (h : TAt w b o a) (hb : Below w.heap.size w w') : TAt w' b o a := by
  have hl : b < w.heap.size := World.block_lt_of_cell? _ _ h.c0
  exact ⟨(hb.cell (p := ⟨b, o, none⟩) hl).trans h.c0, (hb.cell (p := ⟨b, o + 1, none⟩) hl).trans h.c1, (hb.cell (p := ⟨b, o + 2, none⟩) hl).trans h.c2, (hb.cell (p := ⟨b, o + 3, none⟩) hl).trans h.c3⟩
theorem TAt.other {w : World} {b o : Nat} {a : T4} (h : TAt w b o a) {x : Addr} (hx : b ≠ x.block) (v : Value) : TAt (w.setCell x v) b o a := by
  have e : ∀ y, (w.setCell x v).cell? ⟨b, y, none⟩ = w.cell? ⟨b, y, none⟩ := fun y => World.cell?_of_block (w := w) (a := ⟨b, y, none⟩) (Below.heap_setCell _ _ _ _ hx)
  exact ⟨(e _).trans h.c0, (e _).trans h.c1, (e _).trans h.c2, (e _).trans h.c3⟩
theorem TAt.put {w : World} {b o g i : Nat} {a : T4} (h : TAt w b o a) (hx : b ≠ g) (x0 x1 x2 x3 : Value) :
    TAt ((((w.setCell ⟨g, i * 4, none⟩ x0).setCell ⟨g, i * 4 + 1, none⟩ x1).setCell ⟨g, i * 4 + 2, none⟩ x2).setCell ⟨g, i * 4 + 3, none⟩ x3) b o a :=
  (((h.other hx _).other hx _).other hx _).other hx _
theorem TAt.new (w : World) (a : T4) (t : TypeId) : TAt (w.alloc (.cells #[.int .i64 a.s, .int .i32 a.n, .int .i64 a.k, .int .i64 a.r] t)) w.heap.size 0 a :=
  ⟨by simp, by simp, by simp, by simp⟩

/-- K: the leaf; d: where the turn is laid. -/
structure DownEnd (n : Nat) (q : Nat → T4) (i K d : Nat) : Prop where
  lt : path n q i K < n
  leaf : n ≤ 2 * path n q i K + 1
  le : d ≤ K
  up : ∀ m, d < m → m ≤ K → less (q i) (q (path n q i m)) = true
  stop : 0 < d → less (q i) (q (path n q i d)) = false

/-- What 'down' leaves. -/
def RetDown (w : World) (g n : Nat) (q : Nat → T4) (i : Nat) (e : Ending) (w' : World) : Prop :=
  e = .returned (.tuple #[]) ∧ w.grownBy w' (some g) ∧ ((n ≤ i ∧ TRow w' g 60 n q) ∨ (i < n ∧ ∃ K d, DownEnd n q i K d ∧ TRow w' g 60 n (laid n q i d)))

set_option maxHeartbeats 4000000 in
theorem down_any (g n c i : Nat) (q : Nat → T4) (w : World) (hn : n ≤ 4096) (hq : TRow w g 60 n q) :
    Calls Try.prog 36 #[.slice (some ⟨g, 0, none⟩) n c, .int .i64 i] w (RetDown w g n q i) := by
  by_cases hi : n ≤ i
  · go_enter Try.func36, Try.ntmps36
    go_wp2
    go_end0
    exact ⟨rfl, grownBy_refl _ _, .inl ⟨hi, hq⟩⟩
  · have hi' : i < n := by omega
    clear hi
    obtain ⟨c0, c1, c2, c3⟩ := hq.tat hi'
    have hiz : (i : Int) < (n : Int) := by omega
    have hid : decide (n ≤ i) = false := decide_eq_false (by omega)
    have hgs := hq.lt
    go_enter Try.func36, Try.ntmps36
    go_wp2
    clear c0 c1 c2 c3
    go_loopg [5] (n - i) (fun gg s wr => ∃ j, gg = n - path n q i j ∧ s = .int .i64 (path n q i j) ∧ path n q i j < n ∧ w.grownBy wr (some g) ∧ TAt wr w.heap.size 0 (q i) ∧ TRow wr g 60 n (digd n q i j))
    case atStart => exact ⟨0, rfl, rfl, hi', grownBy_alloc (grownBy_refl _ _) _, TAt.new _ _ _, TRow.alloc hq _⟩
    case round =>
      obtain ⟨j, rfl, rfl, hpn, hg, hu, hr⟩ := hrel
      have hX : Hid (∀ y, path n q i j ≤ y → digd n q i j y = q y) := fun y hy => digd_ge j hy
      have Hc : Hid (path n q i (j + 1) = child n q (path n q i j)) := rfl
      have HN : Hid (TRow wr g 60 n (digd n q i j)) := hr
      have HU : Hid (TAt wr w.heap.size 0 (q i)) := hu
      clear hu
      generalize hP : path n q i j = p at *
      have HP : Hid (path n q i j = p) := hP
      clear hP
      by_cases h1 : 2 * p + 1 < n
      · have T1 : ∀ x, TAt (grow wr x) g ((2 * p + 1) * 4) (q (2 * p + 1)) := fun x => by have := (hr.below (grow_below wr x)).tat h1; rwa [hX.out _ (by omega)] at this
        have T2 : 2 * p + 1 + 1 < n → ∀ x, TAt (grow wr x) g ((2 * p + 1 + 1) * 4) (q (2 * p + 1 + 1)) := fun h x => by have := (hr.below (grow_below wr x)).tat h; rwa [hX.out _ (by omega)] at this
        clear hr hq
        by_cases h2 : 2 * p + 1 + 1 < n
        · have h2z : 2 * (p : Int) + 1 + 1 < (n : Int) := by omega
          replace T2 := T2 h2
          cases h3 : less (q (2 * p + 1 + 1)) (q (2 * p + 1))
          · -- the first child
            go_wp2
            refine wp_region_grow (by kernel_rfl) (by kernel_rfl) ?_
            repeat (go_big_quiet_step ((go_at_call 39; exact quiet_grow (before_any _ _ _ _ _ _ _ (T2 _) (T1 _)))))
            refine wpQuiet_nil ?_
            intro _ hw'
            obtain ⟨x, rfl⟩ := hw'
            clear T1 T2
            have B2 := grow_below wr x
            have hr2 := HN.out.below B2
            have hg2 := grownBy_below hg B2
            have HU2 : Hid (TAt (grow wr x) w.heap.size 0 (q i)) := HU.out.below B2
            clear hg B2
            generalize grow wr x = w2 at *
            have HR2 : Hid (TRow w2 g 60 n (digd n q i j)) := hr2
            obtain ⟨p0, p1, p2, p3⟩ := hr2.tat hpn
            obtain ⟨a0, a1, a2, a3⟩ : TAt w2 g ((2 * p + 1) * 4) (q (2 * p + 1)) := by have := hr2.tat (show 2 * p + 1 < n by omega); rwa [hX.out _ (by omega)] at this
            have f0 := hr2.frozen (p * 4)
            have f1 := hr2.frozen (p * 4 + 1)
            have f2 := hr2.frozen (p * 4 + 2)
            have f3 := hr2.frozen (p * 4 + 3)
            clear hr2
            have Hc2 : Hid (path n q i (j + 1) = 2 * p + 1) := Hc.out.trans (by unfold child; rw [if_neg (fun h => by have h' : less (q (2 * p + 1 + 1)) (q (2 * p + 1)) = true := h.2; rw [h3] at h'; cases h')])
            go_wp2
            go_roundg (n - (2 * p + 1))
            case measure => go_light; omega
            case rel =>
              go_light
              refine ⟨j + 1, by rw [Hc2.out], by rw [Hc2.out]; go_num, by rw [Hc2.out]; omega, grownBy_put hg2 _ _ _ _ _, TAt.put HU2.out (by omega) _ _ _ _, ?_⟩
              rw [digd, HP.out, Hc2.out]
              exact TRow.put HR2.out p (q (2 * p + 1))
          · -- the second child
            go_wp2
            refine wp_region_grow (by kernel_rfl) (by kernel_rfl) ?_
            repeat (go_big_quiet_step ((go_at_call 39; exact quiet_grow (before_any _ _ _ _ _ _ _ (T2 _) (T1 _)))))
            refine wpQuiet_nil ?_
            intro _ hw'
            obtain ⟨x, rfl⟩ := hw'
            clear T1 T2
            have B2 := grow_below wr x
            have hr2 := HN.out.below B2
            have hg2 := grownBy_below hg B2
            have HU2 : Hid (TAt (grow wr x) w.heap.size 0 (q i)) := HU.out.below B2
            clear hg B2
            generalize grow wr x = w2 at *
            have HR2 : Hid (TRow w2 g 60 n (digd n q i j)) := hr2
            obtain ⟨p0, p1, p2, p3⟩ := hr2.tat hpn
            obtain ⟨a0, a1, a2, a3⟩ : TAt w2 g ((2 * p + 1 + 1) * 4) (q (2 * p + 1 + 1)) := by have := hr2.tat (show 2 * p + 1 + 1 < n by omega); rwa [hX.out _ (by omega)] at this
            have f0 := hr2.frozen (p * 4)
            have f1 := hr2.frozen (p * 4 + 1)
            have f2 := hr2.frozen (p * 4 + 2)
            have f3 := hr2.frozen (p * 4 + 3)
            clear hr2
            have Hc2 : Hid (path n q i (j + 1) = 2 * p + 1 + 1) := Hc.out.trans (by unfold child; rw [if_pos ⟨h2, h3⟩])
            go_wp2
            go_roundg (n - (2 * p + 1 + 1))
            case measure => go_light; omega
            case rel =>
              go_light
              refine ⟨j + 1, by rw [Hc2.out], by rw [Hc2.out]; go_num, by rw [Hc2.out]; omega, grownBy_put hg2 _ _ _ _ _, TAt.put HU2.out (by omega) _ _ _ _, ?_⟩
              rw [digd, HP.out, Hc2.out]
              exact TRow.put HR2.out p (q (2 * p + 1 + 1))
        · have h2d : decide (2 * (p : Int) + 1 + 1 < (n : Int)) = false := decide_eq_false (by omega)
          clear T2
          go_wp2
          refine wp_region_grow (by kernel_rfl) (by kernel_rfl) ?_
          repeat (go_big_quiet_step ((go_at_call 39; exact quiet_grow (before_any _ _ _ _ _ _ _ (T1 _) (T1 _)))))
          refine wpQuiet_nil ?_
          intro _ hw'
          obtain ⟨x, rfl⟩ := hw'
          clear T1 
          have B2 := grow_below wr x
          have hr2 := HN.out.below B2
          have hg2 := grownBy_below hg B2
          have HU2 : Hid (TAt (grow wr x) w.heap.size 0 (q i)) := HU.out.below B2
          clear hg B2
          generalize grow wr x = w2 at *
          have HR2 : Hid (TRow w2 g 60 n (digd n q i j)) := hr2
          obtain ⟨p0, p1, p2, p3⟩ := hr2.tat hpn
          obtain ⟨a0, a1, a2, a3⟩ : TAt w2 g ((2 * p + 1) * 4) (q (2 * p + 1)) := by have := hr2.tat (show 2 * p + 1 < n by omega); rwa [hX.out _ (by omega)] at this
          have f0 := hr2.frozen (p * 4)
          have f1 := hr2.frozen (p * 4 + 1)
          have f2 := hr2.frozen (p * 4 + 2)
          have f3 := hr2.frozen (p * 4 + 3)
          clear hr2
          have Hc2 : Hid (path n q i (j + 1) = 2 * p + 1) := Hc.out.trans (by unfold child; rw [if_neg (fun h => h2 h.1)])
          go_wp2
          go_roundg (n - (2 * p + 1))
          case measure => go_light; omega
          case rel =>
            go_light
            refine ⟨j + 1, by rw [Hc2.out], by rw [Hc2.out]; go_num, by rw [Hc2.out]; omega, grownBy_put hg2 _ _ _ _ _, TAt.put HU2.out (by omega) _ _ _ _, ?_⟩
            rw [digd, HP.out, Hc2.out]
            exact TRow.put HR2.out p (q (2 * p + 1))
      · clear hr hq
        have h1d : decide ((n : Int) ≤ 2 * (p : Int) + 1) = true := decide_eq_true (by omega)
        go_wp2
        have Hl : Hid (n ≤ 2 * path n q i j + 1) := (show n ≤ 2 * path n q i j + 1 by rw [HP.out]; omega)
        have Hn : Hid (path n q i j < n) := (show path n q i j < n by rw [HP.out]; exact hpn)
        clear Hc hX
        go_loopg [5] j (fun gg s wx => ∃ X, gg ≤ j ∧ s = .int .i64 (path n q i gg) ∧ path n q i gg < n ∧ w.grownBy wx (some g) ∧ TAt wx w.heap.size 0 (q i) ∧ AtHole n q i gg X ∧ TRow wx g 60 n X ∧ ∀ m, gg < m → m ≤ j → less (q i) (q (path n q i m)) = true)
        case atStart => exact ⟨digd n q i j, Nat.le_refl _, by rw [HP.out], Hn.out, hg, HU.out, fun _ _ => rfl, HN.out, fun m h1 h2 => by omega⟩
        case round =>
          obtain ⟨X, hj, rfl, hkn, hg2, hu2, ha, hr2, hup⟩ := hrel
          clear hg HU HN
          have HR : Hid (TRow wr g 60 n X) := hr2
          have HU : Hid (TAt wr w.heap.size 0 (q i)) := hu2
          have HA : Hid (AtHole n q i gk X) := ha
          have HE : Hid (∀ m, gk < m → m ≤ j → less (q i) (q (path n q i m)) = true) := hup
          clear hup ha
          obtain ⟨p0, p1, p2, p3⟩ := hr2.tat hkn
          have f0 := hr2.frozen (path n q i gk * 4)
          have f1 := hr2.frozen (path n q i gk * 4 + 1)
          have f2 := hr2.frozen (path n q i gk * 4 + 2)
          have f3 := hr2.frozen (path n q i gk * 4 + 3)
          have v0 : wr.cell? ⟨w.heap.size, 0, none⟩ = some (.int .i64 (q i).s) := hu2.c0
          have v1 : wr.cell? ⟨w.heap.size, 1, none⟩ = some (.int .i32 (q i).n) := hu2.c1
          have v2 : wr.cell? ⟨w.heap.size, 2, none⟩ = some (.int .i64 (q i).k) := hu2.c2
          have v3 : wr.cell? ⟨w.heap.size, 3, none⟩ = some (.int .i64 (q i).r) := hu2.c3
          have hgn : g ≠ w.heap.size := by omega
          cases gk with
          | zero =>
            have hz : path n q i 0 = i := rfl
            clear hr2 hu2
            rw [hz] at p0 p1 p2 p3 f0 f1 f2 f3 hkn ⊢
            clear hz
            go_wp2
            go_end0
            refine ⟨rfl, grownBy_put hg2 _ _ _ _ _, .inr ⟨hi', j, 0, ⟨Hn.out, Hl.out, Nat.zero_le _, HE.out, fun h => by omega⟩, ?_⟩⟩
            rw [← atHole_laid HA.out]
            exact TRow.put HR.out i (q i)
          | succ k =>
            have hlt := path_lt_succ (n := n) (q := q) (i := i) k
            have hge := path_ge (n := n) (q := q) (i := i) (k + 1)
            have Hpar : Hid ((path n q i (k + 1) - 1) / 2 = path n q i k) := path_parent k
            have T1 := hr2.tat (show path n q i k < n by omega)
            rw [atHole_parent HA.out, ← Hpar.out] at T1
            obtain ⟨t0, t1, t2, t3⟩ := T1
            have hk1 : i < path n q i (k + 1) := by omega
            clear hr2 hlt hge
            generalize hA : path n q i (k + 1) = a at *
            have HA1 : Hid (path n q i (k + 1) = a) := hA
            clear hA
            cases h4 : less (q i) (q a)
            · go_wp2_with fail
              refine (before_any (q i) (q a) _ _ _ _ _ hu2 ⟨t0, t1, t2, t3⟩).mono ?_
              rintro e w5 ⟨rfl, hb5⟩
              clear p0 p1 p2 p3 f0 f1 f2 f3 v0 v1 v2 v3 t0 t1 t2 t3 hu2
              have HR5 : Hid (TRow w5 g 60 n X) := HR.out.below hb5
              obtain ⟨p0, p1, p2, p3⟩ := HR5.out.tat hkn
              have f0 := HR5.out.frozen (a * 4)
              have f1 := HR5.out.frozen (a * 4 + 1)
              have f2 := HR5.out.frozen (a * 4 + 2)
              have f3 := HR5.out.frozen (a * 4 + 3)
              have hu5 := HU.out.below hb5
              have v0 : w5.cell? ⟨w.heap.size, 0, none⟩ = some (.int .i64 (q i).s) := hu5.c0
              have v1 : w5.cell? ⟨w.heap.size, 1, none⟩ = some (.int .i32 (q i).n) := hu5.c1
              have v2 : w5.cell? ⟨w.heap.size, 2, none⟩ = some (.int .i64 (q i).k) := hu5.c2
              have v3 : w5.cell? ⟨w.heap.size, 3, none⟩ = some (.int .i64 (q i).r) := hu5.c3
              have hg5 := grownBy_below hg2 hb5
              clear hg2 hb5 hu5
              go_wp2
              go_end0
              refine ⟨rfl, grownBy_put hg5 _ _ _ _ _, .inr ⟨hi', j, k + 1, ⟨Hn.out, Hl.out, hj, HE.out, fun _ => by rw [HA1.out]; exact h4⟩, ?_⟩⟩
              rw [← atHole_laid HA.out, HA1.out]
              exact TRow.put HR5.out a (q i)
            · go_wp2_with fail
              refine (before_any (q i) (q a) _ _ _ _ _ hu2 ⟨t0, t1, t2, t3⟩).mono ?_
              rintro e w5 ⟨rfl, hb5⟩
              clear p0 p1 p2 p3 f0 f1 f2 f3 v0 v1 v2 v3 hu2
              have HR5 : Hid (TRow w5 g 60 n X) := HR.out.below hb5
              obtain ⟨p0, p1, p2, p3⟩ := HR5.out.tat hkn
              have f0 := HR5.out.frozen (a * 4)
              have f1 := HR5.out.frozen (a * 4 + 1)
              have f2 := HR5.out.frozen (a * 4 + 2)
              have f3 := HR5.out.frozen (a * 4 + 3)
              obtain ⟨t0, t1, t2, t3⟩ := TAt.below ⟨t0, t1, t2, t3⟩ hb5
              have HU5 : Hid (TAt w5 w.heap.size 0 (q i)) := HU.out.below hb5
              have hg5 := grownBy_below hg2 hb5
              clear hg2 hb5
              go_wp2
              go_roundg k
              case measure => go_light; omega
              case rel =>
                go_light
                refine ⟨upd X a (q a), by omega, by rw [← Hpar.out]; go_num, by rw [← Hpar.out]; omega, grownBy_put hg5 _ _ _ _ _, TAt.put HU5.out (by omega) _ _ _ _, ?_, TRow.put HR5.out a (q a), fun m m1 m2 => ?_⟩
                · have := atHole_step HA.out
                  rwa [HA1.out] at this
                · by_cases e : m = k + 1
                  · rw [e, HA1.out]; exact h4
                  · exact HE.out m (by omega) m2

end Go.Proofs.Qxb6000020a
