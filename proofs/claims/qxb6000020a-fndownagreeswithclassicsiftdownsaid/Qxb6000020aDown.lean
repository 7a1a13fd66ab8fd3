/-
  THE WALK of 'zzHB1SiftDown'.
-/
import Derived.Test.Qxb6000020aHeap
namespace Go.Proofs.Qxb6000020a
open Go.RowKit

theorem grownBy_refl (w : World) (row : Option Nat) : w.grownBy w row := ⟨rfl, rfl, rfl, Nat.le_refl _, fun _ _ _ => rfl⟩
theorem grownBy_trans {a b c : World} {row : Option Nat} (h : a.grownBy b row) (k : b.grownBy c row) : a.grownBy c row :=
  ⟨k.os.trans h.os, k.tape.trans h.tape, k.output.trans h.output, Nat.le_trans h.size k.size, fun i hi hne => (k.block i (Nat.lt_of_lt_of_le hi h.size) hne).trans (h.block i hi hne)⟩
theorem grownBy_below {a b c : World} {row : Option Nat} (h : a.grownBy b row) (k : Below b.heap.size b c) : a.grownBy c row :=
  grownBy_trans h ⟨k.os, k.tape, k.output, k.size, fun i hi _ => k.block i hi⟩
theorem grownBy_set {a b : World} {g : Nat} (h : a.grownBy b (some g)) {x : Addr} (hx : x.block = g) (v : Value) : a.grownBy (b.setCell x v) (some g) :=
  grownBy_trans h ⟨rfl, rfl, rfl, by simp [World.setCell], fun i _ hne => Below.heap_setCell _ _ _ _ (fun e => hne (by rw [e, hx]))⟩
theorem grownBy_put {a b : World} {g : Nat} (h : a.grownBy b (some g)) (i : Nat) (x0 x1 x2 x3 : Value) :
    a.grownBy ((((b.setCell ⟨g, i * 4, none⟩ x0).setCell ⟨g, i * 4 + 1, none⟩ x1).setCell ⟨g, i * 4 + 2, none⟩ x2).setCell ⟨g, i * 4 + 3, none⟩ x3) (some g) :=
  grownBy_set (grownBy_set (grownBy_set (grownBy_set h rfl _) rfl _) rfl _) rfl _
theorem grownBy_alloc {a b : World} {row : Option Nat} (h : a.grownBy b row) (o : Obj) : a.grownBy (b.alloc o) row :=
  grownBy_below h ((Below.refl _ _).alloc (Nat.le_refl _) _)

/-- Where the classic way stops, c steps down. -/
structure SiftEnd (n : Nat) (q : Nat → T4) (i c : Nat) : Prop where
  lt : path n q i c < n
  up : ∀ m, 1 ≤ m → m ≤ c → less (q (path n q i m)) (q i) = true
  stop : 2 * path n q i c + 1 < n → less (q (path n q i (c + 1))) (q i) = false

/-- What 'zzHB1SiftDown' leaves. -/
def RetSift (w : World) (g n : Nat) (q : Nat → T4) (i : Nat) (e : Ending) (w' : World) : Prop :=
  e = .returned (.tuple #[]) ∧ w.grownBy w' (some g) ∧ ((n ≤ i ∧ TRow w' g 43 n q) ∨ (i < n ∧ ∃ c, SiftEnd n q i c ∧ TRow w' g 43 n (laid n q i c)))

set_option maxHeartbeats 4000000 in
theorem sift_any (g n c i : Nat) (q : Nat → T4) (w : World) (hn : n ≤ 4096) (hq : TRow w g 43 n q) :
    Calls Try.prog 24 #[.slice (some ⟨g, 0, none⟩) n c, .int .i64 i] w (RetSift w g n q i) := by
  by_cases hi : n ≤ i
  · go_enter Try.func24, Try.ntmps24
    go_wp2
    go_end0
    exact ⟨rfl, grownBy_refl _ _, .inl ⟨hi, hq⟩⟩
  · have hi' : i < n := by omega
    clear hi
    go_enter Try.func24, Try.ntmps24
    go_wp2
    go_loopg [1] (n - i) (fun gg s wr => ∃ j, gg = n - path n q i j ∧ s = .int .i64 (path n q i j) ∧ path n q i j < n ∧ (∀ m, 1 ≤ m → m ≤ j → less (q (path n q i m)) (q i) = true) ∧ w.grownBy wr (some g) ∧ TRow wr g 43 n (laid n q i j))
    case atStart => exact ⟨0, rfl, rfl, hi', fun m h1 h2 => by omega, grownBy_refl _ _, by rw [laid_zero]; exact hq⟩
    case round =>
      obtain ⟨j, rfl, rfl, hpn, hup, hg, hr⟩ := hrel
      have hX : Hid (∀ y, path n q i j < y → laid n q i j y = q y) := fun y hy => by rw [laid, upd_other _ _ _ (by omega), digd_ge j (by omega)]
      have hXp : Hid (laid n q i j (path n q i j) = q i) := laid_here j
      have Hc : Hid (path n q i (j + 1) = child n q (path n q i j)) := rfl
      have HE : Hid (∀ m, 1 ≤ m → m ≤ j → less (q (path n q i m)) (q i) = true) := hup
      have HN : Hid (TRow wr g 43 n (laid n q i j)) := hr
      clear hup
      generalize hP : path n q i j = p at *
      have HP : Hid (path n q i j = p) := hP
      clear hP
      by_cases h1 : 2 * p + 1 < n
      · have TP : ∀ x, TAt (grow wr x) g (p * 4) (q i) := fun x => by have := (hr.below (grow_below wr x)).tat hpn; rwa [hXp.out] at this
        have T1 : ∀ x, TAt (grow wr x) g ((2 * p + 1) * 4) (q (2 * p + 1)) := fun x => by have := (hr.below (grow_below wr x)).tat h1; rwa [hX.out _ (by omega)] at this
        have T2 : 2 * p + 1 + 1 < n → ∀ x, TAt (grow wr x) g ((2 * p + 1 + 1) * 4) (q (2 * p + 1 + 1)) := fun h x => by have := (hr.below (grow_below wr x)).tat h; rwa [hX.out _ (by omega)] at this
        clear hr hq
        have p0 := fun x => (TP x).c0
        have p1 := fun x => (TP x).c1
        have p2 := fun x => (TP x).c2
        have p3 := fun x => (TP x).c3
        have a0 := fun x => (T1 x).c0
        have a1 := fun x => (T1 x).c1
        have a2 := fun x => (T1 x).c2
        have a3 := fun x => (T1 x).c3
        clear TP T1
        by_cases h2 : 2 * p + 1 + 1 < n
        · have h2z : 2 * (p : Int) + 1 + 1 < (n : Int) := by omega
          have b0 := fun x => (T2 h2 x).c0
          have b1 := fun x => (T2 h2 x).c1
          have b2 := fun x => (T2 h2 x).c2
          have b3 := fun x => (T2 h2 x).c3
          clear T2
          cases h3 : less (q (2 * p + 1 + 1)) (q (2 * p + 1))
          · -- the first child
            go_wp2
            refine wp_region_grow (by kernel_rfl) (by kernel_rfl) ?_
            repeat (go_big_quiet_step ((go_at_call 35; exact quiet_grow (less_any _ _ _))))
            refine wpQuiet_nil ?_
            intro _ hw'
            obtain ⟨x, rfl⟩ := hw'
            clear p0 p1 p2 p3 a0 a1 a2 a3 b0 b1 b2 b3
            have B2 := grow_below wr x
            have hr2 := HN.out.below B2
            have hg2 := grownBy_below hg B2
            clear hg B2
            generalize grow wr x = w2 at *
            go_wp2
            have TP : ∀ x, TAt (grow w2 x) g (p * 4) (q i) := fun x => by have := (hr2.below (grow_below w2 x)).tat hpn; rwa [hXp.out] at this
            have T1 : ∀ x, TAt (grow w2 x) g ((2 * p + 1) * 4) (q (2 * p + 1)) := fun x => by have := (hr2.below (grow_below w2 x)).tat (show 2 * p + 1 < n by omega); rwa [hX.out _ (by omega)] at this
            have p0 := fun x => (TP x).c0
            have p1 := fun x => (TP x).c1
            have p2 := fun x => (TP x).c2
            have p3 := fun x => (TP x).c3
            have a0 := fun x => (T1 x).c0
            have a1 := fun x => (T1 x).c1
            have a2 := fun x => (T1 x).c2
            have a3 := fun x => (T1 x).c3
            clear TP T1
            have Hc2 : Hid (path n q i (j + 1) = 2 * p + 1) := Hc.out.trans (by unfold child; rw [if_neg (fun h => by have h' : less (q (2 * p + 1 + 1)) (q (2 * p + 1)) = true := h.2; rw [h3] at h'; cases h')])
            cases h4 : less (q (2 * p + 1)) (q i)
            · refine wp_region_grow (by kernel_rfl) (by kernel_rfl) ?_
              repeat (go_big_quiet_step ((go_at_call 35; exact quiet_grow (less_any _ _ _))))
              refine wpQuiet_nil ?_
              intro _ hw'
              obtain ⟨x2, rfl⟩ := hw'
              go_wp2
              go_end0
              exact ⟨rfl, grownBy_below hg2 (grow_below w2 x2), .inr ⟨hi', j, ⟨by rw [HP.out]; exact hpn, HE.out, fun _ => by rw [Hc2.out]; exact h4⟩, hr2.below (grow_below w2 x2)⟩⟩
            · refine wp_region_grow (by kernel_rfl) (by kernel_rfl) ?_
              repeat (go_big_quiet_step ((go_at_call 35; exact quiet_grow (less_any _ _ _))))
              refine wpQuiet_nil ?_
              intro _ hw'
              obtain ⟨x2, rfl⟩ := hw'
              clear p0 p1 p2 p3 a0 a1 a2 a3
              have B3 := grow_below w2 x2
              have hr3 := hr2.below B3
              have hg3 := grownBy_below hg2 B3
              clear hg2 B3 HN hr2
              generalize grow w2 x2 = w3 at *
              have HR3 : Hid (TRow w3 g 43 n (laid n q i j)) := hr3
              obtain ⟨p0, p1, p2, p3⟩ : TAt w3 g (p * 4) (q i) := by have := hr3.tat hpn; rwa [hXp.out] at this
              obtain ⟨a0, a1, a2, a3⟩ : TAt w3 g ((2 * p + 1) * 4) (q (2 * p + 1)) := by have := hr3.tat (show 2 * p + 1 < n by omega); rwa [hX.out _ (by omega)] at this
              have f0 := hr3.frozen (p * 4)
              have f1 := hr3.frozen (p * 4 + 1)
              have f2 := hr3.frozen (p * 4 + 2)
              have f3 := hr3.frozen (p * 4 + 3)
              have e0 := hr3.frozen ((2 * p + 1) * 4)
              have e1 := hr3.frozen ((2 * p + 1) * 4 + 1)
              have e2 := hr3.frozen ((2 * p + 1) * 4 + 2)
              have e3 := hr3.frozen ((2 * p + 1) * 4 + 3)
              have hg4 := hr3.lt
              clear hr3
              go_wp2
              go_roundg (n - (2 * p + 1))
              case measure => go_light; omega
              case rel =>
                go_light
                have hst := laid_step (n := n) (q := q) (i := i) j
                rw [HP.out, Hc2.out] at hst
                refine ⟨j + 1, by rw [Hc2.out], by rw [Hc2.out]; go_num, by rw [Hc2.out]; omega, fun m m1 m2 => ?_, grownBy_alloc (grownBy_put (grownBy_put hg3 _ _ _ _ _) _ _ _ _ _) _, ?_⟩
                · by_cases e : m = j + 1
                  · rw [e, Hc2.out]; exact h4
                  · exact HE.out m m1 (by omega)
                · rw [← hst]
                  exact TRow.alloc (TRow.put (TRow.put HR3.out p (q (2 * p + 1))) (2 * p + 1) (q i)) _
          · -- the second child
            go_wp2
            refine wp_region_grow (by kernel_rfl) (by kernel_rfl) ?_
            repeat (go_big_quiet_step ((go_at_call 35; exact quiet_grow (less_any _ _ _))))
            refine wpQuiet_nil ?_
            intro _ hw'
            obtain ⟨x, rfl⟩ := hw'
            clear p0 p1 p2 p3 a0 a1 a2 a3 b0 b1 b2 b3
            have B2 := grow_below wr x
            have hr2 := HN.out.below B2
            have hg2 := grownBy_below hg B2
            clear hg B2
            generalize grow wr x = w2 at *
            go_wp2
            have TP : ∀ x, TAt (grow w2 x) g (p * 4) (q i) := fun x => by have := (hr2.below (grow_below w2 x)).tat hpn; rwa [hXp.out] at this
            have T1 : ∀ x, TAt (grow w2 x) g ((2 * p + 1 + 1) * 4) (q (2 * p + 1 + 1)) := fun x => by have := (hr2.below (grow_below w2 x)).tat (show 2 * p + 1 + 1 < n by omega); rwa [hX.out _ (by omega)] at this
            have p0 := fun x => (TP x).c0
            have p1 := fun x => (TP x).c1
            have p2 := fun x => (TP x).c2
            have p3 := fun x => (TP x).c3
            have a0 := fun x => (T1 x).c0
            have a1 := fun x => (T1 x).c1
            have a2 := fun x => (T1 x).c2
            have a3 := fun x => (T1 x).c3
            clear TP T1
            have Hc2 : Hid (path n q i (j + 1) = 2 * p + 1 + 1) := Hc.out.trans (by unfold child; rw [if_pos ⟨h2, h3⟩])
            cases h4 : less (q (2 * p + 1 + 1)) (q i)
            · refine wp_region_grow (by kernel_rfl) (by kernel_rfl) ?_
              repeat (go_big_quiet_step ((go_at_call 35; exact quiet_grow (less_any _ _ _))))
              refine wpQuiet_nil ?_
              intro _ hw'
              obtain ⟨x2, rfl⟩ := hw'
              go_wp2
              go_end0
              exact ⟨rfl, grownBy_below hg2 (grow_below w2 x2), .inr ⟨hi', j, ⟨by rw [HP.out]; exact hpn, HE.out, fun _ => by rw [Hc2.out]; exact h4⟩, hr2.below (grow_below w2 x2)⟩⟩
            · refine wp_region_grow (by kernel_rfl) (by kernel_rfl) ?_
              repeat (go_big_quiet_step ((go_at_call 35; exact quiet_grow (less_any _ _ _))))
              refine wpQuiet_nil ?_
              intro _ hw'
              obtain ⟨x2, rfl⟩ := hw'
              clear p0 p1 p2 p3 a0 a1 a2 a3
              have B3 := grow_below w2 x2
              have hr3 := hr2.below B3
              have hg3 := grownBy_below hg2 B3
              clear hg2 B3 HN hr2
              generalize grow w2 x2 = w3 at *
              have HR3 : Hid (TRow w3 g 43 n (laid n q i j)) := hr3
              obtain ⟨p0, p1, p2, p3⟩ : TAt w3 g (p * 4) (q i) := by have := hr3.tat hpn; rwa [hXp.out] at this
              obtain ⟨a0, a1, a2, a3⟩ : TAt w3 g ((2 * p + 1 + 1) * 4) (q (2 * p + 1 + 1)) := by have := hr3.tat (show 2 * p + 1 + 1 < n by omega); rwa [hX.out _ (by omega)] at this
              have f0 := hr3.frozen (p * 4)
              have f1 := hr3.frozen (p * 4 + 1)
              have f2 := hr3.frozen (p * 4 + 2)
              have f3 := hr3.frozen (p * 4 + 3)
              have e0 := hr3.frozen ((2 * p + 1 + 1) * 4)
              have e1 := hr3.frozen ((2 * p + 1 + 1) * 4 + 1)
              have e2 := hr3.frozen ((2 * p + 1 + 1) * 4 + 2)
              have e3 := hr3.frozen ((2 * p + 1 + 1) * 4 + 3)
              have hg4 := hr3.lt
              clear hr3
              go_wp2
              go_roundg (n - (2 * p + 1 + 1))
              case measure => go_light; omega
              case rel =>
                go_light
                have hst := laid_step (n := n) (q := q) (i := i) j
                rw [HP.out, Hc2.out] at hst
                refine ⟨j + 1, by rw [Hc2.out], by rw [Hc2.out]; go_num, by rw [Hc2.out]; omega, fun m m1 m2 => ?_, grownBy_alloc (grownBy_put (grownBy_put hg3 _ _ _ _ _) _ _ _ _ _) _, ?_⟩
                · by_cases e : m = j + 1
                  · rw [e, Hc2.out]; exact h4
                  · exact HE.out m m1 (by omega)
                · rw [← hst]
                  exact TRow.alloc (TRow.put (TRow.put HR3.out p (q (2 * p + 1 + 1))) (2 * p + 1 + 1) (q i)) _
        · have h2d : decide (2 * (p : Int) + 1 + 1 < (n : Int)) = false := decide_eq_false (by omega)
          clear T2
          go_wp2
          refine wp_region_grow (by kernel_rfl) (by kernel_rfl) ?_
          repeat (go_big_quiet_step ((go_at_call 35; exact quiet_grow (less_any _ _ _))))
          refine wpQuiet_nil ?_
          intro _ hw'
          obtain ⟨x, rfl⟩ := hw'
          clear p0 p1 p2 p3 a0 a1 a2 a3
          have B2 := grow_below wr x
          have hr2 := HN.out.below B2
          have hg2 := grownBy_below hg B2
          clear hg B2
          generalize grow wr x = w2 at *
          go_wp2
          have TP : ∀ x, TAt (grow w2 x) g (p * 4) (q i) := fun x => by have := (hr2.below (grow_below w2 x)).tat hpn; rwa [hXp.out] at this
          have T1 : ∀ x, TAt (grow w2 x) g ((2 * p + 1) * 4) (q (2 * p + 1)) := fun x => by have := (hr2.below (grow_below w2 x)).tat (show 2 * p + 1 < n by omega); rwa [hX.out _ (by omega)] at this
          have p0 := fun x => (TP x).c0
          have p1 := fun x => (TP x).c1
          have p2 := fun x => (TP x).c2
          have p3 := fun x => (TP x).c3
          have a0 := fun x => (T1 x).c0
          have a1 := fun x => (T1 x).c1
          have a2 := fun x => (T1 x).c2
          have a3 := fun x => (T1 x).c3
          clear TP T1
          have Hc2 : Hid (path n q i (j + 1) = 2 * p + 1) := Hc.out.trans (by unfold child; rw [if_neg (fun h => h2 h.1)])
          cases h4 : less (q (2 * p + 1)) (q i)
          · refine wp_region_grow (by kernel_rfl) (by kernel_rfl) ?_
            repeat (go_big_quiet_step ((go_at_call 35; exact quiet_grow (less_any _ _ _))))
            refine wpQuiet_nil ?_
            intro _ hw'
            obtain ⟨x2, rfl⟩ := hw'
            go_wp2
            go_end0
            exact ⟨rfl, grownBy_below hg2 (grow_below w2 x2), .inr ⟨hi', j, ⟨by rw [HP.out]; exact hpn, HE.out, fun _ => by rw [Hc2.out]; exact h4⟩, hr2.below (grow_below w2 x2)⟩⟩
          · refine wp_region_grow (by kernel_rfl) (by kernel_rfl) ?_
            repeat (go_big_quiet_step ((go_at_call 35; exact quiet_grow (less_any _ _ _))))
            refine wpQuiet_nil ?_
            intro _ hw'
            obtain ⟨x2, rfl⟩ := hw'
            clear p0 p1 p2 p3 a0 a1 a2 a3
            have B3 := grow_below w2 x2
            have hr3 := hr2.below B3
            have hg3 := grownBy_below hg2 B3
            clear hg2 B3 HN hr2
            generalize grow w2 x2 = w3 at *
            have HR3 : Hid (TRow w3 g 43 n (laid n q i j)) := hr3
            obtain ⟨p0, p1, p2, p3⟩ : TAt w3 g (p * 4) (q i) := by have := hr3.tat hpn; rwa [hXp.out] at this
            obtain ⟨a0, a1, a2, a3⟩ : TAt w3 g ((2 * p + 1) * 4) (q (2 * p + 1)) := by have := hr3.tat (show 2 * p + 1 < n by omega); rwa [hX.out _ (by omega)] at this
            have f0 := hr3.frozen (p * 4)
            have f1 := hr3.frozen (p * 4 + 1)
            have f2 := hr3.frozen (p * 4 + 2)
            have f3 := hr3.frozen (p * 4 + 3)
            have e0 := hr3.frozen ((2 * p + 1) * 4)
            have e1 := hr3.frozen ((2 * p + 1) * 4 + 1)
            have e2 := hr3.frozen ((2 * p + 1) * 4 + 2)
            have e3 := hr3.frozen ((2 * p + 1) * 4 + 3)
            have hg4 := hr3.lt
            clear hr3
            go_wp2
            go_roundg (n - (2 * p + 1))
            case measure => go_light; omega
            case rel =>
              go_light
              have hst := laid_step (n := n) (q := q) (i := i) j
              rw [HP.out, Hc2.out] at hst
              refine ⟨j + 1, by rw [Hc2.out], by rw [Hc2.out]; go_num, by rw [Hc2.out]; omega, fun m m1 m2 => ?_, grownBy_alloc (grownBy_put (grownBy_put hg3 _ _ _ _ _) _ _ _ _ _) _, ?_⟩
              · by_cases e : m = j + 1
                · rw [e, Hc2.out]; exact h4
                · exact HE.out m m1 (by omega)
              · rw [← hst]
                exact TRow.alloc (TRow.put (TRow.put HR3.out p (q (2 * p + 1))) (2 * p + 1) (q i)) _
      · go_wp2
        go_end0
        exact ⟨rfl, hg, .inr ⟨hi', j, ⟨by rw [HP.out]; exact hpn, HE.out, fun h => by rw [HP.out] at h; omega⟩, HN.out⟩⟩

end Go.Proofs.Qxb6000020a
