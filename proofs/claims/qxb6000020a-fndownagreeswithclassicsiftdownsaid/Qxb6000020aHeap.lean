/-
  THE WALKS of 'zzHB1InSubtree' and 'zzHB1HeapBelow'.
-/
import Derived.Test.Qxb6000020aFrom
namespace Go.Proofs.Qxb6000020a
open Go.RowKit

theorem sub_any (j i : Nat) (w : World) (hj : j ≤ 4096) : Calls Try.prog 34 #[.int .i64 j, .int .i64 i] w fun e w' => e = .returned (.bool (below j i)) ∧ w' = w := by
  go_enter Try.func34, Try.ntmps34
  go_wp2
  go_loop [0] (fun s => ∃ k : Nat, s = .int .i64 k ∧ k ≤ 4096 ∧ Hid (below k i = below j i)) (fun s => (intOf s).toNat)
  case atStart => exact ⟨j, rfl, hj, rfl⟩
  case round =>
    obtain ⟨k, rfl, hk, HE⟩ := hrel
    by_cases hlt : i < k
    · go_wp2
      go_round
      case rel => exact ⟨(k - 1) / 2, by go_num, by omega, by rw [← below_step hlt]; exact HE.out⟩
      case measure => simp [intOf]; omega
    · go_wp2
      go_ret
      refine ⟨ret_bool ?_, rfl⟩
      rw [← HE.out, below_stop (by omega), Bool.eq_iff_iff]
      simp
      omega

/-- What 'zzHB1HeapBelow' answers. -/
def RetHeap (w : World) (n : Nat) (q : Nat → T4) (i : Nat) (e : Ending) (w' : World) : Prop :=
  ∃ b : Bool, e = .returned (.bool b) ∧ Below w.heap.size w w' ∧ (b = true → HeapBelow n q i)

/-- Up to k nothing is out of order. -/
def HeapTo (k : Nat) (q : Nat → T4) (i : Nat) : Prop := HeapBelow k q i

theorem HeapTo.step {k : Nat} {q : Nat → T4} {i : Nat} (h : HeapTo k q i) (hk : (k - 1) / 2 ≠ i → below k i = true → less (q k) (q ((k - 1) / 2)) = false) : HeapTo (k + 1) q i := by
  intro j h1 h2 h3 h4
  by_cases e : j = k
  · subst e; exact hk h3 h4
  · exact h j h1 (by omega) h3 h4

set_option maxHeartbeats 2000000 in
theorem heap_any (g n c i : Nat) (q : Nat → T4) (w : World) (hn : n ≤ 4096) (hi : i < n) (hq : TRow w g 43 n q) :
    Calls Try.prog 23 #[.slice (some ⟨g, 0, none⟩) n c, .int .i64 i] w (RetHeap w n q i) := by
  go_enter Try.func23, Try.ntmps23
  go_wp2
  go_loopg [5] (n - (i + 1)) (fun gg s wr => ∃ k : Nat, i < k ∧ k ≤ n ∧ gg = n - k ∧ s = .int .i64 k ∧ Below w.heap.size w wr ∧ HeapTo k q i)
  case atStart => exact ⟨i + 1, by omega, by omega, rfl, by go_num, Below.refl _ _, fun j h1 h2 => by omega⟩
  case round =>
    obtain ⟨k, hik, hk, rfl, rfl, hb, hh⟩ := hrel
    have hr := hq.below hb
    by_cases hlt : k < n
    · have hp : (k - 1) / 2 < n := by omega
      have T1 : ∀ x, TAt (grow wr x) g (k * 4) (q k) := fun x => (hr.below (grow_below wr x)).tat hlt
      have T2 : ∀ x, TAt (grow wr x) g ((k - 1) / 2 * 4) (q ((k - 1) / 2)) := fun x => (hr.below (grow_below wr x)).tat hp
      have t0 := fun x => (T1 x).c0
      have t1 := fun x => (T1 x).c1
      have t2 := fun x => (T1 x).c2
      have t3 := fun x => (T1 x).c3
      have s0 := fun x => (T2 x).c0
      have s1 := fun x => (T2 x).c1
      have s2 := fun x => (T2 x).c2
      have s3 := fun x => (T2 x).c3
      clear T1 T2
      by_cases h1 : (k - 1) / 2 = i
      · have h1' : (((k : Int) - 1) / 2 != (i : Int)) = false := by rw [bne_eq_false_iff_eq]; omega
        have H1 : Hid ((k - 1) / 2 = i) := h1
        clear h1
        go_wp2
        refine wp_region_grow (by kernel_rfl) (by kernel_rfl) ?_
        repeat (go_big_quiet_step ((first | (go_at_call 34; exact quiet_same (sub_any _ _ _ (by omega))) | (go_at_call 35; exact quiet_grow (less_any _ _ _)))))
        refine wpQuiet_nil ?_
        intro _ hw'
        obtain ⟨x, rfl⟩ := hw'
        have hx := hb.trans ((grow_below wr x).mono hb.size)
        clear t0 t1 t2 t3 s0 s1 s2 s3
        go_wp2
        go_roundg (n - (k + 1))
        case measure => go_light; omega
        case rel =>
          go_light
          exact ⟨k + 1, by omega, by omega, rfl, by go_num, hx, hh.step fun e1 e2 => by exact absurd H1.out e1⟩
      · have h1' : (((k : Int) - 1) / 2 != (i : Int)) = true := by rw [bne_iff_ne]; omega
        cases h2 : below k i
        · go_wp2
          refine wp_region_grow (by kernel_rfl) (by kernel_rfl) ?_
          repeat (go_big_quiet_step ((first | (go_at_call 34; exact quiet_same (sub_any _ _ _ (by omega))) | (go_at_call 35; exact quiet_grow (less_any _ _ _)))))
          refine wpQuiet_nil ?_
          intro _ hw'
          obtain ⟨x, rfl⟩ := hw'
          have hx := hb.trans ((grow_below wr x).mono hb.size)
          clear t0 t1 t2 t3 s0 s1 s2 s3
          go_wp2
          go_roundg (n - (k + 1))
          case measure => go_light; omega
          case rel =>
            go_light
            exact ⟨k + 1, by omega, by omega, rfl, by go_num, hx, hh.step fun e1 e2 => by rw [h2] at e2; cases e2⟩
        · cases h3 : less (q k) (q ((k - 1) / 2))
          · go_wp2
            refine wp_region_grow (by kernel_rfl) (by kernel_rfl) ?_
            repeat (go_big_quiet_step ((first | (go_at_call 34; exact quiet_same (sub_any _ _ _ (by omega))) | (go_at_call 35; exact quiet_grow (less_any _ _ _)))))
            refine wpQuiet_nil ?_
            intro _ hw'
            obtain ⟨x, rfl⟩ := hw'
            have hx := hb.trans ((grow_below wr x).mono hb.size)
            clear t0 t1 t2 t3 s0 s1 s2 s3
            go_wp2
            go_roundg (n - (k + 1))
            case measure => go_light; omega
            case rel =>
              go_light
              exact ⟨k + 1, by omega, by omega, rfl, by go_num, hx, hh.step fun e1 e2 => by exact h3⟩
          · go_wp2
            refine wp_region_grow (by kernel_rfl) (by kernel_rfl) ?_
            repeat (go_big_quiet_step ((first | (go_at_call 34; exact quiet_same (sub_any _ _ _ (by omega))) | (go_at_call 35; exact quiet_grow (less_any _ _ _)))))
            refine wpQuiet_nil ?_
            intro _ hw'
            obtain ⟨x, rfl⟩ := hw'
            have hx := hb.trans ((grow_below wr x).mono hb.size)
            clear t0 t1 t2 t3 s0 s1 s2 s3
            go_wp2
            go_ret
            exact ⟨false, rfl, hx, fun h => by cases h⟩
    · obtain rfl : k = n := by omega
      go_wp2
      go_ret
      exact ⟨true, rfl, hb, fun _ => hh⟩

end Go.Proofs.Qxb6000020a
