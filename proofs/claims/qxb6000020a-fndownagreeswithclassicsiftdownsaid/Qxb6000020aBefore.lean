import Derived.Test.Qxb6000020aLess
import Derived.Test.Qxb6000020aBase
namespace Go.Proofs.Qxb6000020a
open Go.RowKit

def instLess (a1 a2 b1 b2 : Int) : Bool := decide (a1 < b1 ∨ (a1 = b1 ∧ a2 < b2))

theorem inst_any (a1 a2 b1 b2 : Int) (w : World) : Calls Try.prog 41 #[.agg #[.int .i64 a1, .int .i32 a2], .agg #[.int .i64 b1, .int .i32 b2]] w fun e w' =>
    e = .returned (.bool (instLess a1 a2 b1 b2)) ∧ Below w.heap.size w w' := by
  unfold instLess
  by_cases h0 : a1 < b1
  · go_enter Try.func41, Try.ntmps41
    go_wp2
    go_ret
    exact ⟨ret_bool (by rw [Bool.eq_iff_iff]; simp; omega), below_two _ _ _⟩
  · by_cases h1 : a1 = b1
    · subst h1
      go_enter Try.func41, Try.ntmps41
      go_wp2
      go_ret
      exact ⟨ret_bool (by simp), below_two _ _ _⟩
    · have h1' : (a1 == b1) = false := by simpa using h1
      go_enter Try.func41, Try.ntmps41
      go_wp2
      go_ret
      exact ⟨ret_bool (by rw [Bool.eq_iff_iff]; simp; omega), below_two _ _ _⟩

/-- A turn lies in memory. -/
structure TAt (w : World) (b o : Nat) (a : T4) : Prop where
  c0 : w.cell? ⟨b, o, none⟩ = some (.int .i64 a.s)
  c1 : w.cell? ⟨b, o + 1, none⟩ = some (.int .i32 a.n)
  c2 : w.cell? ⟨b, o + 2, none⟩ = some (.int .i64 a.k)
  c3 : w.cell? ⟨b, o + 3, none⟩ = some (.int .i64 a.r)

theorem before_any (a b : T4) (ba oa bb ob : Nat) (w : World) (ha : TAt w ba oa a) (hb : TAt w bb ob b) : Calls Try.prog 39 #[.pointer (some ⟨ba, oa, none⟩), .pointer (some ⟨bb, ob, none⟩)] w fun e w' =>
    e = .returned (.bool (less a b)) ∧ Below w.heap.size w w' := by
  obtain ⟨x0, x1, x2, x3⟩ := ha
  obtain ⟨y0, y1, y2, y3⟩ := hb
  obtain ⟨a1, a2, a3, a4⟩ := a
  obtain ⟨b1, b2, b3, b4⟩ := b
  unfold less
  dsimp only at *
  by_cases h1 : a1 = b1 ∧ a2 = b2
  · obtain ⟨rfl, rfl⟩ := h1
    by_cases h3 : a3 = b3
    · subst h3
      go_enter Try.func39, Try.ntmps39
      go_wp2
      go_region
      go_wp2
      go_region
      go_wp2
      go_region
      go_wp2
      go_ret
      exact ⟨ret_bool (by simp), (((Below.refl _ _).drew).drew).drew⟩
    · have h3' : (a3 != b3) = true := by simpa using h3
      go_enter Try.func39, Try.ntmps39
      go_wp2
      go_region
      go_wp2
      go_region
      go_wp2
      go_region
      go_wp2
      go_ret
      exact ⟨ret_bool (by rw [Bool.eq_iff_iff]; simp; omega), (((Below.refl _ _).drew).drew).drew⟩
  · have hw1 : ba < w.heap.size := World.block_lt_of_cell? _ _ x0
    have hw2 : bb < w.heap.size := World.block_lt_of_cell? _ _ y0
    have q0 : ∀ x, (grow w.drew x).cell? ⟨ba, oa, none⟩ = some (.int .i64 a1) := fun x => (grow_cell w.drew x hw1).trans x0
    have q1 : ∀ x, (grow w.drew x).cell? ⟨ba, oa + 1, none⟩ = some (.int .i32 a2) := fun x => (grow_cell w.drew x hw1).trans x1
    have r0 : ∀ x, (grow w.drew x).cell? ⟨bb, ob, none⟩ = some (.int .i64 b1) := fun x => (grow_cell w.drew x hw2).trans y0
    have r1 : ∀ x, (grow w.drew x).cell? ⟨bb, ob + 1, none⟩ = some (.int .i32 b2) := fun x => (grow_cell w.drew x hw2).trans y1
    by_cases h2 : a1 = b1
    · subst h2
      have h3 : ¬ a2 = b2 := fun e => h1 ⟨rfl, e⟩
      clear h1
      go_enter Try.func39, Try.ntmps39
      go_wp2
      go_region
      go_wp2
      refine wp_region_grow (by kernel_rfl) (by kernel_rfl) ?_
      repeat (go_big_quiet_step ((go_at_call 41; exact quiet_grow (inst_any _ _ _ _ _))))
      refine wpQuiet_nil ?_
      intro _ hw'
      obtain ⟨x, rfl⟩ := hw'
      go_wp2
      go_ret
      exact ⟨ret_bool (by rw [Bool.eq_iff_iff]; simp [instLess]; omega), (((Below.refl _ _).drew).trans (grow_below w.drew x))⟩
    · clear h1
      go_enter Try.func39, Try.ntmps39
      go_wp2
      go_region
      go_wp2
      refine wp_region_grow (by kernel_rfl) (by kernel_rfl) ?_
      repeat (go_big_quiet_step ((go_at_call 41; exact quiet_grow (inst_any _ _ _ _ _))))
      refine wpQuiet_nil ?_
      intro _ hw'
      obtain ⟨x, rfl⟩ := hw'
      go_wp2
      go_ret
      exact ⟨ret_bool (by rw [Bool.eq_iff_iff]; simp [instLess]; omega), (((Below.refl _ _).drew).trans (grow_below w.drew x))⟩

end Go.Proofs.Qxb6000020a
