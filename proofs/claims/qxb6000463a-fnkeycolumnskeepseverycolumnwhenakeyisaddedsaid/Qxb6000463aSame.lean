/-
  THE WALK of 'sameKC'.
-/
import Derived.Test.Qxb6000463aPlain2
import Derived.Test.Qxb6000463aFS
namespace Go.Proofs.Qxb6000463a
open Go.RowKit

theorem int_eq {a b : Int} (h : a = b) : (a == b) = true := by subst h; simp
theorem int_ne {a b : Int} (h : ¬ a = b) : (a == b) = false := by simp [h]

theorem ne_vw {a b : Kc} {α : Type} (p : Vw → α) (h : ¬ p a.vw = p b.vw) : (false = true ↔ a.vw = b.vw) := ⟨(fun h => by cases h), fun e => absurd (congrArg p e) h⟩

/-- What 'sameKC' gives. -/
def RetSame (w : World) (a b : Kc) (e : Ending) (w' : World) : Prop :=
  ∃ r : Bool, e = .returned (.bool r) ∧ Below w.heap.size w w' ∧ (r = true ↔ a.vw = b.vw)

set_option maxRecDepth 100000 in
set_option maxHeartbeats 16000000 in
theorem same_any (a b : Kc) (w : World) : Calls Try.prog 24 #[.agg a.cells.toArray, .agg b.cells.toArray] w (RetSame w a b) := by
  obtain ⟨V, hV⟩ : ∃ V, V = w.alloc (.cells a.cells.toArray 80) := ⟨_, rfl⟩
  obtain ⟨W, hW⟩ : ∃ W, W = V.alloc (.cells b.cells.toArray 80) := ⟨_, rfl⟩
  have bV : Below w.heap.size w V := by rw [hV]; exact (Below.refl _ _).alloc (Nat.le_refl _) _
  have sV : V.heap.size = w.heap.size + 1 := by rw [hV]; simp
  have bVW : Below V.heap.size V W := by rw [hW]; exact (Below.refl _ _).alloc (Nat.le_refl _) _
  have bW : Below w.heap.size w W := bV.trans (bVW.mono bV.size)
  have HA : Hid (W.rangeAt w.heap.size 0 a.cells) := range_below (by rw [hV]; exact range_new w 80 _) bVW (by omega)
  have HB : Hid (W.rangeAt (w.heap.size + 1) 0 b.cells) := by
    have := range_new V 80 b.cells
    rw [← hW, sV] at this
    exact this
  have HW : Hid (W = (w.alloc (.cells a.cells.toArray 80)).alloc (.cells b.cells.toArray 80)) := by rw [hW, hV]; rfl
  have a0 : W.cell? ⟨w.heap.size, 0, none⟩ = some (.string a.t.sch) := HA.out 0 _ rfl
  have b0 : W.cell? ⟨w.heap.size + 1, 0, none⟩ = some (.string b.t.sch) := HB.out 0 _ rfl
  have a1 : W.cell? ⟨w.heap.size, 1, none⟩ = some (.string a.t.nm) := HA.out 1 _ rfl
  have b1 : W.cell? ⟨w.heap.size + 1, 1, none⟩ = some (.string b.t.nm) := HB.out 1 _ rfl
  have a3 : W.cell? ⟨w.heap.size, 3, none⟩ = some (.int .u32 a.t.oid) := HA.out 3 _ rfl
  have b3 : W.cell? ⟨w.heap.size + 1, 3, none⟩ = some (.int .u32 b.t.oid) := HB.out 3 _ rfl
  have a15 : W.cell? ⟨w.heap.size, 15, none⟩ = some (.string a.c.nm) := HA.out 15 _ rfl
  have b15 : W.cell? ⟨w.heap.size + 1, 15, none⟩ = some (.string b.c.nm) := HB.out 15 _ rfl
  have a17 : W.cell? ⟨w.heap.size, 17, none⟩ = some (.int .i64 a.c.pos) := HA.out 17 _ rfl
  have b17 : W.cell? ⟨w.heap.size + 1, 17, none⟩ = some (.int .i64 b.c.pos) := HB.out 17 _ rfl
  have a25 : W.cell? ⟨w.heap.size, 25, none⟩ = some (.string a.c.co) := HA.out 25 _ rfl
  have b25 : W.cell? ⟨w.heap.size + 1, 25, none⟩ = some (.string b.c.co) := HB.out 25 _ rfl
  have a32 : W.cell? ⟨w.heap.size, 32, none⟩ = some (.string a.s) := HA.out 32 _ rfl
  have b32 : W.cell? ⟨w.heap.size + 1, 32, none⟩ = some (.string b.s) := HB.out 32 _ rfl
  clear hV hW bV bVW sV HA HB
  go_enter Try.func24, Try.ntmps24
  go_upto_region 1 with fail
  rw [← HW.out]
  by_cases h0 : a.t.sch = b.t.sch
  rotate_left
  · have n0 := str_ne h0
    have HN : Hid (¬ a.t.sch = b.t.sch) := h0
    clear h0
    go_wp2
    go_ret
    exact ⟨false, by simp, bW, ne_vw Vw.sch HN.out⟩
  have e0 := str_eq h0
  have H0 : Hid (a.t.sch = b.t.sch) := h0
  clear h0
  by_cases h1 : a.t.nm = b.t.nm
  rotate_left
  · have n1 := str_ne h1
    have HN : Hid (¬ a.t.nm = b.t.nm) := h1
    clear h1
    go_wp2
    go_ret
    exact ⟨false, by simp, bW, ne_vw Vw.nm HN.out⟩
  have e1 := str_eq h1
  have H1 : Hid (a.t.nm = b.t.nm) := h1
  clear h1
  by_cases h2 : a.t.oid = b.t.oid
  rotate_left
  · have n2 := int_ne h2
    have HN : Hid (¬ a.t.oid = b.t.oid) := h2
    clear h2
    go_wp2
    go_ret
    exact ⟨false, by simp, bW, ne_vw Vw.oid HN.out⟩
  have e2 := int_eq h2
  have H2 : Hid (a.t.oid = b.t.oid) := h2
  clear h2
  by_cases h3 : a.c.nm = b.c.nm
  rotate_left
  · have n3 := str_ne h3
    have HN : Hid (¬ a.c.nm = b.c.nm) := h3
    clear h3
    go_wp2
    go_ret
    exact ⟨false, by simp, bW, ne_vw Vw.cn HN.out⟩
  have e3 := str_eq h3
  have H3 : Hid (a.c.nm = b.c.nm) := h3
  clear h3
  by_cases h4 : a.c.pos = b.c.pos
  rotate_left
  · have n4 := int_ne h4
    have HN : Hid (¬ a.c.pos = b.c.pos) := h4
    clear h4
    go_wp2
    go_ret
    exact ⟨false, by simp, bW, ne_vw Vw.pos HN.out⟩
  have e4 := int_eq h4
  have H4 : Hid (a.c.pos = b.c.pos) := h4
  clear h4
  by_cases h5 : a.c.co = b.c.co
  rotate_left
  · have n5 := str_ne h5
    have HN : Hid (¬ a.c.co = b.c.co) := h5
    clear h5
    go_wp2
    go_ret
    exact ⟨false, by simp, bW, ne_vw Vw.cc HN.out⟩
  have e5 := str_eq h5
  have H5 : Hid (a.c.co = b.c.co) := h5
  clear h5
  by_cases h6 : a.s = b.s
  rotate_left
  · have n6 := str_ne h6
    have HN : Hid (¬ a.s = b.s) := h6
    clear h6
    go_wp2
    go_ret
    exact ⟨false, by simp, bW, ne_vw Vw.s HN.out⟩
  have e6 := str_eq h6
  have H6 : Hid (a.s = b.s) := h6
  clear h6
  go_wp2
  go_ret
  refine ⟨true, by simp, bW, ⟨fun _ => ?_, fun _ => rfl⟩⟩
  unfold Kc.vw
  rw [H0.out, H1.out, H2.out, H3.out, H4.out, H5.out, H6.out]

end Go.Proofs.Qxb6000463a
