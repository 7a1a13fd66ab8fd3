/-
  THE ROW OF ACCESSES.
-/
import Derived.Test.Qxb6000570aVE
namespace Go.Proofs.Qxb6000570a
open Go.RowKit

theorem Try.info69 : (Try.prog.info? 69).map (fun i => (i.zero, i.size, i.bytes)) = some (some (.agg #[.int .i64 0, .int .i64 0, .int .i64 0, .int .i64 0, .int .i64 0, .int .i64 0, .int .i64 0]), 7, 56) := by kernel_rfl
theorem Try.info100 : (Try.prog.info? 100).map (fun i => (i.zero, i.size, i.bytes)) = some (some (.agg #[.string ⟨#[]⟩, .slice none 0 0, .slice none 0 0]), 3, 64) := by kernel_rfl

/-- An access's three numbers. -/
structure A3 where
  x : Int
  f : Int
  r : Int

/-- The cells of a row of accesses. -/
def acell (q : Nat → A3) (j : Nat) : Value :=
  if j % 7 = 1 then .int .i64 (q (j / 7)).x else if j % 7 = 4 then .int .i64 (q (j / 7)).f else if j % 7 = 6 then .int .i64 (q (j / 7)).r else .int .i64 0

/-- Block g is a row of n accesses. -/
def ARow (w : World) (g n : Nat) (q : Nat → A3) : Prop := w.rowIs g 69 (n * 7) (acell q)

def zeroA : A3 := ⟨0, 0, 0⟩

section
variable {w : World} {g n : Nat} {q : Nat → A3}
theorem ARow.congr {q' : Nat → A3} (h : ARow w g n q) (e : ∀ i, i < n → q i = q' i) : ARow w g n q' :=
  World.rowIs.congr h fun j hj => by unfold acell; rw [e (j / 7) (by omega)]

theorem ARow_made (w : World) (n : Nat) : ARow (w.alloc (.cells (madeCells (Value.agg #[.int .i64 0, .int .i64 0, .int .i64 0, .int .i64 0, .int .i64 0, .int .i64 0, .int .i64 0]).cells (n * 7)) 69)) w.heap.size n (fun _ => zeroA) := by
  refine ⟨_, Go.Deep.blk_alloc_new _ _, size_madeCells _ _, fun i hi => ?_⟩
  have hm : i % 7 = 0 ∨ i % 7 = 1 ∨ i % 7 = 2 ∨ i % 7 = 3 ∨ i % 7 = 4 ∨ i % 7 = 5 ∨ i % 7 = 6 := by omega
  simp only [madeCells, Value.cells]
  rcases hm with h | h | h | h | h | h | h <;> simp [hi, h, acell, zeroA]

theorem ARow.put (h : ARow w g n q) (i : Nat) (v : A3) :
    ARow (((((((w.setCell ⟨g, i * 7, none⟩ (.int .i64 0)).setCell ⟨g, i * 7 + 1, none⟩ (.int .i64 v.x)).setCell ⟨g, i * 7 + 2, none⟩ (.int .i64 0)).setCell ⟨g, i * 7 + 3, none⟩ (.int .i64 0)).setCell ⟨g, i * 7 + 4, none⟩ (.int .i64 v.f)).setCell ⟨g, i * 7 + 5, none⟩ (.int .i64 0)).setCell ⟨g, i * 7 + 6, none⟩ (.int .i64 v.r)) g n (upd q i v) := by
  refine World.rowIs.congr (((((((World.rowIs.set h _ _).set _ _).set _ _).set _ _).set _ _).set _ _).set _ _) fun j hj => ?_
  by_cases e : j / 7 = i
  · have hm : j = i * 7 ∨ j = i * 7 + 1 ∨ j = i * 7 + 2 ∨ j = i * 7 + 3 ∨ j = i * 7 + 4 ∨ j = i * 7 + 5 ∨ j = i * 7 + 6 := by omega
    have ed : upd q i v (j / 7) = v := by rw [e, upd_same]
    unfold acell
    rw [ed]
    rcases hm with rfl | rfl | rfl | rfl | rfl | rfl | rfl
    · rw [if_neg (by omega), if_neg (by omega), if_neg (by omega), if_neg (by omega), if_neg (by omega), if_neg (by omega), if_pos rfl, if_neg (by omega), if_neg (by omega), if_neg (by omega)]
    · rw [if_neg (by omega), if_neg (by omega), if_neg (by omega), if_neg (by omega), if_neg (by omega), if_pos rfl, if_pos (by omega)]
    · rw [if_neg (by omega), if_neg (by omega), if_neg (by omega), if_neg (by omega), if_pos rfl, if_neg (by omega), if_neg (by omega), if_neg (by omega)]
    · rw [if_neg (by omega), if_neg (by omega), if_neg (by omega), if_pos rfl, if_neg (by omega), if_neg (by omega), if_neg (by omega)]
    · rw [if_neg (by omega), if_neg (by omega), if_pos rfl, if_neg (by omega), if_pos (by omega)]
    · rw [if_neg (by omega), if_pos rfl, if_neg (by omega), if_neg (by omega), if_neg (by omega)]
    · rw [if_pos rfl, if_neg (by omega), if_neg (by omega), if_pos (by omega)]
  · rw [if_neg (by omega), if_neg (by omega), if_neg (by omega), if_neg (by omega), if_neg (by omega), if_neg (by omega), if_neg (by omega)]
    unfold acell
    rw [upd_other _ _ _ e]

theorem ARow.accAt (h : ARow w g n q) {a : Nat} (ha : a < n) (G : G) (e : q a = ⟨(G.it a : Nat), G.fw a, G.fr a⟩) : AccAt w g a G := by
  refine ⟨?_, ?_, ?_⟩
  · rw [World.rowIs.cell h (by omega)]; unfold acell; rw [if_pos (by omega), show (a * 7 + 1) / 7 = a from by omega, e]
  · rw [World.rowIs.cell h (by omega)]; unfold acell; rw [if_neg (by omega), if_pos (by omega), show (a * 7 + 4) / 7 = a from by omega, e]
  · rw [World.rowIs.cell h (by omega)]; unfold acell; rw [if_neg (by omega), if_neg (by omega), if_pos (by omega), show (a * 7 + 6) / 7 = a from by omega, e]
end

/-- The accesses of g. -/
def mkA (g : G) (i : Nat) : A3 := ⟨(g.it i : Nat), g.fw i, g.fr i⟩

end Go.Proofs.Qxb6000570a
