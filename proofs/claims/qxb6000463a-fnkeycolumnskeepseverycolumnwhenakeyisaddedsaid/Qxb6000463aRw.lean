/-
  A ROW OF STRUCTS, each a list of cells.
-/
import Derived.Test.Qxb6000463aKKey
import Derived.Test.Qxb6000463aWide
import Derived.Lib.LazyBuf
import Derived.Deep.Upon
namespace Go.Proofs.Qxb6000463a
open Go.RowKit

def wcell (sz : Nat) (f : Nat → List Value) (j : Nat) : Value := (f (j / sz))[j % sz]?.getD default

/-- Block g is a row of n structs of sz cells. -/
def SRow (w : World) (g : Nat) (t : TypeId) (sz n : Nat) (f : Nat → List Value) : Prop := w.rowIs g t (n * sz) (wcell sz f)

theorem div_lt {j n sz : Nat} (h : j < n * sz) : j / sz < n := Nat.div_lt_of_lt_mul (by rwa [Nat.mul_comm] at h)

section
variable {w : World} {g : Nat} {t : TypeId} {sz n : Nat} {f : Nat → List Value}

theorem SRow.congr {f' : Nat → List Value} (h : SRow w g t sz n f) (e : ∀ i, i < n → f i = f' i) : SRow w g t sz n f' :=
  World.rowIs.congr h fun j hj => by unfold wcell; rw [e (j / sz) (div_lt hj)]
theorem SRow.drew (h : SRow w g t sz n f) : SRow w.drew g t sz n f := h
theorem SRow.below {w' : World} (h : SRow w g t sz n f) (hb : Below w.heap.size w w') : SRow w' g t sz n f := rowIs_below h hb
theorem SRow.lt (h : SRow w g t sz n f) : g < w.heap.size := World.rowIs.lt h
theorem SRow.setOther (h : SRow w g t sz n f) {b : Nat} (hne : g ≠ b) (o : Nat) (vs : List Value) : SRow (w.setCells b o vs) g t sz n f := rowIs_setCells_other hne vs o w h

theorem SRow_made (w : World) (z : List Value) (t n : Nat) : SRow (w.alloc (.cells (madeCells z.toArray (n * z.length)) t)) w.heap.size t z.length n (fun _ => z) := by
  refine ⟨_, Go.Deep.blk_alloc_new _ _, size_madeCells _ _, fun i hi => ?_⟩
  simp only [madeCells, wcell]
  simp [hi, getElem!_def]
  cases z[i % z.length]? <;> rfl

theorem SRow.put (h : SRow w g t sz n f) {i : Nat} {cs : List Value} (hc : cs.length = sz) (hs : 0 < sz) : SRow (w.setCells g (i * sz) cs) g t sz n (upd f i cs) := by
  refine World.rowIs.congr (rowIs_setCells cs (i * sz) w _ h) fun j hj => ?_
  have hd := Nat.div_add_mod j sz
  have hm := Nat.mod_lt j hs
  unfold wcell
  by_cases e : j / sz = i
  · have e2 : j = i * sz + j % sz := by rw [← e, Nat.mul_comm]; exact hd.symm
    rw [if_pos (by omega), e, upd_same, show j - i * sz = j % sz from by omega]
  · rw [upd_other _ _ _ e, if_neg]
    rintro ⟨h1, h2⟩
    apply e
    have h3 : j < (i + 1) * sz := by rw [Nat.add_mul, Nat.one_mul]; omega
    exact Nat.le_antisymm (Nat.lt_succ_iff.1 (div_lt h3)) ((Nat.le_div_iff_mul_le hs).2 h1)

theorem SRow.range (h : SRow w g t sz n f) {i : Nat} (hi : i < n) (hl : (f i).length = sz) : w.rangeAt g (i * sz) (f i) := fun j v hv => by
  have hj : j < sz := by rw [← hl]; exact (List.getElem?_eq_some_iff.1 hv).1
  have h3 : i * sz + j < n * sz := by
    have : (i + 1) * sz ≤ n * sz := Nat.mul_le_mul_right _ hi
    rw [Nat.add_mul, Nat.one_mul] at this; omega
  rw [World.rowIs.cell h h3]
  unfold wcell
  have hs : 0 < sz := by omega
  rw [Nat.mul_comm, Nat.mul_add_div hs, Nat.div_eq_of_lt hj, Nat.add_zero, Nat.mul_add_mod, Nat.mod_eq_of_lt hj, hv]; rfl

theorem SRow.there (h : SRow w g t sz n f) {i : Nat} (hi : i < n) : w.there g (i * sz) sz := fun j hj => by
  have h3 : i * sz + j < n * sz := by
    have : (i + 1) * sz ≤ n * sz := Nat.mul_le_mul_right _ hi
    rw [Nat.add_mul, Nat.one_mul] at this; omega
  exact ⟨by rw [World.rowIs.cell h h3]; rfl, World.rowIs.frozen h _⟩
end

theorem grown_setCells (w : World) (b o : Nat) (vs : List Value) (_hb : b < w.heap.size) : w.grownBy (w.setCells b o vs) (some b) := by
  refine ⟨World.os_setCells w b o vs, ?_, World.output_setCells w b o vs, ?_, fun k hk hne => World.heap_setCells_other w b o vs hk (fun e => hne (by rw [e]))⟩
  · exact (Go.below_setCells (Nat.zero_le b) vs o w (Below.refl 0 w)).tape
  · exact (Go.below_setCells (Nat.zero_le b) vs o w (Below.refl 0 w)).size

end Go.Proofs.Qxb6000463a
