/-
  A CATALOG IN MEMORY, and the key columns it lists.
-/
import Derived.Test.Qxb6000463aSole
import Derived.Deep.MidRow
namespace Go.Proofs.Qxb6000463a
open Go.RowKit

/-- Where a table's parts lie. -/
structure Tm where
  cb : Nat
  cc : Nat
  ub : Nat
  uc : Nat
  cv : Nat → Value
  dv : Nat → Value

def emp : ByteArray := ⟨#[]⟩

/-- A table's cells. -/
def tcells (t : Td) (m : Tm) : List Value :=
  [.string t.sch, .string t.nm, .string t.nm, .int .u32 t.oid, .string ⟨#[]⟩, .string ⟨#[]⟩, .string ⟨#[]⟩, .slice (some ⟨m.cb, 0, none⟩) t.nc m.cc, m.cv 0, m.dv 0, .slice (some ⟨m.ub, 0, none⟩) t.nu m.uc, .slice none 0 0, .bool false, .bool false, .bool false]

/-- A column's cells. -/
def ccells (c : Cd) : List Value :=
  [.string c.nm, .string c.nm, .int .i64 c.pos, .string ⟨#[]⟩, .string ⟨#[]⟩, .bool false, .bool false, .string ⟨#[]⟩, .bool false, .string ⟨#[]⟩, .string c.co, .string c.co, .bool false, .bool false, .slice none 0 0, .string ⟨#[]⟩]

/-- A table lies at (b, o). -/
structure TabAt (w : World) (b o : Nat) (t : Td) (m : Tm) : Prop where
  cells : w.rangeAt b o (tcells t m)
  lb : b < w.heap.size
  lc : m.cb < w.heap.size
  lu : m.ub < w.heap.size
  cols : ∀ j, j < t.nc → w.rangeAt m.cb (j * 16) (ccells (t.col j)) ∧ (t.col j).nm.size ≤ maxLen
  uni : ∀ u, u < t.nu → w.cell? ⟨m.ub, u * 2, none⟩ = some (m.cv (u + 1)) ∧ w.cell? ⟨m.ub, u * 2 + 1, none⟩ = some (m.dv (u + 1))
  key : ∀ u, u < 1 + t.nu → KeyAt w (m.cv u) (m.dv u) (t.key u) ∧ (t.key u).m = (t.key u).n

theorem range_below {w w' : World} {b o : Nat} {cs : List Value} (h : w.rangeAt b o cs) (hb : Below w.heap.size w w') (lb : b < w.heap.size) : w'.rangeAt b o cs := fun j v hv => by
  rw [hb.cell (p := ⟨b, o + j, none⟩) lb]; exact h j v hv

theorem TabAt.below {w w' : World} {b o : Nat} {t : Td} {m : Tm} (h : TabAt w b o t m) (hb : Below w.heap.size w w') : TabAt w' b o t m :=
  ⟨range_below h.cells hb h.lb, Nat.lt_of_lt_of_le h.lb hb.size, Nat.lt_of_lt_of_le h.lc hb.size, Nat.lt_of_lt_of_le h.lu hb.size, fun j hj => ⟨range_below (h.cols j hj).1 hb h.lc, (h.cols j hj).2⟩,
    fun u hu => ⟨by rw [hb.cell (p := ⟨m.ub, u * 2, none⟩) h.lu]; exact (h.uni u hu).1, by rw [hb.cell (p := ⟨m.ub, u * 2 + 1, none⟩) h.lu]; exact (h.uni u hu).2⟩,
    fun u hu => ⟨(h.key u hu).1.below hb, (h.key u hu).2⟩⟩

/-- The collation of the table's first key whose one column is s. -/
def Td.fs (t : Td) (s : ByteArray) : Option ByteArray := fsTo t.key s (1 + t.nu)

/-- What column j adds. -/
def out1 (t : Td) (m : Tm) (j : Nat) : List Value :=
  match t.fs (t.col j).nm with
  | none => []
  | some c => tcells t m ++ ccells (t.col j) ++ collCells c

def n1 (t : Td) (j : Nat) : Nat := if (t.fs (t.col j).nm).isSome = true then 1 else 0

/-- What the first j columns add. -/
def outC (t : Td) (m : Tm) : Nat → List Value
  | 0 => []
  | j + 1 => outC t m j ++ out1 t m j
def nC (t : Td) : Nat → Nat
  | 0 => 0
  | j + 1 => nC t j + n1 t j

/-- What the first i tables add. -/
def outT (ts : Nat → Td) (ms : Nat → Tm) : Nat → List Value
  | 0 => []
  | i + 1 => outT ts ms i ++ outC (ts i) (ms i) (ts i).nc
def nT (ts : Nat → Td) : Nat → Nat
  | 0 => 0
  | i + 1 => nT ts i + nC (ts i) (ts i).nc

theorem nC_le (t : Td) : ∀ j, nC t j ≤ j
  | 0 => Nat.le_refl _
  | j + 1 => by
    have := nC_le t j
    unfold nC n1
    split <;> omega

theorem nT_le (ts : Nat → Td) {N : Nat} (h : ∀ i, i < N → (ts i).nc ≤ 4096) : ∀ i, i ≤ N → nT ts i ≤ i * 4096
  | 0, _ => Nat.zero_le _
  | i + 1, hi => by
    have h1 := nT_le ts h i (by omega)
    have h2 := nC_le (ts i) (ts i).nc
    have h3 := h i (by omega)
    unfold nT
    omega

/-- A catalog. -/
structure CatAt (w : World) (p TB N NC : Nat) (ts : Nat → Td) (ms : Nat → Tm) : Prop where
  top : w.cell? ⟨p, 0, none⟩ = some (.slice (some ⟨TB, 0, none⟩) N NC)
  lp : p < w.heap.size
  tab : ∀ i, i < N → TabAt w TB (i * 15) (ts i) (ms i)

theorem CatAt.below {w w' : World} {p TB N NC : Nat} {ts : Nat → Td} {ms : Nat → Tm} (h : CatAt w p TB N NC ts ms) (hb : Below w.heap.size w w') : CatAt w' p TB N NC ts ms :=
  ⟨by rw [hb.cell (p := ⟨p, 0, none⟩) h.lp]; exact h.top, Nat.lt_of_lt_of_le h.lp hb.size, fun i hi => (h.tab i hi).below hb⟩

end Go.Proofs.Qxb6000463a
