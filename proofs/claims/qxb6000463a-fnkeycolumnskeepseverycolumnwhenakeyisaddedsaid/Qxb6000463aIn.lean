/-
  THE TABLES THAT CAME IN; what the law asks of their sizes; the parts of a table that is being laid.
-/
import Derived.Test.Qxb6000463aRw
namespace Go.Proofs.Qxb6000463a
open Go.RowKit

/-- Where the parts of a table that came in lie. -/
structure Ti where
  ca : Option Addr
  cc : Nat
  v1 : Value
  v2 : Value
  ua : Option Addr
  uc : Nat
  bc : Nat
  oc : Nat
  bu : Nat
  ou : Nat
  x1 : Nat → Value
  x2 : Nat → Value

def icells (t : Td) (m : Ti) : List Value := [.string t.sch, .string t.nm, .int .u32 t.oid, .slice m.ca t.nc m.cc, m.v1, m.v2, .slice m.ua t.nu m.uc]
def kcol (c : Cd) : List Value := [.string c.nm, .int .i64 c.pos, .string c.co]

/-- A table that came in. -/
structure TIn (w : World) (b o : Nat) (t : Td) (m : Ti) : Prop where
  cells : w.rangeAt b o (icells t m)
  lb : b < w.heap.size
  ca : 0 < t.nc → m.ca = some ⟨m.bc, m.oc, none⟩ ∧ m.bc < w.heap.size
  cols : ∀ j, j < t.nc → w.rangeAt m.bc (m.oc + j * 3) (kcol (t.col j)) ∧ (t.col j).nm.size ≤ maxLen
  ua : 0 < t.nu → m.ua = some ⟨m.bu, m.ou, none⟩ ∧ m.bu < w.heap.size
  uni : ∀ u, u < t.nu → w.cell? ⟨m.bu, m.ou + u * 2, none⟩ = some (m.x1 u) ∧ w.cell? ⟨m.bu, m.ou + u * 2 + 1, none⟩ = some (m.x2 u) ∧ KeyIn w (m.x1 u) (m.x2 u) (t.uni u)
  pri : KeyIn w m.v1 m.v2 t.pri

theorem TIn.below {w w' : World} {b o : Nat} {t : Td} {m : Ti} (h : TIn w b o t m) (hb : Below w.heap.size w w') : TIn w' b o t m :=
  ⟨range_below h.cells hb h.lb, Nat.lt_of_lt_of_le h.lb hb.size, fun e => ⟨(h.ca e).1, Nat.lt_of_lt_of_le (h.ca e).2 hb.size⟩, fun j hj => ⟨range_below (h.cols j hj).1 hb (h.ca (by omega)).2, (h.cols j hj).2⟩,
    fun e => ⟨(h.ua e).1, Nat.lt_of_lt_of_le (h.ua e).2 hb.size⟩,
    fun u hu => ⟨by rw [hb.cell (p := ⟨m.bu, m.ou + u * 2, none⟩) (h.ua (by omega)).2]; exact (h.uni u hu).1, by rw [hb.cell (p := ⟨m.bu, m.ou + u * 2 + 1, none⟩) (h.ua (by omega)).2]; exact (h.uni u hu).2.1, (h.uni u hu).2.2.below hb⟩, h.pri.below hb⟩

/-- What the law asks of a table's sizes. -/
structure Bd (t : Td) : Prop where
  nc : t.nc ≤ 4096
  nu : t.nu ≤ 4096
  key : ∀ u, u < 1 + t.nu → (t.key u).n ≤ 1048576 ∧ (t.key u).m = (t.key u).n

/-- The parts of a table in a catalog, all in blocks lo or above. -/
structure TRest (w : World) (lo : Nat) (t : Td) (m : Tm) : Prop where
  l1 : lo ≤ m.cb ∧ m.cb < w.heap.size
  l2 : lo ≤ m.ub ∧ m.ub < w.heap.size
  cols : ∀ j, j < t.nc → w.rangeAt m.cb (j * 16) (ccells (t.col j))
  uni : ∀ u, u < t.nu → w.cell? ⟨m.ub, u * 2, none⟩ = some (m.cv (u + 1)) ∧ w.cell? ⟨m.ub, u * 2 + 1, none⟩ = some (m.dv (u + 1))
  key : ∀ u, u < 1 + t.nu → KeyAtB w lo (m.cv u) (m.dv u) (t.key u)

theorem TRest.kept {w w' : World} {lo : Nat} {t : Td} {m : Tm} {row : Option Nat} (h : TRest w lo t m) (hg : w.grownBy w' row) (hr : ∀ b, row = some b → b < lo) : TRest w' lo t m := by
  obtain ⟨l1, l2, h1, h2, h3⟩ := h
  have n1 : some m.cb ≠ row := fun e => by have := hr _ e.symm; omega
  have n2 : some m.ub ≠ row := fun e => by have := hr _ e.symm; omega
  have hs := hg.size
  refine ⟨⟨l1.1, by omega⟩, ⟨l2.1, by omega⟩, fun j hj i v hv => ?_, fun u hu => ⟨?_, ?_⟩, fun u hu => (h3 u hu).kept hg hr⟩
  · rw [hg.cell_far ⟨m.cb, j * 16 + i, none⟩ l1.2 n1]; exact h1 j hj i v hv
  · rw [hg.cell_far ⟨m.ub, u * 2, none⟩ l2.2 n2]; exact (h2 u hu).1
  · rw [hg.cell_far ⟨m.ub, u * 2 + 1, none⟩ l2.2 n2]; exact (h2 u hu).2

theorem TRest.below {w w' : World} {lo : Nat} {t : Td} {m : Tm} (h : TRest w lo t m) (hb : Below w.heap.size w w') : TRest w' lo t m := h.kept (grown_none hb) (fun _ e => by cases e)

end Go.Proofs.Qxb6000463a
