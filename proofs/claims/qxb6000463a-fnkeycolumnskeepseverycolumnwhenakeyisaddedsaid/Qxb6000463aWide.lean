/-
  WIDE STRUCTS BY LAW: a load, a store into a new block, a build, a slice of one.
-/
import Derived.Test.Qxb6000463aCat
namespace Go.Proofs.Qxb6000463a
open Go.RowKit

theorem setCells_new (w : World) (t : TypeId) : ∀ (cs : List Value) (pre : Array Value) (zs : List Value), zs.length = cs.length →
    (w.alloc (.cells (pre ++ zs.toArray) t)).setCells w.heap.size pre.size cs = w.alloc (.cells (pre ++ cs.toArray) t)
  | [], pre, zs, h => by
    obtain rfl : zs = [] := List.eq_nil_of_length_eq_zero h
    rfl
  | c :: cs, pre, [], h => by cases h
  | c :: cs, pre, z :: zs, h => by
    rw [World.setCells, World.setCell_alloc_at _ _ _ _ _ rfl]
    have e1 : (pre ++ (z :: zs).toArray).setIfInBounds pre.size c = (pre.push c) ++ zs.toArray := by
      apply Array.ext_getElem?
      intro k
      simp only [Array.getElem?_setIfInBounds, Array.getElem?_append, Array.size_append, Array.size_push, List.size_toArray, List.length_cons]
      by_cases hk : pre.size = k
      · subst hk; simp
      · rw [if_neg hk]
        by_cases hl : k < pre.size
        · rw [if_pos hl, if_pos (by omega)]; simp [Array.getElem?_push, show ¬ k = pre.size from by omega]
        · rw [if_neg hl, if_neg (by omega)]
          obtain ⟨j, hj⟩ : ∃ j, k - pre.size = j + 1 := ⟨k - pre.size - 1, by omega⟩
          rw [hj, show k - (pre.size + 1) = j from by omega]; simp
    have e2 : pre ++ (c :: cs).toArray = (pre.push c) ++ cs.toArray := by
      apply Array.ext_getElem?
      intro k
      simp only [Array.getElem?_append, Array.size_push]
      by_cases hl : k < pre.size
      · rw [if_pos hl, if_pos (by omega)]; simp [Array.getElem?_push, show ¬ k = pre.size from by omega]
      · rw [if_neg hl]
        by_cases hk : k = pre.size
        · subst hk; simp
        · rw [if_neg (by omega)]
          obtain ⟨j, hj⟩ : ∃ j, k - pre.size = j + 1 := ⟨k - pre.size - 1, by omega⟩
          rw [hj, show k - (pre.size + 1) = j from by omega]; simp
    rw [e1, e2, ← Array.size_push (xs := pre) c]
    exact setCells_new w t cs (pre.push c) zs (by simpa using h)

/-- 'x := v': the store into the block that was made for it. -/
theorem store_new {P : Program} (w : World) (t : TypeId) (zs cs : Array Value) (hz : zs.size = cs.size) (hi : (P.info? t).map (·.size) = some cs.size) (h1 : cs.all (·.oneCell') = true) :
    (Instr.storeAt t (.pointer (some ⟨w.heap.size, 0, none⟩)) (.agg cs)).run P (w.alloc (.cells zs t)) = .ok () (w.alloc (.cells cs t)) := by
  have ht : (w.alloc (.cells zs t)).there w.heap.size 0 cs.size := fun j hj => by
    rw [Nat.zero_add, World.cell?_alloc_at _ _ _ _ rfl]
    refine ⟨by simp; omega, ?_⟩
    simp
  rw [run_storeAt_mid _ _ _ _ _ ht hi h1]
  have := setCells_new w t cs.toList #[] zs.toList (by simpa using hz)
  simp at this
  rw [this]

/-- The load out of a block known whole. -/
theorem load_new {P : Program} (w : World) (t : TypeId) (cs : Array Value) (d : TypeDesc) (hu : P.underlying t = some d) (hd : d.isRow = true) (hi : (P.info? t).map (·.size) = some cs.size) :
    (Instr.loadAt t (.pointer (some ⟨w.heap.size, 0, none⟩))).run P (w.alloc (.cells cs t)) = .ok (.agg cs) (w.alloc (.cells cs t)) := by
  have := run_loadAt_mid (P := P) (w.alloc (.cells cs t)) w.heap.size 0 t cs.toList d (fun j v hv => by
    rw [Nat.zero_add, World.cell?_alloc_at _ _ _ _ rfl]; simpa using hv) hu hd (by simpa using hi)
  simpa using this

/-- .. at the list of a plain region's operations. -/
theorem wpList_store_new {P : Program} {ops : Array Oper} {rest : List Oper} {op : Oper} {a : Act} {Q : Exit → Act → World → Prop} (hgd : op.guard = none) (ty : TypeId) (x y : Operand) (ho : op.op = .store ty x y) (w : World) (zs cs : Array Value)
    (hx : a.eval x = .pointer (some ⟨w.heap.size, 0, none⟩)) (hy : a.eval y = .agg cs) (hz : zs.size = cs.size) (hi : (P.info? ty).map (·.size) = some cs.size) (h1 : cs.all (·.oneCell') = true)
    (h : wpList P ops Q rest (a.put op.dst undef) (w.alloc (.cells cs ty))) : wpList P ops Q (op :: rest) a (w.alloc (.cells zs ty)) :=
  wpList_plain hgd fun _ hK => by
    have hst := store_new (P := P) w ty zs cs hz hi h1
    simp only [Instr.storeAt, Instr.sureAddr, Sem.run_bind, Sem.run_pure, Result.andThen_ok] at hst
    unfold Oper.wp execOp
    simp only [ho, hx, hy, Instr.storeAt, Instr.sureAddr, Sem.run_bind, Sem.run_pure, Result.andThen_ok, hst]
    exact hK _ _ h

theorem range_new (w : World) (t : TypeId) (cs : List Value) : (w.alloc (.cells cs.toArray t)).rangeAt w.heap.size 0 cs := fun j v hv => by
  rw [Nat.zero_add, World.cell?_alloc_at _ _ _ _ rfl]; simpa using hv

/-- A load out of the middle of a block. -/
theorem load_at {w : World} {b o : Nat} {t : TypeId} {cs : List Value} {d : TypeDesc} (hc : w.rangeAt b o cs) (hu : Try.prog.underlying t = some d) (hd : d.isRow = true) (hi : (Try.prog.info? t).map (·.size) = some cs.length) :
    (Instr.loadAt t (.pointer (some ⟨b, o, none⟩))).run Try.prog w = .ok (.agg cs.toArray) w := run_loadAt_mid w b o t cs d hc hu hd hi

theorem size72 : (Try.prog.info? 72).map (·.size) = some 15 := by kernel_rfl
theorem size78 : (Try.prog.info? 78).map (·.size) = some 16 := by kernel_rfl
theorem size76 : (Try.prog.info? 76).map (·.size) = some 4 := by kernel_rfl
theorem size80 : (Try.prog.info? 80).map (·.size) = some 35 := by kernel_rfl

/-- A key column's cells. -/
def kcells (t : Td) (m : Tm) (c : Cd) (s : ByteArray) : List Value := tcells t m ++ ccells c ++ collCells s

theorem build80 (t : Td) (m : Tm) (c : Cd) (s : ByteArray) (w : World) :
    (Instr.build 80 #[(0, .agg (tcells t m).toArray), (1, .agg (ccells c).toArray), (2, .agg (collCells s).toArray)]).run Try.prog w = .ok (.agg (kcells t m c s).toArray) w := by kernel_rfl
theorem slice80 (t : Td) (m : Tm) (c : Cd) (s : ByteArray) (w : World) :
    (Instr.buildSlice 53 1 #[(0, .agg (kcells t m c s).toArray)]).run Try.prog w = .ok (.slice (some ⟨w.heap.size, 0, none⟩) 1 1) (w.alloc (.cells (kcells t m c s).toArray 80)) := by kernel_rfl

end Go.Proofs.Qxb6000463a
