/-
  A MAP FROM STRINGS THAT THE CALL HAS MADE, ITS ELEMENTS WHATEVER: 'MapIs w b n F': at key s lies F s.
-/
import Derived.Test.Qxb6000463aProg
import Derived.Test.Qxb6000463aBase
import Derived.Maps.OwnSet
import Derived.Deep.AppendLies
namespace Go.Proofs.Qxb6000463a
open Go.RowKit

/-- An element reads as itself. -/
def heldR (v : Value) : Option (DataW Value × List MemPlace) := some (.held v, [])

theorem heldR_inj {v u : Value} {ps : List MemPlace} (h : heldR v = some (.held u, ps)) : v = u := by
  simp only [heldR, Option.some.injEq, Prod.mk.injEq, DataW.held.injEq] at h
  exact h.1

def nilS : Value := .slice none 0 0
def kl (s : ByteArray) : Lit := .string s.data.toList

theorem law9 : Maps.Keyed Try.prog 9 := Maps.string_keyed Try.underlying9
theorem zero67 (w : World) : (zeroValue 67).run Try.prog w = .ok nilS w := by kernel_rfl
theorem key9 {s : ByteArray} (h : s.size ≤ maxLen) : keyOf Try.prog 9 (.string s) = some (kl s) := WideMaps.keyOf_string_mk Try.underlying9 h
theorem kl_inj {s s' : ByteArray} (h : kl s = kl s') : s = s' := by
  unfold kl at h
  injection h with h
  have : s.data = s'.data := by
    apply Array.toList_inj.1 h
  cases s; cases s'; simp_all

/-- Block b of w is a map of at most n entries; at key s lies F s. -/
def MapIs (w : World) (b n : Nat) (F : ByteArray → Option Value) : Prop :=
  ∃ D : DataW Value, w.ownsMap Try.prog 9 heldR b n D ∧ ∀ s, s.size ≤ maxLen → Maps.has D (kl s) = (F s).isSome ∧ D.atKey (kl s) (.held nilS) = .held ((F s).getD nilS)

theorem MapIs.made (w : World) : MapIs (w.alloc (.map #[] 0)) w.heap.size 0 (fun _ => none) :=
  ⟨.map [], World.ownsMap_made w _ _ _, fun _ _ => ⟨rfl, rfl⟩⟩

theorem MapIs.lt {w : World} {b n : Nat} {F : ByteArray → Option Value} (h : MapIs w b n F) : b < w.heap.size := by
  obtain ⟨D, h, _⟩ := h; exact h.lt

theorem MapIs.kept {w w' : World} {b n : Nat} {F : ByteArray → Option Value} {row : Option Nat} (h : MapIs w b n F) (hg : w.grownBy w' row) (hne : some b ≠ row) : MapIs w' b n F := by
  obtain ⟨D, h, hF⟩ := h; exact ⟨D, h.kept hg hne, hF⟩

theorem MapIs.alloc {w : World} {b n : Nat} {F : ByteArray → Option Value} (h : MapIs w b n F) (o : Obj) : MapIs (w.alloc o) b n F := by
  obtain ⟨D, h, hF⟩ := h; exact ⟨D, h.alloc o, hF⟩

theorem MapIs.mono {w : World} {b n n' : Nat} {F : ByteArray → Option Value} (h : MapIs w b n F) (hn : n ≤ n') : MapIs w b n' F := by
  obtain ⟨D, h, hF⟩ := h; exact ⟨D, h.mono hn, hF⟩

theorem MapIs.drew {w : World} {b n : Nat} {F : ByteArray → Option Value} (h : MapIs w b n F) : MapIs w.drew b n F := h

theorem MapIs.not_cells {w : World} {b n : Nat} {F : ByteArray → Option Value} (h : MapIs w b n F) {c : Array Value} {t : TypeId} {fr : Nat × Nat} {g : Nat} (hg : w.heap[g]? = some (.cells c t fr)) : b ≠ g := by
  obtain ⟨D, ⟨es, cl, hb, _⟩, _⟩ := h
  rintro rfl
  rw [hb] at hg
  cases hg

/-- 'm[s]'. -/
theorem MapIs.look {w : World} {b n : Nat} {F : ByteArray → Option Value} (h : MapIs w b n F) {s : ByteArray} (hs : s.size ≤ maxLen) :
    (Instr.lookup 107 (.map (some b)) (.string s) false).run Try.prog w = .ok ((F s).getD nilS) w := by
  obtain ⟨D, h, hF⟩ := h
  obtain ⟨v, ps, hrun, hv⟩ := h.lookup law9 Try.underlying107 (zero67 w) (zd := .held nilS) (zp := []) rfl (key9 hs)
  rw [(hF s hs).2] at hv
  have hv := heldR_inj hv
  rw [← hv]; exact hrun

/-- 'v, ok := m[s]'. -/
theorem MapIs.look_ok {w : World} {b n : Nat} {F : ByteArray → Option Value} (h : MapIs w b n F) {s : ByteArray} (hs : s.size ≤ maxLen) :
    (Instr.lookup 107 (.map (some b)) (.string s) true).run Try.prog w = .ok (.tuple #[(F s).getD nilS, .bool (F s).isSome]) w := by
  obtain ⟨D, h, hF⟩ := h
  obtain ⟨v, ps, hrun, hv⟩ := h.look_ok law9 Try.underlying107 (zero67 w) (zd := .held nilS) (zp := []) rfl (key9 hs)
  rw [(hF s hs).2] at hv
  have hv := heldR_inj hv
  rw [← hv, ← (hF s hs).1]; exact hrun

/-- 'm[s] = v'. -/
theorem MapIs.update {w : World} {b n : Nat} {F : ByteArray → Option Value} (h : MapIs w b n F) {s : ByteArray} (hs : s.size ≤ maxLen) (hn : n < maxLen) (v : Value) :
    ∃ w', (Instr.mapUpdate 107 (.map (some b)) (.string s) v).run Try.prog w = .ok () w' ∧ MapIs w' b (n + 1) (upd F s (some v)) ∧ w.grownBy w' (some b) := by
  obtain ⟨D, h, hF⟩ := h
  obtain ⟨w', hrun, h', hg⟩ := h.update law9 Try.underlying107 hn (key9 hs) (val := v) (d := .held v) (ps := []) rfl
  refine ⟨w', hrun, ⟨_, h', fun x hx => ?_⟩, hg⟩
  have hk : WideAt.IsKeyLit (kl s) := trivial
  by_cases e : x = s
  · subst e
    rw [upd_same, Maps.has_put_same h.isMap hk, Maps.atKey_put_same h.isMap hk]
    exact ⟨rfl, rfl⟩
  · have e' : kl x ≠ kl s := fun h => e (kl_inj h)
    rw [upd_other _ _ _ e, Maps.has_put_other e', Maps.atKey_put_other e']
    exact hF x hx

end Go.Proofs.Qxb6000463a
