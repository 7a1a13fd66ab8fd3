/-
  SMALL LAWS ON WORLDS: what a call leaves that only makes new blocks and draws ('grow'); a region that draws its order and calls such functions.
-/
import Derived.WalkKit
import Derived.Deep.LoopGhost
import Derived.Deep.OwnRows
import Derived.BigQuiet
import Derived.Deep.Light
namespace Go.Proofs.Qxb6000020a
open Go.RowKit

/-- w after new blocks (x's) and draws (x's count). (x is a world only so that the walk's simp knows that there is one.) -/
def grow (w x : World) : World := { w with heap := w.heap ++ x.heap, drawn := x.drawn }

theorem grow_size (w : World) (x : World) : (grow w x).heap.size = w.heap.size + x.heap.size := by simp [grow]

theorem grow_below (w : World) (x : World) : Below w.heap.size w (grow w x) :=
  ⟨rfl, rfl, rfl, by simp [grow], fun k hk => by simp [grow, Array.getElem?_append, hk]⟩

theorem below_grow {w w' : World} (h : Below w.heap.size w w') : ∃ x, w' = grow w x := by
  refine ⟨{ w' with heap := w'.heap.extract w.heap.size w'.heap.size }, ?_⟩
  obtain ⟨heap, tape, drawn, os, output⟩ := w'
  obtain ⟨h1, h2, h3, h4, h5⟩ := h
  simp only [grow] at *
  subst h1 h2 h3
  congr 1
  apply Array.ext_getElem?
  intro k
  rw [Array.getElem?_append]
  by_cases hk : k < w.heap.size
  · rw [if_pos hk]; exact h5 k hk
  · rw [if_neg hk, Array.getElem?_extract]
    by_cases hk2 : k < heap.size
    · rw [if_pos (by omega), show w.heap.size + (k - w.heap.size) = k from by omega]
    · rw [if_neg (by omega), Array.getElem?_eq_none (by omega)]

theorem grow_grow (w : World) (x y : World) : ∃ z, grow (grow w x) y = grow w z :=
  ⟨{ y with heap := x.heap ++ y.heap }, by simp [grow, Array.append_assoc]⟩

theorem grow_cell (w : World) (x : World) {b o : Nat} (h : b < w.heap.size) : (grow w x).cell? ⟨b, o, none⟩ = w.cell? ⟨b, o, none⟩ := (grow_below w x).cell (p := ⟨b, o, none⟩) h

theorem wp_region_grow {P : Program} {id : Nat} {Q : Exit → Act → World → Prop} {a : Act} {w : World} {l : List Oper} (hm : P.follows .mixedOrders = true) (hB : Region.lexB .any l.toArray = true)
    (h : wpQuiet P l.toArray (fun w' => ∃ x, w' = grow w x) (fun a' => ∀ w', (∃ x, w' = grow w x) → Q .normal a' w') l a) : (Code.region id l.toArray true).wp P Q a w :=
  wp_region_quiet (C := fun w' => ∃ x, w' = grow w x) hm hB ⟨{ w with heap := #[], drawn := w.drawn + 1 }, by simp [grow]⟩ (by simpa using h)

theorem quiet_grow {P : Program} {f : FuncId} {args : Array Value} {w : World} {x : World} {v : Value}
    (h : Calls P f args (grow w x) fun e w' => e = .returned v ∧ Below (grow w x).heap.size (grow w x) w') : Calls P f args (grow w x) fun e w'' => e = .returned v ∧ ∃ y, w'' = grow w y :=
  h.mono fun _ _ ⟨he, hb⟩ => ⟨he, by
    obtain ⟨y, rfl⟩ := below_grow hb
    exact grow_grow w x y⟩

theorem quiet_same {P : Program} {f : FuncId} {args : Array Value} {w : World} {x : World} {v : Value}
    (h : Calls P f args (grow w x) fun e w' => e = .returned v ∧ w' = grow w x) : Calls P f args (grow w x) fun e w'' => e = .returned v ∧ ∃ y, w'' = grow w y :=
  h.mono fun _ _ ⟨he, hb⟩ => ⟨he, x, hb⟩

theorem rowIs_below {w w' : World} {b : Nat} {t : TypeId} {n : Nat} {f : Nat → Value} (h : w.rowIs b t n f) (hb : Below w.heap.size w w') : w'.rowIs b t n f := h.of_block (hb.block _ h.lt)

end Go.Proofs.Qxb6000020a
