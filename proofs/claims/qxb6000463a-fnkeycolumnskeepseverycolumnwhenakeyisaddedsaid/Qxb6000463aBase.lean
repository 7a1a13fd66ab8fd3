/-
  SMALL LAWS ON WORLDS: what a call leaves that only makes new blocks and draws ('grow'); a region that draws its order and calls such functions.
-/
import Derived.WalkKit
import Derived.Deep.LoopGhost
import Derived.Deep.OwnRows
import Derived.BigQuiet
import Derived.Deep.Light
namespace Go.Proofs.Qxb6000463a
open Go.RowKit

/-- w after new blocks (x's) and draws (x's count). (x is a world only so that the walk's simp knows that there is one.) -/
def grow (w x : World) : World := { w with heap := w.heap ++ x.heap, drawn := x.drawn }

theorem grow_size (w : World) (x : World) : (grow w x).heap.size = w.heap.size + x.heap.size := by simp [grow]

theorem grow_below (w : World) (x : World) : Below w.heap.size w (grow w x) :=
  ⟨rfl, rfl, rfl, by simp [grow], fun k hk => by simp [grow, Array.getElem?_append, hk]⟩

theorem below_grow {w w' : World} (h : Below w.heap.size w w') : ∃ x, w' = grow w x := by
  refine ⟨{ w' with heap := w'.heap.extract w.heap.size w'.heap.size }, ?_⟩
  obtain ⟨heap, tape, drawn, os, output⟩ := w'
  obtain ⟨h1, h2, h3, h4, h5⟩ := h
  simp only [grow] at *
  subst h1 h2 h3
  congr 1
  apply Array.ext_getElem?
  intro k
  rw [Array.getElem?_append]
  by_cases hk : k < w.heap.size
  · rw [if_pos hk]; exact h5 k hk
  · rw [if_neg hk, Array.getElem?_extract]
    by_cases hk2 : k < heap.size
    · rw [if_pos (by omega), show w.heap.size + (k - w.heap.size) = k from by omega]
    · rw [if_neg (by omega), Array.getElem?_eq_none (by omega)]

theorem grow_grow (w : World) (x y : World) : ∃ z, grow (grow w x) y = grow w z :=
  ⟨{ y with heap := x.heap ++ y.heap }, by simp [grow, Array.append_assoc]⟩

theorem grow_cell (w : World) (x : World) {b o : Nat} (h : b < w.heap.size) : (grow w x).cell? ⟨b, o, none⟩ = w.cell? ⟨b, o, none⟩ := (grow_below w x).cell (p := ⟨b, o, none⟩) h

theorem wp_region_grow {P : Program} {id : Nat} {Q : Exit → Act → World → Prop} {a : Act} {w : World} {l : List Oper} (hm : P.follows .mixedOrders = true) (hB : Region.lexB .any l.toArray = true)
    (h : wpQuiet P l.toArray (fun w' => ∃ x, w' = grow w x) (fun a' => ∀ w', (∃ x, w' = grow w x) → Q .normal a' w') l a) : (Code.region id l.toArray true).wp P Q a w :=
  wp_region_quiet (C := fun w' => ∃ x, w' = grow w x) hm hB ⟨{ w with heap := #[], drawn := w.drawn + 1 }, by simp [grow]⟩ (by simpa using h)

theorem quiet_grow {P : Program} {f : FuncId} {args : Array Value} {w : World} {x : World} {v : Value}
    (h : Calls P f args (grow w x) fun e w' => e = .returned v ∧ Below (grow w x).heap.size (grow w x) w') : Calls P f args (grow w x) fun e w'' => e = .returned v ∧ ∃ y, w'' = grow w y :=
  h.mono fun _ _ ⟨he, hb⟩ => ⟨he, by
    obtain ⟨y, rfl⟩ := below_grow hb
    exact grow_grow w x y⟩

theorem quiet_same {P : Program} {f : FuncId} {args : Array Value} {w : World} {x : World} {v : Value}
    (h : Calls P f args (grow w x) fun e w' => e = .returned v ∧ w' = grow w x) : Calls P f args (grow w x) fun e w'' => e = .returned v ∧ ∃ y, w'' = grow w y :=
  h.mono fun _ _ ⟨he, hb⟩ => ⟨he, x, hb⟩

theorem rowIs_below {w w' : World} {b : Nat} {t : TypeId} {n : Nat} {f : Nat → Value} (h : w.rowIs b t n f) (hb : Below w.heap.size w w') : w'.rowIs b t n f := h.of_block (hb.block _ h.lt)

theorem below_drewN' (w : World) (n : Nat) : Below w.heap.size w (w.drewN n) := by
  rw [show w.drewN n = grow w { w with heap := #[], drawn := (w.drewN n).drawn } from by simp [grow, World.drewN]]
  exact grow_below _ _

/-- 'make([]T, n)', T of whatever number of cells. -/
theorem run_make_wide {P : Program} (t e : TypeId) (z : Value) (size bytes : Nat) (ht : P.underlying t = some (.slice e)) (hinfo : (P.info? e).map (fun i => (i.zero, i.size, i.bytes)) = some (some z, size, bytes))
    (n : Nat) (hbytes : bytes * n ≤ 281474976710656) (h63 : n ≤ 9223372036854775807) (w : World) :
    (Instr.makeSlice t (.int .i64 (n : Int)) (.int .i64 (n : Int))).run P w = .ok (.slice (some ⟨w.heap.size, 0, none⟩) n n) (w.alloc (.cells (madeCells z.cells (n * size)) e)) := by
  obtain ⟨i, hi, hz, hs, hb⟩ := info_parts hinfo
  have hb' : (i.bytes : Int) * (n : Int) ≤ 281474976710656 := by
    have h : ((i.bytes * n : Nat) : Int) ≤ 281474976710656 := by rw [hb]; omega
    rwa [Int.natCast_mul] at h
  have hr := run_make (P := P) w t e i z ht hi hz .i64 .i64 n n (by omega) (Int.le_refl _) hb' (by omega)
  simpa only [Int.toNat_natCast, hs] using hr

theorem ret_bool {a b : Bool} (h : a = b) : Ending.returned (.bool a) = .returned (.bool b) := by rw [h]

def upd {ι α : Type} [DecidableEq ι] (q : ι → α) (i : ι) (v : α) : ι → α := fun j => if j = i then v else q j
theorem upd_same {ι α : Type} [DecidableEq ι] (q : ι → α) (i : ι) (v : α) : upd q i v i = v := by simp [upd]
theorem upd_other {ι α : Type} [DecidableEq ι] (q : ι → α) (i : ι) (v : α) {j : ι} (h : j ≠ i) : upd q i v j = q j := by simp [upd, h]

/-- A slice that can be read: its first n elements (of one cell) are f 0 .. -/
def Reads (w : World) (a : Option Addr) (n : Nat) (f : Nat → Value) : Prop :=
  ∃ b o, (0 < n → a = some ⟨b, o, none⟩ ∧ b < w.heap.size) ∧ ∀ i, i < n → w.cell? ⟨b, o + i, none⟩ = some (f i)

theorem Reads.below {w w' : World} {a : Option Addr} {n : Nat} {f : Nat → Value} (h : Reads w a n f) (hb : Below w.heap.size w w') : Reads w' a n f := by
  obtain ⟨b, o, h1, h2⟩ := h
  refine ⟨b, o, fun e => ⟨(h1 e).1, Nat.lt_of_lt_of_le (h1 e).2 hb.size⟩, fun i hi => ?_⟩
  rw [hb.cell (p := ⟨b, o + i, none⟩) (h1 (by omega)).2]
  exact h2 i hi

theorem Reads.of_row {w : World} {g n : Nat} {t : TypeId} {f : Nat → Value} (h : w.rowIs g t n f) : Reads w (some ⟨g, 0, none⟩) n f :=
  ⟨g, 0, fun _ => ⟨rfl, h.lt⟩, fun i hi => by rw [Nat.zero_add]; exact h.cell hi⟩

/-- What a copy leaves. -/
def RetReads (w : World) (n : Nat) (f : Nat → Value) (e : Ending) (w' : World) : Prop :=
  ∃ a' c', e = .returned (.slice a' n c') ∧ Below w.heap.size w w' ∧ Reads w' a' n f

/-- Some bool; the world as it was. -/
def RetSome (w : World) (e : Ending) (w' : World) : Prop := ∃ b : Bool, e = .returned (.bool b) ∧ w = w'
/-- True; nothing old has turned. -/
def RetTrue (w : World) (e : Ending) (w' : World) : Prop := e = .returned (.bool true) ∧ Below w.heap.size w w'

end Go.Proofs.Qxb6000463a
