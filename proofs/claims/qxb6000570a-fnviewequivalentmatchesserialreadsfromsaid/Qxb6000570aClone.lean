/-
  THE WALKS of 'cloneInts' and 'cloneAdj'.
-/
import Derived.Test.Qxb6000570aProg
import Derived.Test.Qxb6000570aBase
import Derived.Lib.SliceRun
import Derived.Laws.CopyOwn
import Derived.WideShapes
namespace Go.Proofs.Qxb6000570a
open Go.RowKit
open Go.WideShapes (add_plain)

theorem Try.info3 : (Try.prog.info? 3).map (fun i => (i.zero, i.size, i.bytes)) = some (some (.int .i64 0), 1, 8) := by kernel_rfl
theorem Try.info26 : (Try.prog.info? 26).map (fun i => (i.zero, i.size, i.bytes)) = some (some (.slice none 0 0), 1, 24) := by kernel_rfl
theorem Try.size3 : (Try.prog.info? 3).map (·.size) = some 1 := by kernel_rfl

/-- 'copy' of a slice of ints into a fresh one of its length. -/
theorem copy_full (w : World) (x : Addr) (n c : Nat) (z : Nat → Int) (hc : ∀ i, i < n → w.cell? (x.add i) = some (.int .i64 (z i))) (hb : 0 < n → x.block < w.heap.size) :
    ∃ W', (Builtin.copy_ #[26, 26] 3 #[.slice (some ⟨w.heap.size, 0, none⟩) n n, .slice (some x) n c]).run Try.prog (w.alloc (.cells (madeCells #[.int .i64 0] n) 3)) = .ok (goInt n) W' ∧
      Below w.heap.size w W' ∧ W'.rowIs w.heap.size 3 n (fun i => .int .i64 (z i)) := by
  have hB : Below w.heap.size w (w.alloc (.cells (madeCells #[.int .i64 0] n) 3)) := (Below.refl _ _).alloc (Nat.le_refl _) _
  by_cases hn : n = 0
  · subst hn
    exact ⟨_, run_copy_none (P := Try.prog) _ 26 26 3 3 _ _ 0 0 0 c Try.underlying26 Try.size3 rfl, hB, (World.rowIs_made w _ 0 3).congr (fun i hi => by omega)⟩
  · have hg := Go.Deep.blk_alloc_new w (.cells (madeCells #[.int .i64 0] n) 3)
    have hs := size_madeCells #[Value.int .i64 0] n
    have hl : ((List.range n).map (fun i => Value.int .i64 (z i))).length = n := by simp
    have hr := run_copy_row (P := Try.prog) (w.alloc (.cells (madeCells #[.int .i64 0] n) 3)) 26 26 3 3 w.heap.size 0 n n x n c _ 3 ((List.range n).map (fun i => .int .i64 (z i))) Try.underlying26 Try.size3 hg (by rw [hl]; exact (Nat.min_self n).symm)
      (fun j v hv => by
        have hj : j < n := by have := (List.getElem?_eq_some_iff.1 hv).1; simpa using this
        simp [hj] at hv
        subst hv
        rw [hB.cell (p := x.add j) (by have : (x.add j).block = x.block := (by unfold Addr.add; split <;> rfl); rw [this]; exact hb (by omega))]
        exact hc j hj) (by rw [hl, hs]; omega) (by
        intro v hv
        obtain ⟨i, _, rfl⟩ := List.mem_map.1 hv
        rfl)
    rw [hl] at hr
    refine ⟨_, hr, below_setRow hB (Nat.le_refl _) _, ?_⟩
    refine ⟨_, setRow_heap _ _ _ _ _ _ hg, by simp [hs], fun i hi => ?_⟩
    have e : List.drop n (madeCells #[Value.int .i64 0] n).toList = [] := List.drop_eq_nil_of_le (by simp [hs])
    simp [hi, e]

/-- What 'cloneInts' leaves: a slice over a new block (or an empty one). -/
def RetOwn (w : World) (n : Nat) (z : Nat → Int) (e : Ending) (w' : World) : Prop :=
  ∃ a' c' g, e = .returned (.slice a' n c') ∧ Below w.heap.size w w' ∧ w.heap.size ≤ g ∧ (0 < n → a' = some ⟨g, 0, none⟩ ∧ w'.rowIs g 3 n (fun i => .int .i64 (z i)))

theorem RetOwn.reads {w w' : World} {n : Nat} {z : Nat → Int} {e : Ending} (h : RetOwn w n z e w') : RetReads w n (fun i => .int .i64 (z i)) e w' := by
  obtain ⟨a', c', g, he, hb, _, hr⟩ := h
  refine ⟨a', c', he, hb, g, 0, fun h => ⟨(hr h).1, (hr h).2.lt⟩, fun i hi => ?_⟩
  rw [Nat.zero_add]; exact (hr (by omega)).2.cell hi

set_option maxHeartbeats 2000000 in
theorem cloneInts_any (a : Option Addr) (n c : Nat) (z : Nat → Int) (w : World) (hn : n ≤ 1048576) (h : Reads w a n (fun i => .int .i64 (z i))) (ha : a = none → n = 0 ∧ c = 0) :
    Calls Try.prog 23 #[.slice a n c] w (RetOwn w n z) := by
  obtain ⟨b, o, h1, h2⟩ := h
  have hnl := fun (w : World) => Lib.run_eql_slice_nil (P := Try.prog) w 26 3 a n c 0 0 Try.underlying26
  cases a with
  | none =>
    obtain ⟨rfl, rfl⟩ := ha rfl
    go_enter Try.func23, Try.ntmps23
    go_wp2
    go_ret
    exact ⟨none, 0, w.heap.size, rfl, Below.refl _ _, Nat.le_refl _, fun h => by omega⟩
  | some x =>
    clear ha
    obtain ⟨W', hcp, hB, hR⟩ := copy_full w x n c z (fun i hi => by
      obtain ⟨e, _⟩ := h1 (by omega)
      obtain rfl := Option.some.inj e
      rw [add_plain]; exact h2 i hi) (fun h => by
      obtain ⟨e, hb⟩ := h1 h
      obtain rfl := Option.some.inj e
      exact hb)
    have hmk := run_make_row' (P := Try.prog) 26 3 (.int .i64 0) 8 Try.underlying26 Try.info3 rfl .i64 .i64 n (by omega) (by omega)
    go_enter Try.func23, Try.ntmps23
    go_wp2
    go_ret
    exact ⟨_, _, w.heap.size, rfl, hB, Nat.le_refl _, fun _ => ⟨rfl, hR⟩⟩

/-- A slice of slices of ints that can be read. -/
structure Adj (w : World) (a : Option Addr) (T : Nat) (A : Nat → Option Addr) (L C : Nat → Nat) (R : Nat → Nat → Int) : Prop where
  top : Reads w a T (fun u => .slice (A u) (L u) (C u))
  row : ∀ u, u < T → Reads w (A u) (L u) (fun i => .int .i64 (R u i))

theorem Adj.below {w w' : World} {a : Option Addr} {T : Nat} {A : Nat → Option Addr} {L C : Nat → Nat} {R : Nat → Nat → Int} (h : Adj w a T A L C R) (hb : Below w.heap.size w w') : Adj w' a T A L C R :=
  ⟨h.top.below hb, fun u hu => (h.row u hu).below hb⟩

/-- The first k rows are copied. -/
structure Copied (w : World) (G T k : Nat) (A : Nat → Option Addr) (L C gs : Nat → Nat) (R : Nat → Nat → Int) : Prop where
  top : w.rowIs G 26 T (fun u => if u < k then .slice (A u) (L u) (C u) else .slice none 0 0)
  row : ∀ u, u < k → G < gs u ∧ (0 < L u → A u = some ⟨gs u, 0, none⟩ ∧ w.rowIs (gs u) 3 (L u) (fun i => .int .i64 (R u i)))

theorem Copied.below {w w' : World} {G T k : Nat} {A : Nat → Option Addr} {L C gs : Nat → Nat} {R : Nat → Nat → Int} (h : Copied w G T k A L C gs R) (hb : Below w.heap.size w w') : Copied w' G T k A L C gs R :=
  ⟨rowIs_below h.top hb, fun u hu => ⟨(h.row u hu).1, fun e => ⟨((h.row u hu).2 e).1, rowIs_below ((h.row u hu).2 e).2 hb⟩⟩⟩

theorem Copied.step {w : World} {G T k : Nat} {A : Nat → Option Addr} {L C gs : Nat → Nat} {R : Nat → Nat → Int} (h : Copied w G T k A L C gs R) {a : Option Addr} {c g : Nat} (hg : G < g)
    (hr : 0 < L k → a = some ⟨g, 0, none⟩ ∧ w.rowIs g 3 (L k) (fun i => .int .i64 (R k i))) :
    Copied (w.setCell ⟨G, k, none⟩ (.slice a (L k) c)) G T (k + 1) (upd A k a) L (upd C k c) (upd gs k g) R := by
  refine ⟨(h.top.set k _).congr fun j _ => ?_, fun u hu => ?_⟩
  · by_cases e : j = k
    · subst e; rw [if_pos rfl, if_pos (by omega), upd_same, upd_same]
    · rw [if_neg e, upd_other _ _ _ e, upd_other _ _ _ e]
      by_cases hl : j < k
      · rw [if_pos hl, if_pos (by omega)]
      · rw [if_neg hl, if_neg (by omega)]
  · by_cases e : u = k
    · subst e
      rw [upd_same, upd_same]
      exact ⟨hg, fun e => ⟨(hr e).1, (hr e).2.setOther (by show g ≠ G; omega) _⟩⟩
    · rw [upd_other _ _ _ e, upd_other _ _ _ e]
      obtain ⟨h1, h2⟩ := h.row u (by omega)
      exact ⟨h1, fun e => ⟨(h2 e).1, (h2 e).2.setOther (by show gs u ≠ G; omega) _⟩⟩

/-- What 'cloneAdj' leaves. -/
def RetAdj (w : World) (T : Nat) (L : Nat → Nat) (R : Nat → Nat → Int) (e : Ending) (w' : World) : Prop :=
  ∃ a' c' A' C', e = .returned (.slice a' T c') ∧ Below w.heap.size w w' ∧ Adj w' a' T A' L C' R

set_option maxHeartbeats 4000000 in
theorem cloneAdj_any (a : Option Addr) (T c : Nat) (A : Nat → Option Addr) (L C : Nat → Nat) (R : Nat → Nat → Int) (w : World) (hT : T ≤ 1048576) (hL : ∀ u, u < T → L u ≤ 1048576)
    (h : Adj w a T A L C R) (ha : a = none → T = 0 ∧ c = 0) (hA : ∀ u, u < T → A u = none → L u = 0 ∧ C u = 0) :
    Calls Try.prog 13 #[.slice a T c] w (RetAdj w T L R) := by
  have hnl := fun (w : World) => Lib.run_eql_slice_nil (P := Try.prog) w 22 26 a T c 0 0 Try.underlying22
  cases a with
  | none =>
    obtain ⟨rfl, rfl⟩ := ha rfl
    go_enter Try.func13, Try.ntmps13
    go_wp2
    go_ret
    exact ⟨none, 0, A, C, rfl, Below.refl _ _, ⟨0, 0, fun h => by omega, fun i hi => by omega⟩, fun u hu => by omega⟩
  | some x =>
    clear ha
    have hmk := run_make_row' (P := Try.prog) 22 26 (.slice none 0 0) 24 Try.underlying22 Try.info26 rfl .i64 .i64 T (by omega) (by omega)
    have hrow0 := World.rowIs_made w (.slice none 0 0) T 26
    go_enter Try.func13, Try.ntmps13
    go_wp2
    go_loopg [4] T (fun gg s wr => ∃ (k : Nat) (A' : Nat → Option Addr) (C' gs : Nat → Nat), k ≤ T ∧ gg = T - k ∧ s = .int .i64 k ∧ Below w.heap.size w wr ∧ Copied wr w.heap.size T k A' L C' gs R)
    case atStart => exact ⟨0, fun _ => none, fun _ => 0, fun _ => 0, Nat.zero_le _, rfl, rfl, (Below.refl _ _).alloc (Nat.le_refl _) _, hrow0.congr (fun i _ => by simp), fun u hu => by omega⟩
    case round =>
      obtain ⟨k, A', C', gs, hk, rfl, rfl, hb, hcp⟩ := hrel
      clear hmk hrow0 hnl
      by_cases hlt : k < T
      · have hltz : (k : Int) < (T : Int) := by omega
        obtain ⟨bt, ot, q1, v1⟩ := h.top.below hb
        obtain ⟨e, lt⟩ := q1 (by omega)
        obtain rfl := Option.some.inj e
        have ck : wr.cell? ⟨bt, ot + k, none⟩ = some (.slice (A k) (L k) (C k)) := v1 k hlt
        have hrk := (h.row k hlt).below hb
        have hLk := hL k hlt
        have hAk := hA k hlt
        have HC : Hid (Copied wr w.heap.size T k A' L C' gs R) := hcp
        clear v1 q1 hcp
        go_wp2_with fail
        refine (cloneInts_any (A k) (L k) (C k) (R k) wr hLk hrk hAk).mono ?_
        rintro e w1 ⟨a1, c1, g1, rfl, b1, hg1, r1⟩
        have HC1 : Hid (Copied w1 w.heap.size T k A' L C' gs R) := HC.out.below b1
        have t1 := HC1.out.top.cell hlt
        have f1 := HC1.out.top.frozen k
        have hB1 := hb.trans (b1.mono hb.size)
        have hGg : w.heap.size < g1 := Nat.lt_of_lt_of_le HC.out.top.lt hg1
        have HR1 : Hid (0 < L k → a1 = some ⟨g1, 0, none⟩ ∧ w1.rowIs g1 3 (L k) (fun i => .int .i64 (R k i))) := r1
        clear HC hb ck hrk hAk r1 b1 hL hA
        go_wp2
        go_roundg (T - (k + 1))
        case measure => go_light; omega
        case rel =>
          go_light
          exact ⟨k + 1, upd A' k a1, upd C' k c1, upd gs k g1, by omega, rfl, by go_num, hB1.setCell (Nat.le_refl _) _, HC1.out.step hGg HR1.out⟩
      · obtain rfl : k = T := by omega
        clear hL hA
        go_wp2
        go_ret
        refine ⟨_, _, A', C', rfl, hb, Reads.of_row (hcp.top.congr (fun j hj => by rw [if_pos hj])), fun u hu => ⟨gs u, 0, fun e => ⟨((hcp.row u hu).2 e).1, ((hcp.row u hu).2 e).2.lt⟩, fun i hi => ?_⟩⟩
        rw [Nat.zero_add]; exact ((hcp.row u hu).2 (by omega)).2.cell hi

end Go.Proofs.Qxb6000570a
