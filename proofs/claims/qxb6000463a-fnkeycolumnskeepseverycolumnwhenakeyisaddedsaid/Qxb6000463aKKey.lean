/-
  A KEY THAT CAME IN; THE WALK of 'kKey'.
-/
import Derived.Test.Qxb6000463aCat
namespace Go.Proofs.Qxb6000463a
open Go.RowKit

theorem Try.info9 : (Try.prog.info? 9).map (fun i => (i.zero, i.size, i.bytes)) = some (some (.string ⟨#[]⟩), 1, 16) := by kernel_rfl

/-- A key that came in: two slices of strings. -/
def KeyIn (w : World) (v1 v2 : Value) (k : Kd) : Prop :=
  ∃ a c a' c', v1 = .slice a k.n c ∧ v2 = .slice a' k.m c' ∧ Reads w a k.n (fun i => .string (k.col i)) ∧ Reads w a' k.m (fun i => .string (k.co i)) ∧ ∀ i, i < k.n → (k.col i).size ≤ maxLen

theorem KeyIn.below {w w' : World} {v1 v2 : Value} {k : Kd} (h : KeyIn w v1 v2 k) (hb : Below w.heap.size w w') : KeyIn w' v1 v2 k := by
  obtain ⟨a, c, a', c', h1, h2, h3, h4, h5⟩ := h
  exact ⟨a, c, a', c', h1, h2, h3.below hb, h4.below hb, h5⟩

/-- The cells of a row of collations. -/
def lcell (q : Nat → ByteArray) (j : Nat) : Value := if j % 4 = 0 then .string ⟨#[]⟩ else if j % 4 = 3 then .bool false else .string (q (j / 4))

/-- Block g is a row of n collations. -/
def LRow (w : World) (g n : Nat) (q : Nat → ByteArray) : Prop := w.rowIs g 76 (n * 4) (lcell q)

section
variable {w : World} {g n : Nat} {q : Nat → ByteArray}
theorem LRow.congr {q' : Nat → ByteArray} (h : LRow w g n q) (e : ∀ i, i < n → q i = q' i) : LRow w g n q' :=
  World.rowIs.congr h fun j hj => by unfold lcell; rw [e (j / 4) (by omega)]
theorem LRow.drew (h : LRow w g n q) : LRow w.drew g n q := h
theorem LRow.below {w' : World} (h : LRow w g n q) (hb : Below w.heap.size w w') : LRow w' g n q := rowIs_below h hb

theorem LRow_made (w : World) (n : Nat) : LRow (w.alloc (.cells (madeCells (Value.agg #[.string ⟨#[]⟩, .string ⟨#[]⟩, .string ⟨#[]⟩, .bool false]).cells (n * 4)) 76)) w.heap.size n (fun _ => ⟨#[]⟩) := by
  refine ⟨_, Go.Deep.blk_alloc_new _ _, size_madeCells _ _, fun i hi => ?_⟩
  have hm : i % 4 = 0 ∨ i % 4 = 1 ∨ i % 4 = 2 ∨ i % 4 = 3 := by omega
  simp only [madeCells, Value.cells]
  rcases hm with h | h | h | h <;> simp [hi, h, lcell]

theorem LRow.put (h : LRow w g n q) (i : Nat) (s : ByteArray) :
    LRow ((((w.setCell ⟨g, i * 4, none⟩ (.string ⟨#[]⟩)).setCell ⟨g, i * 4 + 1, none⟩ (.string s)).setCell ⟨g, i * 4 + 2, none⟩ (.string s)).setCell ⟨g, i * 4 + 3, none⟩ (.bool false)) g n (upd q i s) := by
  refine World.rowIs.congr ((((World.rowIs.set h _ _).set _ _).set _ _).set _ _) fun j hj => ?_
  by_cases e : j / 4 = i
  · have hm : j = i * 4 ∨ j = i * 4 + 1 ∨ j = i * 4 + 2 ∨ j = i * 4 + 3 := by omega
    have ed : upd q i s (j / 4) = s := by rw [e, upd_same]
    unfold lcell
    rw [ed]
    rcases hm with rfl | rfl | rfl | rfl
    · rw [if_neg (by omega), if_neg (by omega), if_neg (by omega), if_pos rfl, if_pos (by omega)]
    · rw [if_neg (by omega), if_neg (by omega), if_pos rfl, if_neg (by omega), if_neg (by omega)]
    · rw [if_neg (by omega), if_pos rfl, if_neg (by omega), if_neg (by omega)]
    · rw [if_pos rfl, if_neg (by omega), if_pos (by omega)]
  · rw [if_neg (by omega), if_neg (by omega), if_neg (by omega), if_neg (by omega)]
    unfold lcell
    rw [upd_other _ _ _ e]

theorem LRow.first (h : LRow w g n q) (hn : 0 < n) : ∀ j v, (collCells (q 0))[j]? = some v → w.cell? ⟨g, j, none⟩ = some v := by
  intro j v hv
  have hj : j < 4 := (List.getElem?_eq_some_iff.1 hv).1
  rw [World.rowIs.cell h (by omega), ← hv]
  have hm : j = 0 ∨ j = 1 ∨ j = 2 ∨ j = 3 := by omega
  rcases hm with rfl | rfl | rfl | rfl <;> rfl
end

/-- A key in a catalog, its blocks lo or above. -/
def KeyAtB (w : World) (lo : Nat) (cv dv : Value) (k : Kd) : Prop :=
  ∃ bc bd cc cd, lo ≤ bc ∧ lo ≤ bd ∧ cv = .slice (some ⟨bc, 0, none⟩) k.n cc ∧ dv = .slice (some ⟨bd, 0, none⟩) k.m cd ∧ bc < w.heap.size ∧ bd < w.heap.size ∧
    (0 < k.n → w.cell? ⟨bc, 0, none⟩ = some (.string (k.col 0)) ∧ (k.col 0).size ≤ maxLen) ∧ (0 < k.m → ∀ j v, (collCells (k.co 0))[j]? = some v → w.cell? ⟨bd, j, none⟩ = some v)

theorem KeyAtB.keyAt {w : World} {lo : Nat} {cv dv : Value} {k : Kd} (h : KeyAtB w lo cv dv k) : KeyAt w cv dv k := by
  obtain ⟨bc, bd, cc, cd, _, _, h⟩ := h
  exact ⟨bc, bd, cc, cd, h⟩
theorem KeyAtB.mono {w : World} {lo lo' : Nat} {cv dv : Value} {k : Kd} (h : KeyAtB w lo cv dv k) (hl : lo' ≤ lo) : KeyAtB w lo' cv dv k := by
  obtain ⟨bc, bd, cc, cd, h1, h2, h⟩ := h
  exact ⟨bc, bd, cc, cd, by omega, by omega, h⟩
theorem KeyAtB.kept {w w' : World} {lo : Nat} {cv dv : Value} {k : Kd} {row : Option Nat} (h : KeyAtB w lo cv dv k) (hg : w.grownBy w' row) (hr : ∀ b, row = some b → b < lo) : KeyAtB w' lo cv dv k := by
  obtain ⟨bc, bd, cc, cd, l1, l2, e1, e2, h1, h2, h3, h4⟩ := h
  have n1 : some bc ≠ row := fun e => by have := hr _ e.symm; omega
  have n2 : some bd ≠ row := fun e => by have := hr _ e.symm; omega
  have hs := hg.size
  refine ⟨bc, bd, cc, cd, l1, l2, e1, e2, by omega, by omega, fun hn => ⟨?_, (h3 hn).2⟩, fun hm j v hv => ?_⟩
  · rw [hg.cell_far ⟨bc, 0, none⟩ h1 n1]; exact (h3 hn).1
  · rw [hg.cell_far ⟨bd, j, none⟩ h2 n2]; exact h4 hm j v hv

/-- What 'kKey' leaves. -/
def RetKey (w : World) (k : Kd) (e : Ending) (w' : World) : Prop :=
  ∃ cv dv, e = .returned (.agg #[cv, dv]) ∧ Below w.heap.size w w' ∧ KeyAtB w' w.heap.size cv dv k

set_option maxRecDepth 100000 in
set_option maxHeartbeats 16000000 in
theorem kkey_any (v1 v2 : Value) (k : Kd) (w : World) (hn : k.n ≤ 1048576) (hm : k.m ≤ 1048576) (h : KeyIn w v1 v2 k) :
    Calls Try.prog 23 #[.agg #[v1, v2]] w (RetKey w k) := by
  obtain ⟨a, c, a', c', rfl, rfl, ⟨b1, o1, q1, r1⟩, ⟨b2, o2, q2, r2⟩, hsz⟩ := h
  have hmk1 := run_make_row' (P := Try.prog) 35 9 (.string ⟨#[]⟩) 16 Try.underlying35 Try.info9 rfl .i64 .i64 k.n (by omega) (by omega)
  have hmk2 := run_make_wide (P := Try.prog) 67 76 _ 4 56 Try.underlying67 Try.info76 k.m (by omega) (by omega)
  obtain ⟨W, hW⟩ : ∃ W, W = (w.alloc (.cells #[.slice a k.n c, .slice a' k.m c'] 59)).alloc (.cells #[.slice none 0 0, .slice none 0 0] 69) := ⟨_, rfl⟩
  have bW : Below w.heap.size w W := by rw [hW]; exact ((Below.refl _ _).alloc (Nat.le_refl _) _).alloc (by simp) _
  have sW : W.heap.size = w.heap.size + 1 + 1 := by rw [hW]; simp
  have HZ : Hid (∀ i, i < k.n → (k.col i).size ≤ maxLen) := hsz
  have HR1 : Hid (∀ i, i < k.n → w.cell? ⟨b1, o1 + i, none⟩ = some (.string (k.col i))) := r1
  have HR2 : Hid (∀ i, i < k.m → w.cell? ⟨b2, o2 + i, none⟩ = some (.string (k.co i))) := r2
  have f0 : W.cell? ⟨w.heap.size, 0, none⟩ = some (.slice a k.n c) := by rw [hW, World.cell?_alloc_past _ _ _ (by simp), World.cell?_alloc_at _ _ _ _ rfl]; rfl
  have f1 : W.cell? ⟨w.heap.size, 1, none⟩ = some (.slice a' k.m c') := by rw [hW, World.cell?_alloc_past _ _ _ (by simp), World.cell?_alloc_at _ _ _ _ rfl]; rfl
  have f2 : W.cell? ⟨w.heap.size + 1, 0, none⟩ = some (.slice none 0 0) := by rw [hW, World.cell?_alloc_at _ _ _ _ (by simp)]; rfl
  have f3 : W.cell? ⟨w.heap.size + 1, 1, none⟩ = some (.slice none 0 0) := by rw [hW, World.cell?_alloc_at _ _ _ _ (by simp)]; rfl
  have g2 : ∀ j, W.frozen? ⟨w.heap.size + 1, j, none⟩ = false := fun j => by
    have e : w.heap.size + 1 = (w.alloc (.cells #[.slice a k.n c, .slice a' k.m c'] 59)).heap.size := by simp
    rw [hW, e]; simp
  have hrow := World.rowIs_made W (.string ⟨#[]⟩) k.n 9
  have l0 : w.heap.size < W.heap.size := by omega
  have l1 : w.heap.size + 1 < W.heap.size := by omega
  have HW : Hid (W = (w.alloc (.cells #[.slice a k.n c, .slice a' k.m c'] 59)).alloc (.cells #[.slice none 0 0, .slice none 0 0] 69)) := hW
  clear hsz r1 r2 hW sW
  go_enter Try.func23, Try.ntmps23
  go_upto_region 1 with fail
  rw [← HW.out]
  go_wp2
  go_loopg [4] k.n (fun gg s wx => ∃ i : Nat, i ≤ k.n ∧ gg = k.n - i ∧ s = .int .i64 i ∧ Below W.heap.size W wx ∧ wx.rowIs W.heap.size 9 k.n (fun x => .string (if x < i then k.col x else ⟨#[]⟩)))
  case atStart => exact ⟨0, Nat.zero_le _, rfl, rfl, (Below.refl _ _).alloc (Nat.le_refl _) _, hrow.congr (fun i _ => by simp)⟩
  case round =>
    obtain ⟨i, hi, rfl, rfl, hb, hr⟩ := hrel
    clear hrow hmk1
    have e0 : wr.cell? ⟨w.heap.size, 0, none⟩ = some (.slice a k.n c) := by rw [hb.cell (p := ⟨w.heap.size, 0, none⟩) l0]; exact f0
    by_cases hlt : i < k.n
    · obtain ⟨rfl, lb1⟩ := q1 (by omega)
      have hltz : (i : Int) < (k.n : Int) := by omega
      have x0 : wr.cell? ⟨b1, o1 + i, none⟩ = some (.string (k.col i)) := by rw [hb.cell (p := ⟨b1, o1 + i, none⟩) (Nat.lt_trans lb1 l0), bW.cell (p := ⟨b1, o1 + i, none⟩) lb1]; exact HR1.out i hlt
      have t0 := hr.cell hlt
      have t1 := hr.frozen i
      have HR : Hid (wr.rowIs W.heap.size 9 k.n (fun x => .string (if x < i then k.col x else ⟨#[]⟩))) := hr
      clear q1 q2 hr hmk2 f0 f1 f2 f3
      go_wp2
      go_roundg (k.n - (i + 1))
      case measure => go_light; omega
      case rel =>
        go_light
        refine ⟨i + 1, by omega, rfl, by go_num, hb.setCell (Nat.le_refl _) _, (HR.out.set i _).congr (fun j hj => ?_)⟩
        by_cases e : j = i
        · subst e; rw [if_pos rfl, if_pos (by omega)]
        · rw [if_neg e]
          by_cases hl : j < i
          · rw [if_pos hl, if_pos (by omega)]
          · rw [if_neg hl, if_neg (by omega)]
    · obtain rfl : i = k.n := by omega
      have HR : Hid (wr.rowIs W.heap.size 9 k.n (fun x => .string (k.col x))) := hr.congr (fun j hj => by rw [if_pos hj])
      have e1 : wr.cell? ⟨w.heap.size, 1, none⟩ = some (.slice a' k.m c') := by rw [hb.cell (p := ⟨w.heap.size, 1, none⟩) l0]; exact f1
      have e2 : wr.cell? ⟨w.heap.size + 1, 0, none⟩ = some (.slice none 0 0) := by rw [hb.cell (p := ⟨w.heap.size + 1, 0, none⟩) l1]; exact f2
      have e3 : wr.cell? ⟨w.heap.size + 1, 1, none⟩ = some (.slice none 0 0) := by rw [hb.cell (p := ⟨w.heap.size + 1, 1, none⟩) l1]; exact f3
      have e4 : ∀ j, wr.frozen? ⟨w.heap.size + 1, j, none⟩ = false := fun j => by rw [hb.frozen (p := ⟨w.heap.size + 1, j, none⟩) l1]; exact g2 j
      obtain ⟨X, hX⟩ : ∃ X, X = wr := ⟨_, rfl⟩
      have m0 : w.heap.size < X.heap.size := by rw [hX]; exact Nat.lt_of_lt_of_le l0 hb.size
      have m1 : w.heap.size + 1 < X.heap.size := by rw [hX]; exact Nat.lt_of_lt_of_le l1 hb.size
      have bX : Below w.heap.size w X := by rw [hX]; exact bW.trans (hb.mono bW.size)
      have hrow2 := LRow_made X k.m
      rw [← hX] at e0 e1 e2 e3 e4 HR ⊢
      clear hX hr hb f0 f1 f2 f3 g2 hlt hi q1
      go_wp2
      go_loopg [6] k.m (fun gg s wx => ∃ i : Nat, i ≤ k.m ∧ gg = k.m - i ∧ s = .int .i64 i ∧ Below X.heap.size X wx ∧ LRow wx X.heap.size k.m (fun x => if x < i then k.co x else ⟨#[]⟩))
      case atStart => exact ⟨0, Nat.zero_le _, rfl, rfl, (Below.refl _ _).alloc (Nat.le_refl _) _, hrow2.congr (fun i _ => by simp)⟩
      case round =>
        obtain ⟨i, hi, rfl, rfl, hb, hr⟩ := hrel
        clear hrow2 hmk2
        have y1 : wr.cell? ⟨w.heap.size, 1, none⟩ = some (.slice a' k.m c') := by rw [hb.cell (p := ⟨w.heap.size, 1, none⟩) m0]; exact e1
        by_cases hlt : i < k.m
        · obtain ⟨rfl, lb2⟩ := q2 (by omega)
          have hltz : (i : Int) < (k.m : Int) := by omega
          have x0 : wr.cell? ⟨b2, o2 + i, none⟩ = some (.string (k.co i)) := by rw [hb.cell (p := ⟨b2, o2 + i, none⟩) (Nat.lt_trans lb2 m0), bX.cell (p := ⟨b2, o2 + i, none⟩) lb2]; exact HR2.out i hlt
          have t0 := World.rowIs.cell hr (i := i * 4) (by omega)
          have t1 := World.rowIs.cell hr (i := i * 4 + 1) (by omega)
          have t2 := World.rowIs.cell hr (i := i * 4 + 2) (by omega)
          have t3 := World.rowIs.cell hr (i := i * 4 + 3) (by omega)
          have u0 := World.rowIs.frozen hr (i * 4)
          have u1 := World.rowIs.frozen hr (i * 4 + 1)
          have u2 := World.rowIs.frozen hr (i * 4 + 2)
          have u3 := World.rowIs.frozen hr (i * 4 + 3)
          have HL : Hid (LRow wr X.heap.size k.m (fun x => if x < i then k.co x else ⟨#[]⟩)) := hr
          generalize lcell (fun x => if x < i then k.co x else ⟨#[]⟩) = lc at t0 t1 t2 t3
          clear q2 hr e0 e1 e2 e3 e4
          go_wp2
          go_big_region
          go_wp2
          go_roundg (k.m - (i + 1))
          case measure => go_light; omega
          case rel =>
            go_light
            refine ⟨i + 1, by omega, rfl, by go_num, ((((hb.setCell (Nat.le_refl _) _).setCell (Nat.le_refl _) _).setCell (Nat.le_refl _) _).setCell (Nat.le_refl _) _).drew, LRow.congr (LRow.drew (HL.out.put i (k.co i))) (fun j hj => ?_)⟩
            by_cases e : j = i
            · subst e; rw [upd_same, if_pos (by omega)]
            · rw [upd_other _ _ _ e]
              by_cases hl : j < i
              · rw [if_pos hl, if_pos (by omega)]
              · rw [if_neg hl, if_neg (by omega)]
        · obtain rfl : i = k.m := by omega
          have HL : Hid (LRow wr X.heap.size k.m k.co) := hr.congr (fun j hj => by rw [if_pos hj])
          have z2 : wr.cell? ⟨w.heap.size + 1, 0, none⟩ = some (.slice none 0 0) := by rw [hb.cell (p := ⟨w.heap.size + 1, 0, none⟩) m1]; exact e2
          have z3 : wr.cell? ⟨w.heap.size + 1, 1, none⟩ = some (.slice none 0 0) := by rw [hb.cell (p := ⟨w.heap.size + 1, 1, none⟩) m1]; exact e3
          have z4 : wr.frozen? ⟨w.heap.size + 1, 0, none⟩ = false := by rw [hb.frozen (p := ⟨w.heap.size + 1, 0, none⟩) m1]; exact e4 0
          have z5 : wr.frozen? ⟨w.heap.size + 1, 1, none⟩ = false := by rw [hb.frozen (p := ⟨w.heap.size + 1, 1, none⟩) m1]; exact e4 1
          have HR3 : Hid (wr.rowIs W.heap.size 9 k.n (fun x => .string (k.col x))) := rowIs_below HR.out hb
          have bw : Below w.heap.size w wr := bX.trans (hb.mono bX.size)
          clear hr e0 e1 e2 e3 e4 hi hlt q2 HR
          go_wp2
          refine bodyPost_ret (v := .agg #[.slice (some ⟨W.heap.size, 0, none⟩) k.n k.n, .slice (some ⟨X.heap.size, 0, none⟩) k.m k.m]) (by simp [results, Try.results23, go_sem, z2, z3]) rfl ?_
          refine ⟨_, _, rfl, (bw.setCell (by simp) _).setCell (by simp) _, W.heap.size, X.heap.size, k.n, k.m, bW.size, bX.size, rfl, rfl, ?_, ?_, fun h => ⟨?_, HZ.out 0 h⟩, fun h j v hv => ?_⟩
          · simpa using HR3.out.lt
          · simpa using World.rowIs.lt HL.out
          · exact ((HR3.out.setOther (by show W.heap.size ≠ w.heap.size + 1; omega) _).setOther (by show W.heap.size ≠ w.heap.size + 1; omega) _).cell h
          · exact LRow.first (q := k.co) (((World.rowIs.setOther HL.out (by show X.heap.size ≠ w.heap.size + 1; omega) _).setOther (by show X.heap.size ≠ w.heap.size + 1; omega) _)) h j v hv

end Go.Proofs.Qxb6000463a
