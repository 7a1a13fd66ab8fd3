/-
  THE WALKS that lay the four slices out as turns.
-/
import Derived.Test.Qxb6000020aBefore
import Derived.Test.Qxb6000020aClone
namespace Go.Proofs.Qxb6000020a
open Go.RowKit

theorem Try.info43 : (Try.prog.info? 43).map (fun i => (i.zero, i.size, i.bytes)) = some (some (.agg #[.int .i64 0, .int .i32 0, .int .i64 0, .int .i64 0]), 4, 32) := by kernel_rfl
theorem Try.info60 : (Try.prog.info? 60).map (fun i => (i.zero, i.size, i.bytes)) = some (some (.agg #[.int .i64 0, .int .i32 0, .int .i64 0, .int .i64 0]), 4, 32) := by kernel_rfl

/-- 'make([]T, n)', T of whatever number of cells. -/
theorem run_make_wide {P : Program} (t e : TypeId) (z : Value) (size bytes : Nat) (ht : P.underlying t = some (.slice e)) (hinfo : (P.info? e).map (fun i => (i.zero, i.size, i.bytes)) = some (some z, size, bytes))
    (n : Nat) (hbytes : bytes * n ≤ 281474976710656) (h63 : n ≤ 9223372036854775807) (w : World) :
    (Instr.makeSlice t (.int .i64 (n : Int)) (.int .i64 (n : Int))).run P w = .ok (.slice (some ⟨w.heap.size, 0, none⟩) n n) (w.alloc (.cells (madeCells z.cells (n * size)) e)) := by
  obtain ⟨i, hi, hz, hs, hb⟩ := info_parts hinfo
  have hb' : (i.bytes : Int) * (n : Int) ≤ 281474976710656 := by
    have h : ((i.bytes * n : Nat) : Int) ≤ 281474976710656 := by rw [hb]; omega
    rwa [Int.natCast_mul] at h
  have hr := run_make (P := P) w t e i z ht hi hz .i64 .i64 n n (by omega) (Int.le_refl _) hb' (by omega)
  simpa only [Int.toNat_natCast, hs] using hr

/-- The cells of a row of turns. -/
def tcell (q : Nat → T4) (j : Nat) : Value :=
  if j % 4 = 0 then .int .i64 (q (j / 4)).s else if j % 4 = 1 then .int .i32 (q (j / 4)).n else if j % 4 = 2 then .int .i64 (q (j / 4)).k else .int .i64 (q (j / 4)).r

def zero4 : T4 := ⟨0, 0, 0, 0⟩

/-- Block g is a row of n turns. -/
def TRow (w : World) (g : Nat) (t : TypeId) (n : Nat) (q : Nat → T4) : Prop := w.rowIs g t (n * 4) (tcell q)

theorem tcell0 (q : Nat → T4) (i : Nat) : tcell q (i * 4) = .int .i64 (q i).s := by
  unfold tcell; rw [if_pos (by omega), show i * 4 / 4 = i from by omega]
theorem tcell1 (q : Nat → T4) (i : Nat) : tcell q (i * 4 + 1) = .int .i32 (q i).n := by
  unfold tcell; rw [if_neg (by omega), if_pos (by omega), show (i * 4 + 1) / 4 = i from by omega]
theorem tcell2 (q : Nat → T4) (i : Nat) : tcell q (i * 4 + 2) = .int .i64 (q i).k := by
  unfold tcell; rw [if_neg (by omega), if_neg (by omega), if_pos (by omega), show (i * 4 + 2) / 4 = i from by omega]
theorem tcell3 (q : Nat → T4) (i : Nat) : tcell q (i * 4 + 3) = .int .i64 (q i).r := by
  unfold tcell; rw [if_neg (by omega), if_neg (by omega), if_neg (by omega), show (i * 4 + 3) / 4 = i from by omega]

section
variable {w : World} {g : Nat} {t : TypeId} {n : Nat} {q : Nat → T4}

theorem TRow.tat (h : TRow w g t n q) {i : Nat} (hi : i < n) : TAt w g (i * 4) (q i) :=
  ⟨by rw [World.rowIs.cell h (by omega), tcell0], by rw [World.rowIs.cell h (by omega), tcell1], by rw [World.rowIs.cell h (by omega), tcell2], by rw [World.rowIs.cell h (by omega), tcell3]⟩
theorem TRow.frozen (h : TRow w g t n q) (i : Nat) : w.frozen? ⟨g, i, none⟩ = false := World.rowIs.frozen h i
theorem TRow.lt (h : TRow w g t n q) : g < w.heap.size := World.rowIs.lt h
theorem TRow.below {w' : World} (h : TRow w g t n q) (hb : Below w.heap.size w w') : TRow w' g t n q := rowIs_below h hb
theorem TRow.setOther (h : TRow w g t n q) {a : Addr} (ha : g ≠ a.block) (v : Value) : TRow (w.setCell a v) g t n q := World.rowIs.setOther h ha v
theorem TRow.alloc (h : TRow w g t n q) (o : Obj) : TRow (w.alloc o) g t n q := World.rowIs.alloc h o
theorem TRow.drew (h : TRow w g t n q) : TRow w.drew g t n q := h
theorem TRow.congr {q' : Nat → T4} (h : TRow w g t n q) (e : ∀ i, i < n → q i = q' i) : TRow w g t n q' :=
  World.rowIs.congr h fun j hj => by unfold tcell; rw [e (j / 4) (by omega)]

/-- What 'make' lays. -/
theorem TRow_made (w : World) (t : TypeId) (n : Nat) : TRow (w.alloc (.cells (madeCells (Value.agg #[.int .i64 0, .int .i32 0, .int .i64 0, .int .i64 0]).cells (n * 4)) t)) w.heap.size t n (fun _ => zero4) := by
  refine ⟨_, Go.Deep.blk_alloc_new _ _, size_madeCells _ _, fun i hi => ?_⟩
  have hm : i % 4 = 0 ∨ i % 4 = 1 ∨ i % 4 = 2 ∨ i % 4 = 3 := by omega
  simp only [madeCells, Value.cells]
  rcases hm with h | h | h | h <;> simp [hi, h, tcell, zero4]

/-- A store of a turn. -/
theorem TRow.put (h : TRow w g t n q) (i : Nat) (v : T4) :
    TRow ((((w.setCell ⟨g, i * 4, none⟩ (.int .i64 v.s)).setCell ⟨g, i * 4 + 1, none⟩ (.int .i32 v.n)).setCell ⟨g, i * 4 + 2, none⟩ (.int .i64 v.k)).setCell ⟨g, i * 4 + 3, none⟩ (.int .i64 v.r)) g t n (upd q i v) := by
  refine World.rowIs.congr ((((World.rowIs.set h _ _).set _ _).set _ _).set _ _) fun j hj => ?_
  by_cases e : j / 4 = i
  · have hm : j = i * 4 ∨ j = i * 4 + 1 ∨ j = i * 4 + 2 ∨ j = i * 4 + 3 := by omega
    rcases hm with rfl | rfl | rfl | rfl
    · rw [tcell0 (upd q i v), upd_same, if_neg (by omega), if_neg (by omega), if_neg (by omega), if_pos rfl]
    · rw [tcell1 (upd q i v), upd_same, if_neg (by omega), if_neg (by omega), if_pos rfl]
    · rw [tcell2 (upd q i v), upd_same, if_neg (by omega), if_pos rfl]
    · rw [tcell3 (upd q i v), upd_same, if_pos rfl]
  · rw [if_neg (by omega), if_neg (by omega), if_neg (by omega), if_neg (by omega)]
    unfold tcell
    rw [upd_other _ _ _ e]

theorem below_put {B : Nat} {a : World} (h : Below B a w) (hg : B ≤ g) (i : Nat) (x0 x1 x2 x3 : Value) :
    Below B a ((((w.setCell ⟨g, i * 4, none⟩ x0).setCell ⟨g, i * 4 + 1, none⟩ x1).setCell ⟨g, i * 4 + 2, none⟩ x2).setCell ⟨g, i * 4 + 3, none⟩ x3) :=
  (((h.setCell hg _).setCell hg _).setCell hg _).setCell hg _
end

/-- The four numbers of index i as a turn. -/
def mk4 (z0 z1 z2 z3 : Nat → Int) (i : Nat) : T4 := ⟨z0 i, z1 i, z2 i, z3 i⟩

/-- What 'zzHB1FromSlices' leaves. -/
def RetTurns (w : World) (t : TypeId) (n : Nat) (q : Nat → T4) (e : Ending) (w' : World) : Prop :=
  e = .returned (.slice (some ⟨w.heap.size, 0, none⟩) n n) ∧ Below w.heap.size w w' ∧ TRow w' w.heap.size t n q

set_option maxHeartbeats 2000000 in
theorem from_any (a0 a1 a2 a3 : Option Addr) (n c0 c1 c2 c3 : Nat) (z0 z1 z2 z3 : Nat → Int) (w : World) (hn : n ≤ 4096)
    (h0 : Reads w .i64 a0 n z0) (h1 : Reads w .i32 a1 n z1) (h2 : Reads w .i64 a2 n z2) (h3 : Reads w .i64 a3 n z3) :
    Calls Try.prog 22 #[.slice a0 n c0, .slice a1 n c1, .slice a2 n c2, .slice a3 n c3] w (RetTurns w 43 n (mk4 z0 z1 z2 z3)) := by
  obtain ⟨b0, o0, p0, r0⟩ := h0
  obtain ⟨b1, o1, p1, r1⟩ := h1
  obtain ⟨b2, o2, p2, r2⟩ := h2
  obtain ⟨b3, o3, p3, r3⟩ := h3
  have hmk := run_make_wide (P := Try.prog) 37 43 _ 4 32 Try.underlying37 Try.info43 n (by omega) (by omega)
  have hrow0 := TRow_made w 43 n
  go_enter Try.func22, Try.ntmps22
  go_wp2
  go_loopg [10] n (fun g i wr => ∃ k : Nat, k ≤ n ∧ g = n - k ∧ i = .int .i64 k ∧ Below w.heap.size w wr ∧ TRow wr w.heap.size 43 n (fun i => if i < k then mk4 z0 z1 z2 z3 i else zero4))
  case atStart => exact ⟨0, Nat.zero_le _, rfl, rfl, (Below.refl _ _).alloc (Nat.le_refl _) _, hrow0.congr (fun i _ => by simp)⟩
  case round =>
    obtain ⟨k, hk, rfl, rfl, hb, hr⟩ := hrel
    clear hmk hrow0
    by_cases hlt : k < n
    · obtain ⟨rfl, hb0⟩ := p0 (by omega)
      obtain ⟨rfl, hb1⟩ := p1 (by omega)
      obtain ⟨rfl, hb2⟩ := p2 (by omega)
      obtain ⟨rfl, hb3⟩ := p3 (by omega)
      have hltz : (k : Int) < (n : Int) := by omega
      have e0 : wr.cell? ⟨b0, o0 + k, none⟩ = some (.int .i64 (z0 k)) := by rw [hb.cell (p := ⟨b0, o0 + k, none⟩) hb0]; exact r0 k hlt
      have e1 : wr.cell? ⟨b1, o1 + k, none⟩ = some (.int .i32 (z1 k)) := by rw [hb.cell (p := ⟨b1, o1 + k, none⟩) hb1]; exact r1 k hlt
      have e2 : wr.cell? ⟨b2, o2 + k, none⟩ = some (.int .i64 (z2 k)) := by rw [hb.cell (p := ⟨b2, o2 + k, none⟩) hb2]; exact r2 k hlt
      have e3 : wr.cell? ⟨b3, o3 + k, none⟩ = some (.int .i64 (z3 k)) := by rw [hb.cell (p := ⟨b3, o3 + k, none⟩) hb3]; exact r3 k hlt
      obtain ⟨t0, t1, t2, t3⟩ := hr.tat hlt
      have f0 := hr.frozen (k * 4)
      have f1 := hr.frozen (k * 4 + 1)
      have f2 := hr.frozen (k * 4 + 2)
      have f3 := hr.frozen (k * 4 + 3)
      clear p0 p1 p2 p3 r0 r1 r2 r3
      go_wp2
      go_region
      go_wp2
      go_roundg (n - (k + 1))
      case measure => go_light; omega
      case rel =>
        go_light
        refine ⟨k + 1, by omega, rfl, by go_num, (below_put hb (Nat.le_refl _) _ _ _ _ _).drew, TRow.congr (TRow.drew (hr.put k (mk4 z0 z1 z2 z3 k))) (fun j hj => ?_)⟩
        by_cases e : j = k
        · subst e; rw [upd_same, if_pos (by omega)]
        · rw [upd_other _ _ _ e]
          by_cases hlt : j < k
          · rw [if_pos hlt, if_pos (by omega)]
          · rw [if_neg hlt, if_neg (by omega)]
    · obtain rfl : k = n := by omega
      clear p0 p1 p2 p3 r0 r1 r2 r3
      go_wp2
      go_ret
      exact ⟨rfl, hb, hr.congr (fun j hj => by rw [if_pos hj])⟩

end Go.Proofs.Qxb6000020a
