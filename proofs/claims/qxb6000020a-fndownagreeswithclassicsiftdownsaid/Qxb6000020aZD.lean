/-
  THE WALK of 'ZZHB1Down': the four slices laid out as turns, 'down', the turns written back.
-/
import Derived.Test.Qxb6000020aDig
namespace Go.Proofs.Qxb6000020a
open Go.RowKit

/-- The four own slices hold the n turns q. -/
structure Quad (w : World) (a0 a1 a2 a3 : Option Addr) (g0 g1 g2 g3 n : Nat) (q : Nat → T4) : Prop where
  pos : 0 < n → a0 = some ⟨g0, 0, none⟩ ∧ a1 = some ⟨g1, 0, none⟩ ∧ a2 = some ⟨g2, 0, none⟩ ∧ a3 = some ⟨g3, 0, none⟩
  ne : 0 < n → g0 ≠ g1 ∧ g0 ≠ g2 ∧ g0 ≠ g3 ∧ g1 ≠ g2 ∧ g1 ≠ g3 ∧ g2 ≠ g3
  r0 : 0 < n → w.rowIs g0 2 n (fun i => .int .i64 (q i).s)
  r1 : 0 < n → w.rowIs g1 21 n (fun i => .int .i32 (q i).n)
  r2 : 0 < n → w.rowIs g2 3 n (fun i => .int .i64 (q i).k)
  r3 : 0 < n → w.rowIs g3 3 n (fun i => .int .i64 (q i).r)

theorem Quad.below {w w' : World} {a0 a1 a2 a3 : Option Addr} {g0 g1 g2 g3 n : Nat} {q : Nat → T4} (h : Quad w a0 a1 a2 a3 g0 g1 g2 g3 n q) (hb : Below w.heap.size w w') : Quad w' a0 a1 a2 a3 g0 g1 g2 g3 n q :=
  ⟨h.pos, h.ne, fun e => rowIs_below (h.r0 e) hb, fun e => rowIs_below (h.r1 e) hb, fun e => rowIs_below (h.r2 e) hb, fun e => rowIs_below (h.r3 e) hb⟩

theorem Quad.congr {w : World} {a0 a1 a2 a3 : Option Addr} {g0 g1 g2 g3 n : Nat} {q q' : Nat → T4} (h : Quad w a0 a1 a2 a3 g0 g1 g2 g3 n q) (e : ∀ i, i < n → q i = q' i) : Quad w a0 a1 a2 a3 g0 g1 g2 g3 n q' :=
  ⟨h.pos, h.ne, fun p => (h.r0 p).congr fun i hi => by rw [e i hi], fun p => (h.r1 p).congr fun i hi => by rw [e i hi], fun p => (h.r2 p).congr fun i hi => by rw [e i hi], fun p => (h.r3 p).congr fun i hi => by rw [e i hi]⟩

theorem Quad.reads {w : World} {a0 a1 a2 a3 : Option Addr} {g0 g1 g2 g3 n : Nat} {q : Nat → T4} (h : Quad w a0 a1 a2 a3 g0 g1 g2 g3 n q) :
    Reads w .i64 a0 n (fun i => (q i).s) ∧ Reads w .i32 a1 n (fun i => (q i).n) ∧ Reads w .i64 a2 n (fun i => (q i).k) ∧ Reads w .i64 a3 n (fun i => (q i).r) := by
  refine ⟨⟨g0, 0, fun e => ⟨(h.pos e).1, (h.r0 e).lt⟩, fun i hi => ?_⟩, ⟨g1, 0, fun e => ⟨(h.pos e).2.1, (h.r1 e).lt⟩, fun i hi => ?_⟩, ⟨g2, 0, fun e => ⟨(h.pos e).2.2.1, (h.r2 e).lt⟩, fun i hi => ?_⟩, ⟨g3, 0, fun e => ⟨(h.pos e).2.2.2, (h.r3 e).lt⟩, fun i hi => ?_⟩⟩
  · rw [Nat.zero_add]; exact (h.r0 (by omega)).cell hi
  · rw [Nat.zero_add]; exact (h.r1 (by omega)).cell hi
  · rw [Nat.zero_add]; exact (h.r2 (by omega)).cell hi
  · rw [Nat.zero_add]; exact (h.r3 (by omega)).cell hi

/-- All old blocks but the four are as they were. -/
structure Frame4 (g0 g1 g2 g3 : Nat) (w w' : World) : Prop where
  os : w'.os = w.os
  tape : w'.tape = w.tape
  output : w'.output = w.output
  size : w.heap.size ≤ w'.heap.size
  block : ∀ k, k < w.heap.size → k ≠ g0 → k ≠ g1 → k ≠ g2 → k ≠ g3 → w'.heap[k]? = w.heap[k]?

theorem Frame4.of_below {g0 g1 g2 g3 : Nat} {w w' : World} (h : Below w.heap.size w w') : Frame4 g0 g1 g2 g3 w w' := ⟨h.os, h.tape, h.output, h.size, fun k hk _ _ _ _ => h.block k hk⟩

theorem Frame4.set {g0 g1 g2 g3 : Nat} {w w' : World} (h : Frame4 g0 g1 g2 g3 w w') {x : Addr} (hx : x.block = g0 ∨ x.block = g1 ∨ x.block = g2 ∨ x.block = g3) (v : Value) : Frame4 g0 g1 g2 g3 w (w'.setCell x v) :=
  ⟨h.os, h.tape, h.output, by simpa [World.setCell] using h.size, fun k hk e0 e1 e2 e3 => (Below.heap_setCell _ _ _ _ (by omega)).trans (h.block k hk e0 e1 e2 e3)⟩

/-- What 'ZZHB1Down' leaves. -/
def RetZD (w : World) (a0 a1 a2 a3 : Option Addr) (g0 g1 g2 g3 n : Nat) (q : Nat → T4) (i : Nat) (e : Ending) (w' : World) : Prop :=
  e = .returned (.tuple #[]) ∧ ∃ q2, Quad w' a0 a1 a2 a3 g0 g1 g2 g3 n q2 ∧ Frame4 g0 g1 g2 g3 w w' ∧ ((n ≤ i ∧ q2 = q) ∨ (i < n ∧ ∃ K d, DownEnd n q i K d ∧ q2 = laid n q i d))

/-- One turn written back. -/
theorem Quad.step {w : World} {g0 g1 g2 g3 n : Nat} {q : Nat → T4} {k : Nat} {v : T4}
    (h : Quad w (some ⟨g0, 0, none⟩) (some ⟨g1, 0, none⟩) (some ⟨g2, 0, none⟩) (some ⟨g3, 0, none⟩) g0 g1 g2 g3 n q) :
    Quad ((((w.setCell ⟨g0, k, none⟩ (.int .i64 v.s)).setCell ⟨g1, k, none⟩ (.int .i32 v.n)).setCell ⟨g2, k, none⟩ (.int .i64 v.k)).setCell ⟨g3, k, none⟩ (.int .i64 v.r))
      (some ⟨g0, 0, none⟩) (some ⟨g1, 0, none⟩) (some ⟨g2, 0, none⟩) (some ⟨g3, 0, none⟩) g0 g1 g2 g3 n (upd q k v) := by
  refine ⟨h.pos, h.ne, fun p => ?_, fun p => ?_, fun p => ?_, fun p => ?_⟩
  all_goals obtain ⟨n1, n2, n3, n4, n5, n6⟩ := h.ne p
  · refine (((((h.r0 p).set k _).setOther (a := ⟨g1, k, none⟩) n1 _).setOther (a := ⟨g2, k, none⟩) n2 _).setOther (a := ⟨g3, k, none⟩) n3 _).congr fun j _ => ?_
    by_cases e : j = k <;> simp [upd, e]
  · refine (((((h.r1 p).setOther (a := ⟨g0, k, none⟩) n1.symm _).set k _).setOther (a := ⟨g2, k, none⟩) n4 _).setOther (a := ⟨g3, k, none⟩) n5 _).congr fun j _ => ?_
    by_cases e : j = k <;> simp [upd, e]
  · refine (((((h.r2 p).setOther (a := ⟨g0, k, none⟩) n2.symm _).setOther (a := ⟨g1, k, none⟩) n4.symm _).set k _).setOther (a := ⟨g3, k, none⟩) n6 _).congr fun j _ => ?_
    by_cases e : j = k <;> simp [upd, e]
  · refine (((((h.r3 p).setOther (a := ⟨g0, k, none⟩) n3.symm _).setOther (a := ⟨g1, k, none⟩) n5.symm _).setOther (a := ⟨g2, k, none⟩) n6.symm _).set k _).congr fun j _ => ?_
    by_cases e : j = k <;> simp [upd, e]

theorem Quad.grown {w w' : World} {a0 a1 a2 a3 : Option Addr} {g0 g1 g2 g3 n G : Nat} {q : Nat → T4} (h : Quad w a0 a1 a2 a3 g0 g1 g2 g3 n q) (hg : w.grownBy w' (some G))
    (hne : 0 < n → g0 ≠ G ∧ g1 ≠ G ∧ g2 ≠ G ∧ g3 ≠ G) : Quad w' a0 a1 a2 a3 g0 g1 g2 g3 n q :=
  ⟨h.pos, h.ne, fun e => (h.r0 e).of_block (hg.block _ (h.r0 e).lt (by have := hne e; simp; omega)), fun e => (h.r1 e).of_block (hg.block _ (h.r1 e).lt (by have := hne e; simp; omega)),
    fun e => (h.r2 e).of_block (hg.block _ (h.r2 e).lt (by have := hne e; simp; omega)), fun e => (h.r3 e).of_block (hg.block _ (h.r3 e).lt (by have := hne e; simp; omega))⟩

theorem TRow.put1 {w : World} {g : Nat} {t : TypeId} {n : Nat} {q : Nat → T4} (h : TRow w g t n q) {g0 g1 g2 g3 k : Nat} (x0 x1 x2 x3 : Value) (h0 : g ≠ g0) (h1 : g ≠ g1) (h2 : g ≠ g2) (h3 : g ≠ g3) :
    TRow ((((w.setCell ⟨g0, k, none⟩ x0).setCell ⟨g1, k, none⟩ x1).setCell ⟨g2, k, none⟩ x2).setCell ⟨g3, k, none⟩ x3) g t n q :=
  (((h.setOther (a := ⟨g0, k, none⟩) h0 _).setOther (a := ⟨g1, k, none⟩) h1 _).setOther (a := ⟨g2, k, none⟩) h2 _).setOther (a := ⟨g3, k, none⟩) h3 _

set_option maxHeartbeats 4000000 in
theorem zd_any (a0 a1 a2 a3 : Option Addr) (g0 g1 g2 g3 n c0 c1 c2 c3 i : Nat) (q : Nat → T4) (w : World) (hn : n ≤ 4096)
    (hq : Quad w a0 a1 a2 a3 g0 g1 g2 g3 n q) :
    Calls Try.prog 25 #[.slice a0 n c0, .slice a1 n c1, .slice a2 n c2, .slice a3 n c3, .int .i64 i] w (RetZD w a0 a1 a2 a3 g0 g1 g2 g3 n q i) := by
  have hmk := run_make_wide (P := Try.prog) 56 60 _ 4 32 Try.underlying56 Try.info60 n (by omega) (by omega)
  have hrow0 := TRow_made w 60 n
  go_enter Try.func25, Try.ntmps25
  go_wp2
  go_loopg [11] n (fun g i wr => ∃ k : Nat, k ≤ n ∧ g = n - k ∧ i = .int .i64 k ∧ Below w.heap.size w wr ∧ TRow wr w.heap.size 60 n (fun i => if i < k then q i else zero4))
  case atStart => exact ⟨0, Nat.zero_le _, rfl, rfl, (Below.refl _ _).alloc (Nat.le_refl _) _, hrow0.congr (fun i _ => by simp)⟩
  case round =>
    obtain ⟨k, hk, rfl, rfl, hb, hr⟩ := hrel
    clear hmk hrow0
    have hqr := hq.below hb
    by_cases hlt : k < n
    · obtain ⟨rfl, rfl, rfl, rfl⟩ := hq.pos (by omega)
      have hltz : (k : Int) < (n : Int) := by omega
      have e0 := (hqr.r0 (by omega)).cell hlt
      have e1 := (hqr.r1 (by omega)).cell hlt
      have e2 := (hqr.r2 (by omega)).cell hlt
      have e3 := (hqr.r3 (by omega)).cell hlt
      obtain ⟨t0, t1, t2, t3⟩ := hr.tat hlt
      have f0 := hr.frozen (k * 4)
      have f1 := hr.frozen (k * 4 + 1)
      have f2 := hr.frozen (k * 4 + 2)
      have f3 := hr.frozen (k * 4 + 3)
      clear hqr hq
      go_wp2
      go_region
      go_wp2
      go_roundg (n - (k + 1))
      case measure => go_light; omega
      case rel =>
        go_light
        refine ⟨k + 1, by omega, rfl, by go_num, (below_put hb (Nat.le_refl _) _ _ _ _ _).drew, TRow.congr (TRow.drew (hr.put k (q k))) (fun j hj => ?_)⟩
        by_cases e : j = k
        · subst e; rw [upd_same, if_pos (by omega)]
        · rw [upd_other _ _ _ e]
          by_cases hlt : j < k
          · rw [if_pos hlt, if_pos (by omega)]
          · rw [if_neg hlt, if_neg (by omega)]
    · obtain rfl : k = n := by omega
      have hr' : TRow wr w.heap.size 60 k q := hr.congr (fun j hj => by rw [if_pos hj])
      have hne : 0 < k → (g0 ≠ w.heap.size ∧ g1 ≠ w.heap.size ∧ g2 ≠ w.heap.size ∧ g3 ≠ w.heap.size) := fun e => by
        have l0 := (hq.r0 e).lt
        have l1 := (hq.r1 e).lt
        have l2 := (hq.r2 e).lt
        have l3 := (hq.r3 e).lt
        omega
      have HQ : Hid (Quad wr a0 a1 a2 a3 g0 g1 g2 g3 k q) := hqr
      clear hr hq hqr
      go_wp2_with fail
      refine (down_any w.heap.size k k i q wr hn hr').mono ?_
      rintro e w2 ⟨rfl, hg2, hcase⟩
      have HQ2 : Hid (Quad w2 a0 a1 a2 a3 g0 g1 g2 g3 k q) := HQ.out.grown hg2 hne
      have HB2 : Hid (Below w.heap.size w w2) := hb.grown hg2 hb.size (fun k e => by cases e; exact Nat.le_refl _)
      obtain ⟨q2, hq2, hres⟩ : ∃ q2, TRow w2 w.heap.size 60 k q2 ∧ ((k ≤ i ∧ q2 = q) ∨ (i < k ∧ ∃ K d, DownEnd k q i K d ∧ q2 = laid k q i d)) := by
        rcases hcase with ⟨h1, h2⟩ | ⟨h1, K, d, h2, h3⟩
        · exact ⟨q, h2, .inl ⟨h1, rfl⟩⟩
        · exact ⟨_, h3, .inr ⟨h1, K, d, h2, rfl⟩⟩
      have HR : Hid ((k ≤ i ∧ q2 = q) ∨ (i < k ∧ ∃ K d, DownEnd k q i K d ∧ q2 = laid k q i d)) := hres
      have HT2 : Hid (TRow w2 w.heap.size 60 k q2) := hq2
      clear hq2 hres hcase hg2 HQ hr' hb hlt hk
      go_wp2
      go_loopg [12] k (fun gg s wx => ∃ m : Nat, m ≤ k ∧ gg = k - m ∧ s = .int .i64 m ∧ Quad wx a0 a1 a2 a3 g0 g1 g2 g3 k (fun i => if i < m then q2 i else q i) ∧ Frame4 g0 g1 g2 g3 w wx ∧ TRow wx w.heap.size 60 k q2)
      case atStart => exact ⟨0, Nat.zero_le _, rfl, rfl, HQ2.out.congr (fun j _ => by simp), Frame4.of_below HB2.out, HT2.out⟩
      case round =>
        obtain ⟨m, hm, rfl, rfl, hQ, hF, hT⟩ := hrel
        have HQ : Hid (Quad wr a0 a1 a2 a3 g0 g1 g2 g3 k (fun i => if i < m then q2 i else q i)) := hQ
        have HF : Hid (Frame4 g0 g1 g2 g3 w wr) := hF
        have HT : Hid (TRow wr w.heap.size 60 k q2) := hT
        clear hF HQ2 HB2 HT2
        by_cases hlt : m < k
        · obtain ⟨rfl, rfl, rfl, rfl⟩ := hQ.pos (by omega)
          obtain ⟨n1, n2, n3, n4⟩ := hne (by omega)
          have hltz : (m : Int) < (k : Int) := by omega
          have e0 := (hQ.r0 (by omega)).cell hlt
          have e1 := (hQ.r1 (by omega)).cell hlt
          have e2 := (hQ.r2 (by omega)).cell hlt
          have e3 := (hQ.r3 (by omega)).cell hlt
          have f0 := (hQ.r0 (by omega)).frozen m
          have f1 := (hQ.r1 (by omega)).frozen m
          have f2 := (hQ.r2 (by omega)).frozen m
          have f3 := (hQ.r3 (by omega)).frozen m
          obtain ⟨d1, d2, d3, d4, d5, d6⟩ := hQ.ne (by omega)
          obtain ⟨t0, t1, t2, t3⟩ := hT.tat hlt
          clear hQ hT
          go_wp2
          go_roundg (k - (m + 1))
          case measure => go_light; omega
          case rel =>
            go_light
            refine ⟨m + 1, by omega, rfl, by go_num, (HQ.out.step (v := q2 m)).congr (fun j hj => ?_), (((HF.out.set (.inl rfl) _).set (.inr (.inl rfl)) _).set (.inr (.inr (.inl rfl))) _).set (.inr (.inr (.inr rfl))) _, HT.out.put1 _ _ _ _ n1.symm n2.symm n3.symm n4.symm⟩
            by_cases e : j = m
            · subst e; rw [upd_same, if_pos (by omega)]
            · rw [upd_other _ _ _ e]
              by_cases hl : j < m
              · rw [if_pos hl, if_pos (by omega)]
              · rw [if_neg hl, if_neg (by omega)]
        · obtain rfl : m = k := by omega
          clear hQ hT
          go_wp2
          go_end0
          exact ⟨rfl, q2, HQ.out.congr (fun j hj => by rw [if_pos hj]), HF.out, HR.out⟩

end Go.Proofs.Qxb6000020a
