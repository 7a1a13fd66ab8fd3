/-
  THE PARAMETERS OPENED: from what the frame tells of a slice of tables, of a key, to what the walks ask.
-/
import Derived.Test.Qxb6000463aIn
import Derived.ProofKit
import Derived.OpenShut
import Derived.Deep.Strs
namespace Go.Proofs.Qxb6000463a
open Go.RowKit Go.ChangeShapes Go.WideShapes

instance : Inhabited Kd := ⟨⟨0, fun _ => ⟨#[]⟩, 0, fun _ => ⟨#[]⟩⟩⟩
instance : Inhabited Cd := ⟨⟨⟨#[]⟩, 0, ⟨#[]⟩⟩⟩
instance : Inhabited Td := ⟨⟨⟨#[]⟩, ⟨#[]⟩, 0, 0, fun _ => default, default, 0, fun _ => default⟩⟩
instance : Inhabited Ti := ⟨⟨none, 0, undef, undef, none, 0, 0, 0, 0, 0, fun _ => undef, fun _ => undef⟩⟩

theorem spot_none {w : World} {x : Addr} {v : Value} (h : w.cell? (x.add 0) = some v) : x = ⟨x.block, x.off, none⟩ ∧ x.block < w.heap.size := by
  have hs : x.spot = none := by simpa [Addr.add] using World.cell?_spot h
  have hb := World.block_lt_of_cell? _ _ h
  obtain ⟨b, o, s⟩ := x
  simp only at hs
  subst hs
  exact ⟨rfl, by simpa [Addr.add] using hb⟩

theorem reads_of {w : World} {x : Addr} {n : Nat} {f : Nat → Value} (h : ∀ i, i < n → w.cell? (x.add i) = some (f i)) : Reads w (some x) n f := by
  refine ⟨x.block, x.off, fun hn => ?_, fun i hi => ?_⟩
  · obtain ⟨e, hb⟩ := spot_none (h 0 hn)
    exact ⟨by rw [← e], hb⟩
  · obtain ⟨e, hb⟩ := spot_none (h 0 (by omega))
    have hc := h i hi
    rw [e, add_plain] at hc
    exact hc

section
variable {H : Type} {enc : TypeId × Value → H} {w : World} {held : Bool}

theorem open_reads {fuel : Nat} {cs : List Value} {x : DataW H × List MemPlace} (h : DataW.trod enc Try.prog w 0 (fun _ => true) held fuel 35 cs = some x) :
    ∃ (a : Option Addr) (n c : Nat) (f : Nat → ByteArray), cs = [.slice a n c] ∧ Reads w a n (fun i => .string (f i)) ∧ ∀ i, i < n → (f i).size ≤ maxLen := by
  rcases Go.Deep.open_strs Try.underlying35 Try.underlying9 (by kernel_rfl) h with ⟨rfl, _⟩ | ⟨a, len, cap, m, Sx, rfl, _, hl, hm, hmm, _, hx⟩
  · exact ⟨none, 0, 0, fun _ => ⟨#[]⟩, rfl, ⟨0, 0, fun h => by omega, fun i hi => by omega⟩, fun i hi => by omega⟩
  · rw [if_pos rfl] at hmm
    exact ⟨some a, len, cap, Sx, rfl, reads_of fun i hi => (hx i (by omega)).1, fun i hi => (hx i (by omega)).2⟩

theorem open_wide {t e : TypeId} {s fuel : Nat} {cs : List Value} {x : DataW H × List MemPlace} (ht : Try.prog.underlying t = some (.slice e)) (hs : Try.prog.cellsOf e = s) (hp : 0 < s)
    (h : DataW.trod enc Try.prog w 0 (fun _ => true) held fuel t cs = some x) :
    ∃ (a : Option Addr) (len cap b o : Nat), cs = [.slice a len cap] ∧ (0 < len → a = some ⟨b, o, none⟩ ∧ b < w.heap.size) ∧
      ∀ i, i < len → ∃ cs' n y, w.rangeAt b (o + i * s) cs' ∧ DataW.trod enc Try.prog w 0 (fun _ => true) held n e cs' = some y := by
  rcases Go.Deep.open_slice ht h with ⟨rfl, _⟩ | ⟨a, len, cap, m, n, D, Pl, rfl, _, hl, hm, hmm, _, hx⟩
  · exact ⟨none, 0, 0, 0, 0, rfl, fun h => by omega, fun i hi => by omega⟩
  · rw [if_pos rfl] at hmm
    rw [hs] at hx
    have hk : 0 < len → a = ⟨a.block, a.off, none⟩ ∧ a.block < w.heap.size := fun hn => by
      obtain ⟨cs', h1, _⟩ := hx 0 (by omega)
      obtain ⟨_, hlen, hc⟩ := World.cells?_some h1
      have h0 := hc 0 hp
      rw [Go.Deep.add_add, List.getElem?_eq_getElem (by omega)] at h0
      rw [Nat.zero_mul, Nat.zero_add] at h0
      exact spot_none h0
    refine ⟨some a, len, cap, a.block, a.off, rfl, fun hn => ⟨by rw [← (hk hn).1], (hk hn).2⟩, fun i hi => ?_⟩
    obtain ⟨cs', h1, h2⟩ := hx i (by omega)
    obtain ⟨_, hlen, hc⟩ := World.cells?_some h1
    refine ⟨cs', n, _, fun j v hv => ?_, h2⟩
    have hj : j < cs'.length := (List.getElem?_eq_some_iff.1 hv).1
    have h3 := hc j (by omega)
    rw [Go.Deep.add_add, (hk (by omega)).1, add_plain, hv] at h3
    rw [Nat.add_assoc]
    exact h3

set_option maxRecDepth 100000 in
theorem open_key {fuel : Nat} {cs : List Value} {x : DataW H × List MemPlace} (h : DataW.trod enc Try.prog w 0 (fun _ => true) held fuel 59 cs = some x) :
    ∃ (v1 v2 : Value) (k : Kd), cs = [v1, v2] ∧ KeyIn w v1 v2 k := by
  obtain ⟨xs, n, _, _, hl, hxs, hf⟩ := DataW.trod_struct Try.underlying59 h
  have hc : Try.prog.cellsOf 59 = 2 := by kernel_rfl
  have hc' : Try.prog.cellsOf 35 = 1 := by kernel_rfl
  rw [hc] at hl
  match xs, hxs with
  | [y0, y1], _ =>
    match cs, hl with
    | [v1, v2], _ =>
      have h0 : DataW.trod enc Try.prog w 0 (fun _ => true) held n 35 [v1] = some y0 := by simpa [hc'] using hf 0 _ rfl
      have h1 : DataW.trod enc Try.prog w 0 (fun _ => true) held n 35 [v2] = some y1 := by simpa [hc'] using hf 1 _ rfl
      obtain ⟨a, l, c, f, e1, r1, z1⟩ := open_reads h0
      obtain ⟨a', l', c', f', e2, r2, z2⟩ := open_reads h1
      simp only [List.cons.injEq, and_true] at e1 e2
      subst e1 e2
      exact ⟨_, _, ⟨l, f, l', f'⟩, rfl, a, c, a', c', rfl, rfl, r1, r2, z1⟩

set_option maxRecDepth 100000 in
theorem open_col {fuel : Nat} {cs : List Value} {x : DataW H × List MemPlace} (h : DataW.trod enc Try.prog w 0 (fun _ => true) held fuel 64 cs = some x) :
    ∃ c : Cd, cs = kcol c ∧ c.nm.size ≤ maxLen := by
  obtain ⟨xs, n, _, _, hl, hxs, hf⟩ := DataW.trod_struct Try.underlying64 h
  have hc : Try.prog.cellsOf 64 = 3 := by kernel_rfl
  have c9 : Try.prog.cellsOf 9 = 1 := by kernel_rfl
  have c3 : Try.prog.cellsOf 3 = 1 := by kernel_rfl
  rw [hc] at hl
  match xs, hxs with
  | [y0, y1, y2], _ =>
    match cs, hl with
    | [v0, v1, v2], _ =>
      have h0 : DataW.trod enc Try.prog w 0 (fun _ => true) held n 9 [v0] = some y0 := by simpa [c9] using hf 0 _ rfl
      have h1 : DataW.trod enc Try.prog w 0 (fun _ => true) held n 3 [v1] = some y1 := by simpa [c3] using hf 1 _ rfl
      have h2 : DataW.trod enc Try.prog w 0 (fun _ => true) held n 9 [v2] = some y2 := by simpa [c9] using hf 2 _ rfl
      obtain ⟨s0, e0, _, z0⟩ := DataW.trod_string Try.underlying9 h0
      obtain ⟨s1, e1, _, _⟩ := DataW.trod_int Try.underlying3 h1
      obtain ⟨s2, e2, _, _⟩ := DataW.trod_string Try.underlying9 h2
      simp only [List.cons.injEq, and_true] at e0 e1 e2
      subst e0 e1 e2
      exact ⟨⟨s0, s1, s2⟩, rfl, z0⟩

set_option maxRecDepth 100000 in
theorem open_tab {fuel b o : Nat} {cs : List Value} {x : DataW H × List MemPlace} (h : DataW.trod enc Try.prog w 0 (fun _ => true) held fuel 62 cs = some x) (hcs : w.rangeAt b o cs) (lb : b < w.heap.size) :
    ∃ (tm : Td × Ti), TIn w b o tm.1 tm.2 := by
  obtain ⟨xs, n, _, _, hl, hxs, hf⟩ := DataW.trod_struct Try.underlying62 h
  have hc : Try.prog.cellsOf 62 = 7 := by kernel_rfl
  have c9 : Try.prog.cellsOf 9 = 1 := by kernel_rfl
  have c28 : Try.prog.cellsOf 28 = 1 := by kernel_rfl
  have c57 : Try.prog.cellsOf 57 = 1 := by kernel_rfl
  have c59 : Try.prog.cellsOf 59 = 2 := by kernel_rfl
  have c60 : Try.prog.cellsOf 60 = 1 := by kernel_rfl
  have c64 : Try.prog.cellsOf 64 = 3 := by kernel_rfl
  rw [hc] at hl
  match xs, hxs with
  | [y0, y1, y2, y3, y4, y5], _ =>
    match cs, hl with
    | [v0, v1, v2, v3, v4, v5, v6], _ =>
      have h0 : DataW.trod enc Try.prog w 0 (fun _ => true) held n 9 [v0] = some y0 := by simpa [c9] using hf 0 _ rfl
      have h1 : DataW.trod enc Try.prog w 0 (fun _ => true) held n 9 [v1] = some y1 := by simpa [c9] using hf 1 _ rfl
      have h2 : DataW.trod enc Try.prog w 0 (fun _ => true) held n 28 [v2] = some y2 := by simpa [c28] using hf 2 _ rfl
      have h3 : DataW.trod enc Try.prog w 0 (fun _ => true) held n 57 [v3] = some y3 := by simpa [c57] using hf 3 _ rfl
      have h4 : DataW.trod enc Try.prog w 0 (fun _ => true) held n 59 [v4, v5] = some y4 := by simpa [c59] using hf 4 _ rfl
      have h5 : DataW.trod enc Try.prog w 0 (fun _ => true) held n 60 [v6] = some y5 := by simpa [c60] using hf 5 _ rfl
      obtain ⟨s0, e0, _, _⟩ := DataW.trod_string Try.underlying9 h0
      obtain ⟨s1, e1, _, _⟩ := DataW.trod_string Try.underlying9 h1
      obtain ⟨s2, e2, _, _⟩ := DataW.trod_int Try.underlying28 h2
      obtain ⟨ca, nc, cc, bc, oc, e3, qc, rc⟩ := open_wide Try.underlying57 c64 (by decide) h3
      obtain ⟨p1, p2, pk, e4, hpk⟩ := open_key h4
      obtain ⟨ua, nu, uc, bu, ou, e5, qu, ru⟩ := open_wide Try.underlying60 c59 (by decide) h5
      simp only [List.cons.injEq, and_true] at e0 e1 e2 e3 e4 e5
      obtain ⟨e4, e4'⟩ := e4
      subst e0 e1 e2 e3 e4 e4' e5
      obtain ⟨col, hcol⟩ := Go.Deep.choose_lt (α := Cd) (n := nc) (p := fun j c => w.rangeAt bc (oc + j * 3) (kcol c) ∧ c.nm.size ≤ maxLen) (fun j hj => by
        obtain ⟨cs', n', y, k1, k2⟩ := rc j hj
        obtain ⟨c, rfl, k3⟩ := open_col k2
        exact ⟨c, k1, k3⟩)
      obtain ⟨uk, huk⟩ := Go.Deep.choose_lt (α := Kd × Value × Value) (n := nu) (p := fun u k => w.cell? ⟨bu, ou + u * 2, none⟩ = some k.2.1 ∧ w.cell? ⟨bu, ou + u * 2 + 1, none⟩ = some k.2.2 ∧ KeyIn w k.2.1 k.2.2 k.1) (fun u hu => by
        obtain ⟨cs', n', y, k1, k2⟩ := ru u hu
        obtain ⟨x1, x2, k, rfl, k3⟩ := open_key k2
        exact ⟨(k, x1, x2), k1 0 _ rfl, k1 1 _ rfl, k3⟩)
      exact ⟨(⟨s0, s1, s2, nc, col, pk, nu, fun u => (uk u).1⟩, ⟨ca, cc, v4, v5, ua, uc, bc, oc, bu, ou, fun u => (uk u).2.1, fun u => (uk u).2.2⟩), hcs, lb, qc, hcol, qu, huk, hpk⟩

theorem open_tabs {fuel : Nat} {cs : List Value} {x : DataW H × List MemPlace} (h : DataW.trod enc Try.prog w 0 (fun _ => true) held fuel 51 cs = some x) :
    ∃ (a : Option Addr) (N c b0 o0 : Nat) (ts : Nat → Td) (is : Nat → Ti), cs = [.slice a N c] ∧ (0 < N → a = some ⟨b0, o0, none⟩) ∧ ∀ i, i < N → TIn w b0 (o0 + i * 7) (ts i) (is i) := by
  have c62 : Try.prog.cellsOf 62 = 7 := by kernel_rfl
  obtain ⟨a, N, c, b0, o0, e, q, r⟩ := open_wide Try.underlying51 c62 (by decide) h
  obtain ⟨f, hf⟩ := Go.Deep.choose_lt (α := Td × Ti) (n := N) (p := fun i tm => TIn w b0 (o0 + i * 7) tm.1 tm.2) (fun i hi => by
    obtain ⟨cs', n', y, k1, k2⟩ := r i hi
    exact open_tab k2 k1 (q (by omega)).2)
  exact ⟨a, N, c, b0, o0, fun i => (f i).1, fun i => (f i).2, e, fun hn => (q hn).1, hf⟩
end

end Go.Proofs.Qxb6000463a
