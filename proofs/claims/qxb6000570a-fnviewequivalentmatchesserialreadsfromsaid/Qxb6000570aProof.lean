/-
  THE PROOF OF 'Rows.FnViewEquivalentMatchesSerialReadsFromSaid': the frame after the guide's own (proof-skeleton); the walk: Qxb6000570aEarlyV, Qxb6000570aLawV and what it imports.
-/
import Derived.Test.Qxb6000570aRows
import Derived.WalkKit
import Derived.ProofKit
import Derived.OpenShut
import Derived.ShutString
import Derived.ChangeOld
import Derived.Below
import Derived.Deep.Matrix
import Derived.Test.Qxb6000570aEarlyV
import Derived.Test.Qxb6000570aLawV
import Derived.Test.Qxb6000570aFacts
namespace Go.Proofs.Qxb6000570a.fnViewEquivalentMatchesSerialReadsFrom
open Go.ChangeShapes Go.WideShapes Go.ChangeAt Go.RowKit
set_option linter.unusedVariables false

theorem own : ownKnob Try.prog.godebug = none := by kernel_rfl
theorem laidOut : laidOutB Try.prog = true := by kernel_rfl

/-- A slice of integers that came in: nil; or it leads to a row of 'cap' cells, the numbers 'zs', each fitting its kind. -/
def IsRow (k : IntKind) (w : World) (a : Option Addr) (len cap : Nat) (zs : List Int) : Prop :=
  (a = none ∧ len = 0 ∧ cap = 0 ∧ zs = []) ∨
  ∃ x, a = some x ∧ len ≤ cap ∧ cap ≤ maxLen ∧ zs.length = cap ∧ (∀ i, i < zs.length → w.cell? (x.add i) = some (.int k (zs.getD i 0))) ∧ ∀ n ∈ zs, (Lit.int k n).wf = true

/-- From what the frame tells of a slice of int32 to what the walks ask. -/
theorem key_ints {w : World} {a : Option Addr} {l c : Nat} {z : List Int} (h : IsRow .i64 w a l c z) : Reads w a l (fun i => .int .i64 (z.getD i 0)) ∧ (a = none → l = 0 ∧ c = 0) ∧ (∀ n ∈ z, (Lit.int .i64 n).wf = true) := by
  rcases h with ⟨rfl, rfl, rfl, rfl⟩ | ⟨x, rfl, h1, h2, h3, h4, h5⟩
  · exact ⟨⟨0, 0, fun h => by omega, fun i hi => by omega⟩, fun _ => ⟨rfl, rfl⟩, fun n hn => by cases hn⟩
  · refine ⟨⟨x.block, x.off, fun h => ?_, fun i hi => ?_⟩, (fun h => by cases h), h5⟩
    · have hc := h4 0 (by omega)
      have hs : x.spot = none := by simpa [Addr.add] using World.cell?_spot hc
      have hb := World.block_lt_of_cell? _ _ hc
      obtain ⟨b, o, s⟩ := x
      simp only at hs
      subst hs
      exact ⟨rfl, by simpa [Addr.add] using hb⟩
    · have hc := h4 i (by omega)
      have hs : x.spot = none := by simpa [Addr.add] using World.cell?_spot (h4 0 (by omega))
      obtain ⟨b, o, s⟩ := x
      simp only at hs
      subst hs
      rw [add_plain] at hc
      exact hc

theorem reads_of {w : World} {x : Addr} {n : Nat} {f : Nat → Value} (h : ∀ i, i < n → w.cell? (x.add i) = some (f i)) : Reads w (some x) n f := by
  refine ⟨x.block, x.off, fun hn => ?_, fun i hi => ?_⟩
  · have hc := h 0 hn
    have hs : x.spot = none := by simpa [Addr.add] using World.cell?_spot hc
    have hb := World.block_lt_of_cell? _ _ hc
    obtain ⟨b, o, s⟩ := x
    simp only at hs
    subst hs
    exact ⟨rfl, by simpa [Addr.add] using hb⟩
  · have hc := h i hi
    have hs : x.spot = none := by simpa [Addr.add] using World.cell?_spot (h 0 (by omega))
    obtain ⟨b, o, s⟩ := x
    simp only at hs
    subst hs
    rw [add_plain] at hc
    exact hc

/-- A slice of slices of integers that came in. -/
def IsRows (k : IntKind) (w : World) (a : Option Addr) (len cap : Nat) (A : Nat → Option Addr) (L C : Nat → Nat) (Z : Nat → List Int) : Prop :=
  (a = none ∧ len = 0 ∧ cap = 0) ∨ ∃ x, a = some x ∧ len ≤ cap ∧ ∀ r, r < cap → w.cell? (x.add r) = some (.slice (A r) (L r) (C r)) ∧ L r ≤ C r ∧ (A r = none → C r = 0) ∧ ∀ a', A r = some a' → ∀ c, c < C r → w.cell? (a'.add c) = some (.int k ((Z r).getD c 0))

theorem key_rows {w : World} {a : Option Addr} {l c : Nat} {A : Nat → Option Addr} {L C : Nat → Nat} {Z : Nat → List Int} (h : IsRows .i64 w a l c A L C Z) :
    Adj w a l A L C (fun u i => (Z u).getD i 0) ∧ (a = none → l = 0 ∧ c = 0) ∧ ∀ u, u < l → A u = none → L u = 0 ∧ C u = 0 := by
  rcases h with ⟨rfl, rfl, rfl⟩ | ⟨x, rfl, h1, h4⟩
  · exact ⟨⟨⟨0, 0, fun h => by omega, fun i hi => by omega⟩, fun u hu => by omega⟩, fun _ => ⟨rfl, rfl⟩, fun u hu => by omega⟩
  · refine ⟨⟨reads_of fun i hi => (h4 i (by omega)).1, fun u hu => ?_⟩, (fun h => by cases h), fun u hu e => ?_⟩
    · obtain ⟨_, h5, h6, h7⟩ := h4 u (by omega)
      cases e : A u with
      | none => exact ⟨0, 0, fun h => by have := h6 e; omega, fun i hi => by have := h6 e; omega⟩
      | some x' => exact reads_of fun i hi => h7 x' e i (by omega)
    · obtain ⟨_, h5, h6, _⟩ := h4 u (by omega)
      have := h6 e
      omega

theorem walk (a0 : Int) (a1 : Option Addr) (len1 cap1 : Nat) (z1 : List Int) (a2 : Option Addr) (len2 cap2 : Nat) (z2 : List Int) (a3 : Option Addr) (len3 cap3 : Nat) (z3 : List Int) (a4 : Option Addr) (len4 cap4 : Nat) (A4 : Nat → Option Addr) (L4 C4 : Nat → Nat) (z4 : Nat → List Int) (a5 : Option Addr) (len5 cap5 : Nat) (z5 : List Int) (w : World) (w0 : (Lit.int .i64 a0).wf = true) (w1 : IsRow .i64 w a1 len1 cap1 z1) (w2 : IsRow .i64 w a2 len2 cap2 z2) (w3 : IsRow .i64 w a3 len3 cap3 z3) (w4 : IsRows .i64 w a4 len4 cap4 A4 L4 C4 z4) (w5 : IsRow .i64 w a5 len5 cap5 z5) :
    Calls Try.prog 9 #[.int .i64 a0, .slice a1 len1 cap1, .slice a2 len2 cap2, .slice a3 len3 cap3, .slice a4 len4 cap4, .slice a5 len5 cap5] w fun e w' => e = .returned (.bool true) ∧ Below w.heap.size w w' := by
  obtain ⟨r1, e1, _⟩ := key_ints w1
  obtain ⟨r2, e2, _⟩ := key_ints w2
  obtain ⟨r3, e3, _⟩ := key_ints w3
  obtain ⟨r4, e4, eA⟩ := key_rows w4
  obtain ⟨r5, e5, _⟩ := key_ints w5
  by_cases hall : len1 ≤ 65536 ∧ len2 ≤ 65536 ∧ len3 ≤ 65536 ∧ len4 ≤ 65536 ∧ len5 ≤ 4096 ∧ 0 ≤ a0 ∧ a0 ≤ 16384
  · obtain ⟨l1, l2, l3, l4, l5, l6, l7⟩ := hall
    obtain ⟨nI, rfl⟩ : ∃ nI : Nat, a0 = (nI : Int) := ⟨a0.toNat, by omega⟩
    exact lateV_any a1 a2 a3 a4 a5 nI len1 len2 len3 len4 len5 cap1 cap2 cap3 cap4 cap5 _ _ _ A4 L4 C4 _ _ w (by omega) l1 l2 l3 l4 l5 e1 e2 e3 e4 e5 eA r1 r2 r3 r4 r5
  · exact earlyV_any a1 a2 a3 a4 a5 len1 len2 len3 len4 len5 cap1 cap2 cap3 cap4 cap5 a0 A4 L4 C4 w r4.top (by omega)

set_option maxRecDepth 100000 in
theorem lifted (os : Os) (started : os.Started) (H : Type) (enc : TypeId × Value → H) :
    ReturnsInHanded {} Try.checked os 9 .any (Rows.fnViewEquivalentMatchesSerialReadsFromSpec.pre6 enc Try.prog Try.f9 Rows.fnViewEquivalentMatchesSerialReadsFromRow.domain false) (Rows.fnViewEquivalentMatchesSerialReadsFromSpec.post enc Try.prog Try.f9 false true false false) := by
  refine returnsInHanded_of_change (C := Try.checked) own started (by kernel_rfl) Try.func9
    (ChangeSpec.witness6 (enc := enc) (C := Try.checked) false ⟨#[], #[.int .i64 0, .slice none 0 0, .slice none 0 0, .slice none 0 0, .slice none 0 0, .slice none 0 0], []⟩ 8 (by kernel_rfl) (by kernel_rfl) (by kernel_rfl) (by kernel_rfl)) ?_
  intro W base args ds gs before hval0 hW hcnd _
  have hval : ∀ (j : Nat) t v, Try.f9.params[j]? = some t → args[j]? = some v → Value.okWide Try.prog W .any base t v := hval0
  have hW' := hW
  obtain ⟨p, q, hA0, hV, rfl, hfz, hnd⟩ := hW
  have hA : DataW.TrodAll enc Try.prog W 0 (fun _ => true) true Try.f9.params.toList args.toList ds p := hA0
  rw [Try.params9] at hA hval
  obtain ⟨v0, vs0, d0, ds0, p0, q0, hargs, rfl, rfl, h0, r0⟩ := trodAll_cons hA
  obtain ⟨v1, vs1, d1, ds1, p1, q1, rfl, rfl, rfl, h1, r1⟩ := trodAll_cons r0
  obtain ⟨v2, vs2, d2, ds2, p2, q2, rfl, rfl, rfl, h2, r2⟩ := trodAll_cons r1
  obtain ⟨v3, vs3, d3, ds3, p3, q3, rfl, rfl, rfl, h3, r3⟩ := trodAll_cons r2
  obtain ⟨v4, vs4, d4, ds4, p4, q4, rfl, rfl, rfl, h4, r4⟩ := trodAll_cons r3
  obtain ⟨v5, vs5, d5, ds5, p5, q5, rfl, rfl, rfl, h5, r5⟩ := trodAll_cons r4
  obtain ⟨rfl, rfl, rfl⟩ := trodAll_nil r5
  obtain rfl : args = #[v0, v1, v2, v3, v4, v5] := by cases args; simp_all
  obtain ⟨rfl, rfl⟩ := trodVars_none hV
  obtain ⟨a0, rfl, rfl, rfl, w0⟩ := open_int Try.underlying3 (hval 0 3 v0 rfl rfl) h0
  obtain ⟨a1, len1, cap1, rfl⟩ := okWide_slice Try.underlying26 (hval 1 26 v1 rfl rfl)
  have k1 := h1
  have lt1 : ∀ x ∈ p1, x.block < W.heap.size := by obtain ⟨m, hm⟩ := k1; exact DataW.trod_lt m _ _ _ hm
  obtain ⟨z1, w1⟩ : ∃ zs, IsRow .i64 W a1 len1 cap1 zs := by
    obtain ⟨fuel, hf⟩ := h1
    rcases open_ints Try.underlying26 Try.underlying3 (by kernel_rfl) hf with ⟨hcs, _⟩ | ⟨x, l, c, zs, hcs, _, hl, hm, hz, _, hcell, hwz⟩
    · simp [Value.cells] at hcs
      obtain ⟨rfl, rfl, rfl⟩ := hcs
      exact ⟨[], .inl ⟨rfl, rfl, rfl, rfl⟩⟩
    · simp [Value.cells] at hcs
      obtain ⟨rfl, rfl, rfl⟩ := hcs
      exact ⟨zs, .inr ⟨_, rfl, hl, hm, by simpa using hz, hcell, hwz⟩⟩
  obtain ⟨a2, len2, cap2, rfl⟩ := okWide_slice Try.underlying26 (hval 2 26 v2 rfl rfl)
  have k2 := h2
  have lt2 : ∀ x ∈ p2, x.block < W.heap.size := by obtain ⟨m, hm⟩ := k2; exact DataW.trod_lt m _ _ _ hm
  obtain ⟨z2, w2⟩ : ∃ zs, IsRow .i64 W a2 len2 cap2 zs := by
    obtain ⟨fuel, hf⟩ := h2
    rcases open_ints Try.underlying26 Try.underlying3 (by kernel_rfl) hf with ⟨hcs, _⟩ | ⟨x, l, c, zs, hcs, _, hl, hm, hz, _, hcell, hwz⟩
    · simp [Value.cells] at hcs
      obtain ⟨rfl, rfl, rfl⟩ := hcs
      exact ⟨[], .inl ⟨rfl, rfl, rfl, rfl⟩⟩
    · simp [Value.cells] at hcs
      obtain ⟨rfl, rfl, rfl⟩ := hcs
      exact ⟨zs, .inr ⟨_, rfl, hl, hm, by simpa using hz, hcell, hwz⟩⟩
  obtain ⟨a3, len3, cap3, rfl⟩ := okWide_slice Try.underlying26 (hval 3 26 v3 rfl rfl)
  have k3 := h3
  have lt3 : ∀ x ∈ p3, x.block < W.heap.size := by obtain ⟨m, hm⟩ := k3; exact DataW.trod_lt m _ _ _ hm
  obtain ⟨z3, w3⟩ : ∃ zs, IsRow .i64 W a3 len3 cap3 zs := by
    obtain ⟨fuel, hf⟩ := h3
    rcases open_ints Try.underlying26 Try.underlying3 (by kernel_rfl) hf with ⟨hcs, _⟩ | ⟨x, l, c, zs, hcs, _, hl, hm, hz, _, hcell, hwz⟩
    · simp [Value.cells] at hcs
      obtain ⟨rfl, rfl, rfl⟩ := hcs
      exact ⟨[], .inl ⟨rfl, rfl, rfl, rfl⟩⟩
    · simp [Value.cells] at hcs
      obtain ⟨rfl, rfl, rfl⟩ := hcs
      exact ⟨zs, .inr ⟨_, rfl, hl, hm, by simpa using hz, hcell, hwz⟩⟩
  obtain ⟨a4, len4, cap4, rfl⟩ := okWide_slice Try.underlying22 (hval 4 22 v4 rfl rfl)
  have k4 := h4
  have lt4 : ∀ x ∈ p4, x.block < W.heap.size := by obtain ⟨m, hm⟩ := k4; exact DataW.trod_lt m _ _ _ hm
  obtain ⟨A4, L4, C4, z4, w4⟩ : ∃ A L C Z, IsRows .i64 W a4 len4 cap4 A L C Z := by
    obtain ⟨fuel, hf⟩ := h4
    rcases Go.Deep.open_int_rows Try.underlying22 Try.underlying26 Try.underlying3 (by kernel_rfl) (by kernel_rfl) hf with ⟨hcs, _⟩ | ⟨x, l, c, A, L, C, Z, hcs, _, hl, hm, _, hx⟩
    · simp [Value.cells] at hcs
      obtain ⟨rfl, rfl, rfl⟩ := hcs
      exact ⟨fun _ => none, fun _ => 0, fun _ => 0, fun _ => [], .inl ⟨rfl, rfl, rfl⟩⟩
    · simp [Value.cells] at hcs
      obtain ⟨rfl, rfl, rfl⟩ := hcs
      exact ⟨A, L, C, Z, .inr ⟨_, rfl, hl, fun r hr => ⟨(hx r hr).1, (hx r hr).2.1, (hx r hr).2.2.2.2.2.1, fun a' e => ((hx r hr).2.2.2.2.2.2 a' e).2⟩⟩⟩
  obtain ⟨a5, len5, cap5, rfl⟩ := okWide_slice Try.underlying26 (hval 5 26 v5 rfl rfl)
  have k5 := h5
  have lt5 : ∀ x ∈ p5, x.block < W.heap.size := by obtain ⟨m, hm⟩ := k5; exact DataW.trod_lt m _ _ _ hm
  obtain ⟨z5, w5⟩ : ∃ zs, IsRow .i64 W a5 len5 cap5 zs := by
    obtain ⟨fuel, hf⟩ := h5
    rcases open_ints Try.underlying26 Try.underlying3 (by kernel_rfl) hf with ⟨hcs, _⟩ | ⟨x, l, c, zs, hcs, _, hl, hm, hz, _, hcell, hwz⟩
    · simp [Value.cells] at hcs
      obtain ⟨rfl, rfl, rfl⟩ := hcs
      exact ⟨[], .inl ⟨rfl, rfl, rfl, rfl⟩⟩
    · simp [Value.cells] at hcs
      obtain ⟨rfl, rfl, rfl⟩ := hcs
      exact ⟨zs, .inr ⟨_, rfl, hl, hm, by simpa using hz, hcell, hwz⟩⟩
  clear hA0 hval0
  refine (walk a0 a1 len1 cap1 z1 a2 len2 cap2 z2 a3 len3 cap3 z3 a4 len4 cap4 A4 L4 C4 z4 a5 len5 cap5 z5 W w0 w1 w2 w3 w4 w5).mono fun e W' ⟨he, bel⟩ => ?_
  subst he
  exact ⟨_, rfl, _, _, _, [], _, [], hW', trodAll_mk1 (shut_bool Try.underlying4 _), (trodAll_cons_mk (shut_int Try.underlying3 w0) (trodAll_cons_mk (Below.trod laidOut (by kernel_rfl) (of_decide_eq_true (by kernel_rfl)) k1 bel lt1) (trodAll_cons_mk (Below.trod laidOut (by kernel_rfl) (of_decide_eq_true (by kernel_rfl)) k2 bel lt2) (trodAll_cons_mk (Below.trod laidOut (by kernel_rfl) (of_decide_eq_true (by kernel_rfl)) k3 bel lt3) (trodAll_cons_mk (Below.trod laidOut (by kernel_rfl) (of_decide_eq_true (by kernel_rfl)) k4 bel lt4) (trodAll_cons_mk (Below.trod laidOut (by kernel_rfl) (of_decide_eq_true (by kernel_rfl)) k5 bel lt5) trodAll_mk0)))))), rfl, bel.frame _, fun h => by cases h⟩

theorem over : Rows.fnViewEquivalentMatchesSerialReadsFromRow.holds Try.pinned (OpenSpec.ofChange Rows.fnViewEquivalentMatchesSerialReadsFromSpec) :=
  OpenClaim.holds_of_wide 9 Try.f9 rfl rfl rfl rfl rfl rfl rfl ⟨rfl, rfl, rfl, rfl, rfl⟩ rfl rfl rfl rfl rfl fact1 Try.func9 fact2
    (of_decide_eq_true (by kernel_rfl)) (by unfold Func.isWrapper; first | (rw [if_pos (by decide +kernel)]; kernel_rfl) | (rw [if_neg (by decide +kernel)]; exact ⟨rfl, rfl⟩))
    (fun os started H enc _ => lifted os started H enc)

/-- THE STATEMENT -/
theorem proved : Rows.FnViewEquivalentMatchesSerialReadsFromSaid := over
end Go.Proofs.Qxb6000570a.fnViewEquivalentMatchesSerialReadsFrom
