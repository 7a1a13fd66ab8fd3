/-
  THE PROOF OF 'Rows.FnNeedsShrinkWhenWaitsCloseSaid': the frame after the guide's own (proof-skeleton); the walk: Qxb6000405aLawD and what it imports.
-/
import Derived.Test.Qxb6000405aRows
import Derived.WalkKit
import Derived.ProofKit
import Derived.OpenShut
import Derived.ShutString
import Derived.ChangeOld
import Derived.Below
import Derived.Deep.Grids
import Derived.Test.Qxb6000405aLawD
namespace Go.Proofs.Qxb6000405a.fnNeedsShrinkWhenWaitsClose
open Go.ChangeShapes Go.WideShapes Go.ChangeAt Go.RowKit
set_option linter.unusedVariables false

theorem own : ownKnob Try.prog.godebug = none := by kernel_rfl
theorem laidOut : laidOutB Try.prog = true := by kernel_rfl

/-- A slice of integers that came in: nil; or it leads to a row of 'cap' cells, the numbers 'zs', each fitting its kind. -/
def IsRow (k : IntKind) (w : World) (a : Option Addr) (len cap : Nat) (zs : List Int) : Prop :=
  (a = none ∧ len = 0 ∧ cap = 0 ∧ zs = []) ∨
  ∃ x, a = some x ∧ len ≤ cap ∧ cap ≤ maxLen ∧ zs.length = cap ∧ (∀ i, i < zs.length → w.cell? (x.add i) = some (.int k (zs.getD i 0))) ∧ ∀ n ∈ zs, (Lit.int k n).wf = true

/-- From what the frame tells of a slice of int32 to what the walks ask. -/
theorem key_ints {w : World} {a : Option Addr} {l c : Nat} {z : List Int} (h : IsRow .i32 w a l c z) : Reads w a l (fun i => .int .i32 (z.getD i 0)) ∧ (a = none → l = 0 ∧ c = 0) ∧ (∀ n ∈ z, (Lit.int .i32 n).wf = true) := by
  rcases h with ⟨rfl, rfl, rfl, rfl⟩ | ⟨x, rfl, h1, h2, h3, h4, h5⟩
  · exact ⟨⟨0, 0, fun h => by omega, fun i hi => by omega⟩, fun _ => ⟨rfl, rfl⟩, fun n hn => by cases hn⟩
  · refine ⟨⟨x.block, x.off, fun h => ?_, fun i hi => ?_⟩, (fun h => by cases h), h5⟩
    · have hc := h4 0 (by omega)
      have hs : x.spot = none := by simpa [Addr.add] using World.cell?_spot hc
      have hb := World.block_lt_of_cell? _ _ hc
      obtain ⟨b, o, s⟩ := x
      simp only at hs
      subst hs
      exact ⟨rfl, by simpa [Addr.add] using hb⟩
    · have hc := h4 i (by omega)
      have hs : x.spot = none := by simpa [Addr.add] using World.cell?_spot (h4 0 (by omega))
      obtain ⟨b, o, s⟩ := x
      simp only at hs
      subst hs
      rw [add_plain] at hc
      exact hc

/-- A slice of bools that came in. -/
def IsBools (w : World) (a : Option Addr) (len cap : Nat) (B : Nat → Bool) : Prop :=
  (a = none ∧ len = 0 ∧ cap = 0) ∨ ∃ x, a = some x ∧ len ≤ cap ∧ ∀ i, i < cap → w.cell? (x.add i) = some (.bool (B i))

theorem key_bools {w : World} {a : Option Addr} {l c : Nat} {z : Nat → Bool} (h : IsBools w a l c z) : Reads w a l (fun i => .bool (z i)) ∧ (a = none → l = 0 ∧ c = 0) := by
  rcases h with ⟨rfl, rfl, rfl⟩ | ⟨x, rfl, h1, h4⟩
  · exact ⟨⟨0, 0, fun h => by omega, fun i hi => by omega⟩, fun _ => ⟨rfl, rfl⟩⟩
  · refine ⟨⟨x.block, x.off, fun h => ?_, fun i hi => ?_⟩, (fun h => by cases h)⟩
    · have hc := h4 0 (by omega)
      have hs : x.spot = none := by simpa [Addr.add] using World.cell?_spot hc
      have hb := World.block_lt_of_cell? _ _ hc
      obtain ⟨b, o, s⟩ := x
      simp only at hs
      subst hs
      exact ⟨rfl, by simpa [Addr.add] using hb⟩
    · have hc := h4 i (by omega)
      have hs : x.spot = none := by simpa [Addr.add] using World.cell?_spot (h4 0 (by omega))
      obtain ⟨b, o, s⟩ := x
      simp only at hs
      subst hs
      rw [add_plain] at hc
      exact hc

theorem walk (a0 : Option Addr) (len0 cap0 : Nat) (z0 : List Int) (a1 : Option Addr) (len1 cap1 : Nat) (z1 : List Int) (a2 : Option Addr) (len2 cap2 : Nat) (z2 : List Int) (a3 : Option Addr) (len3 cap3 : Nat) (z3 : List Int) (a4 : Option Addr) (len4 cap4 : Nat) (z4 : List Int) (a5 : Option Addr) (len5 cap5 : Nat) (z5 : Nat → Bool) (a6 : Int) (w : World) (w0 : IsRow .i32 w a0 len0 cap0 z0) (w1 : IsRow .i32 w a1 len1 cap1 z1) (w2 : IsRow .i32 w a2 len2 cap2 z2) (w3 : IsRow .i32 w a3 len3 cap3 z3) (w4 : IsRow .i32 w a4 len4 cap4 z4) (w5 : IsBools w a5 len5 cap5 z5) (w6 : (Lit.int .i32 a6).wf = true) :
    Calls Try.prog 6 #[.slice a0 len0 cap0, .slice a1 len1 cap1, .slice a2 len2 cap2, .slice a3 len3 cap3, .slice a4 len4 cap4, .slice a5 len5 cap5, .int .i32 a6] w fun e w' => e = .returned (.bool true) ∧ Below w.heap.size w w' := by
  obtain ⟨r0, e0, i0⟩ := key_ints w0
  obtain ⟨r1, e1, _⟩ := key_ints w1
  obtain ⟨r2, e2, i2⟩ := key_ints w2
  obtain ⟨r3, e3, _⟩ := key_ints w3
  obtain ⟨r4, e4, _⟩ := key_ints w4
  obtain ⟨r5, e5⟩ := key_bools w5
  by_cases hall : len0 ≤ 4096 ∧ len1 ≤ 4096 ∧ len2 ≤ 4096 ∧ len3 ≤ 4096 ∧ len4 ≤ 4096 ∧ len5 ≤ 4096
  · obtain ⟨l0, l1, l2, l3, l4, l5⟩ := hall
    exact lateD_any a0 a1 a2 a3 a4 a5 len0 len1 len2 len3 len4 len5 cap0 cap1 cap2 cap3 cap4 cap5 a6 _ _ _ _ _ _ w l0 l1 l2 l3 l4 l5 e0 e1 e2 e3 e4 e5 r0 r1 r2 r3 r4 r5 (fun i => by simpa using range_i32 i0 i) (fun i => by simpa using range_i32 i2 i)
  · exact early6_any a0 a1 a2 a3 a4 a5 len0 len1 len2 len3 len4 len5 cap0 cap1 cap2 cap3 cap4 cap5 a6 w (by omega)

set_option maxRecDepth 100000 in
theorem lifted (os : Os) (started : os.Started) (H : Type) (enc : TypeId × Value → H) :
    ReturnsInHanded {} Try.checked os 6 .any (Rows.fnNeedsShrinkWhenWaitsCloseSpec.pre6 enc Try.prog Try.f6 Rows.fnNeedsShrinkWhenWaitsCloseRow.domain false) (Rows.fnNeedsShrinkWhenWaitsCloseSpec.post enc Try.prog Try.f6 false true false false) := by
  refine returnsInHanded_of_change (C := Try.checked) own started (by kernel_rfl) Try.func6
    (ChangeSpec.witness6 (enc := enc) (C := Try.checked) false ⟨#[], #[.slice none 0 0, .slice none 0 0, .slice none 0 0, .slice none 0 0, .slice none 0 0, .slice none 0 0, .int .i32 0], []⟩ 8 (by kernel_rfl) (by kernel_rfl) (by kernel_rfl) (by kernel_rfl)) ?_
  intro W base args ds gs before hval0 hW hcnd _
  have hval : ∀ (j : Nat) t v, Try.f6.params[j]? = some t → args[j]? = some v → Value.okWide Try.prog W .any base t v := hval0
  have hW' := hW
  obtain ⟨p, q, hA0, hV, rfl, hfz, hnd⟩ := hW
  have hA : DataW.TrodAll enc Try.prog W 0 (fun _ => true) true Try.f6.params.toList args.toList ds p := hA0
  rw [Try.params6] at hA hval
  obtain ⟨v0, vs0, d0, ds0, p0, q0, hargs, rfl, rfl, h0, r0⟩ := trodAll_cons hA
  obtain ⟨v1, vs1, d1, ds1, p1, q1, rfl, rfl, rfl, h1, r1⟩ := trodAll_cons r0
  obtain ⟨v2, vs2, d2, ds2, p2, q2, rfl, rfl, rfl, h2, r2⟩ := trodAll_cons r1
  obtain ⟨v3, vs3, d3, ds3, p3, q3, rfl, rfl, rfl, h3, r3⟩ := trodAll_cons r2
  obtain ⟨v4, vs4, d4, ds4, p4, q4, rfl, rfl, rfl, h4, r4⟩ := trodAll_cons r3
  obtain ⟨v5, vs5, d5, ds5, p5, q5, rfl, rfl, rfl, h5, r5⟩ := trodAll_cons r4
  obtain ⟨v6, vs6, d6, ds6, p6, q6, rfl, rfl, rfl, h6, r6⟩ := trodAll_cons r5
  obtain ⟨rfl, rfl, rfl⟩ := trodAll_nil r6
  obtain rfl : args = #[v0, v1, v2, v3, v4, v5, v6] := by cases args; simp_all
  obtain ⟨rfl, rfl⟩ := trodVars_none hV
  obtain ⟨a0, len0, cap0, rfl⟩ := okWide_slice Try.underlying22 (hval 0 22 v0 rfl rfl)
  have k0 := h0
  have lt0 : ∀ x ∈ p0, x.block < W.heap.size := by obtain ⟨m, hm⟩ := k0; exact DataW.trod_lt m _ _ _ hm
  obtain ⟨z0, w0⟩ : ∃ zs, IsRow .i32 W a0 len0 cap0 zs := by
    obtain ⟨fuel, hf⟩ := h0
    rcases open_ints Try.underlying22 Try.underlying21 (by kernel_rfl) hf with ⟨hcs, _⟩ | ⟨x, l, c, zs, hcs, _, hl, hm, hz, _, hcell, hwz⟩
    · simp [Value.cells] at hcs
      obtain ⟨rfl, rfl, rfl⟩ := hcs
      exact ⟨[], .inl ⟨rfl, rfl, rfl, rfl⟩⟩
    · simp [Value.cells] at hcs
      obtain ⟨rfl, rfl, rfl⟩ := hcs
      exact ⟨zs, .inr ⟨_, rfl, hl, hm, by simpa using hz, hcell, hwz⟩⟩
  obtain ⟨a1, len1, cap1, rfl⟩ := okWide_slice Try.underlying22 (hval 1 22 v1 rfl rfl)
  have k1 := h1
  have lt1 : ∀ x ∈ p1, x.block < W.heap.size := by obtain ⟨m, hm⟩ := k1; exact DataW.trod_lt m _ _ _ hm
  obtain ⟨z1, w1⟩ : ∃ zs, IsRow .i32 W a1 len1 cap1 zs := by
    obtain ⟨fuel, hf⟩ := h1
    rcases open_ints Try.underlying22 Try.underlying21 (by kernel_rfl) hf with ⟨hcs, _⟩ | ⟨x, l, c, zs, hcs, _, hl, hm, hz, _, hcell, hwz⟩
    · simp [Value.cells] at hcs
      obtain ⟨rfl, rfl, rfl⟩ := hcs
      exact ⟨[], .inl ⟨rfl, rfl, rfl, rfl⟩⟩
    · simp [Value.cells] at hcs
      obtain ⟨rfl, rfl, rfl⟩ := hcs
      exact ⟨zs, .inr ⟨_, rfl, hl, hm, by simpa using hz, hcell, hwz⟩⟩
  obtain ⟨a2, len2, cap2, rfl⟩ := okWide_slice Try.underlying22 (hval 2 22 v2 rfl rfl)
  have k2 := h2
  have lt2 : ∀ x ∈ p2, x.block < W.heap.size := by obtain ⟨m, hm⟩ := k2; exact DataW.trod_lt m _ _ _ hm
  obtain ⟨z2, w2⟩ : ∃ zs, IsRow .i32 W a2 len2 cap2 zs := by
    obtain ⟨fuel, hf⟩ := h2
    rcases open_ints Try.underlying22 Try.underlying21 (by kernel_rfl) hf with ⟨hcs, _⟩ | ⟨x, l, c, zs, hcs, _, hl, hm, hz, _, hcell, hwz⟩
    · simp [Value.cells] at hcs
      obtain ⟨rfl, rfl, rfl⟩ := hcs
      exact ⟨[], .inl ⟨rfl, rfl, rfl, rfl⟩⟩
    · simp [Value.cells] at hcs
      obtain ⟨rfl, rfl, rfl⟩ := hcs
      exact ⟨zs, .inr ⟨_, rfl, hl, hm, by simpa using hz, hcell, hwz⟩⟩
  obtain ⟨a3, len3, cap3, rfl⟩ := okWide_slice Try.underlying22 (hval 3 22 v3 rfl rfl)
  have k3 := h3
  have lt3 : ∀ x ∈ p3, x.block < W.heap.size := by obtain ⟨m, hm⟩ := k3; exact DataW.trod_lt m _ _ _ hm
  obtain ⟨z3, w3⟩ : ∃ zs, IsRow .i32 W a3 len3 cap3 zs := by
    obtain ⟨fuel, hf⟩ := h3
    rcases open_ints Try.underlying22 Try.underlying21 (by kernel_rfl) hf with ⟨hcs, _⟩ | ⟨x, l, c, zs, hcs, _, hl, hm, hz, _, hcell, hwz⟩
    · simp [Value.cells] at hcs
      obtain ⟨rfl, rfl, rfl⟩ := hcs
      exact ⟨[], .inl ⟨rfl, rfl, rfl, rfl⟩⟩
    · simp [Value.cells] at hcs
      obtain ⟨rfl, rfl, rfl⟩ := hcs
      exact ⟨zs, .inr ⟨_, rfl, hl, hm, by simpa using hz, hcell, hwz⟩⟩
  obtain ⟨a4, len4, cap4, rfl⟩ := okWide_slice Try.underlying22 (hval 4 22 v4 rfl rfl)
  have k4 := h4
  have lt4 : ∀ x ∈ p4, x.block < W.heap.size := by obtain ⟨m, hm⟩ := k4; exact DataW.trod_lt m _ _ _ hm
  obtain ⟨z4, w4⟩ : ∃ zs, IsRow .i32 W a4 len4 cap4 zs := by
    obtain ⟨fuel, hf⟩ := h4
    rcases open_ints Try.underlying22 Try.underlying21 (by kernel_rfl) hf with ⟨hcs, _⟩ | ⟨x, l, c, zs, hcs, _, hl, hm, hz, _, hcell, hwz⟩
    · simp [Value.cells] at hcs
      obtain ⟨rfl, rfl, rfl⟩ := hcs
      exact ⟨[], .inl ⟨rfl, rfl, rfl, rfl⟩⟩
    · simp [Value.cells] at hcs
      obtain ⟨rfl, rfl, rfl⟩ := hcs
      exact ⟨zs, .inr ⟨_, rfl, hl, hm, by simpa using hz, hcell, hwz⟩⟩
  obtain ⟨a5, len5, cap5, rfl⟩ := okWide_slice Try.underlying25 (hval 5 25 v5 rfl rfl)
  have k5 := h5
  have lt5 : ∀ x ∈ p5, x.block < W.heap.size := by obtain ⟨m, hm⟩ := k5; exact DataW.trod_lt m _ _ _ hm
  obtain ⟨z5, w5⟩ : ∃ zs, IsBools W a5 len5 cap5 zs := by
    obtain ⟨fuel, hf⟩ := h5
    rcases Go.Deep.open_bools Try.underlying25 Try.underlying4 (by kernel_rfl) hf with ⟨hcs, _⟩ | ⟨x, l, c, B, hcs, _, hl, hm, _, hcell⟩
    · simp [Value.cells] at hcs
      obtain ⟨rfl, rfl, rfl⟩ := hcs
      exact ⟨fun _ => false, .inl ⟨rfl, rfl, rfl⟩⟩
    · simp [Value.cells] at hcs
      obtain ⟨rfl, rfl, rfl⟩ := hcs
      exact ⟨B, .inr ⟨_, rfl, hl, hcell⟩⟩
  obtain ⟨a6, rfl, rfl, rfl, w6⟩ := open_int Try.underlying21 (hval 6 21 v6 rfl rfl) h6
  clear hA0 hval0
  refine (walk a0 len0 cap0 z0 a1 len1 cap1 z1 a2 len2 cap2 z2 a3 len3 cap3 z3 a4 len4 cap4 z4 a5 len5 cap5 z5 a6 W w0 w1 w2 w3 w4 w5 w6).mono fun e W' ⟨he, bel⟩ => ?_
  subst he
  exact ⟨_, rfl, _, _, _, [], _, [], hW', trodAll_mk1 (shut_bool Try.underlying4 _), (trodAll_cons_mk (Below.trod laidOut (by kernel_rfl) (of_decide_eq_true (by kernel_rfl)) k0 bel lt0) (trodAll_cons_mk (Below.trod laidOut (by kernel_rfl) (of_decide_eq_true (by kernel_rfl)) k1 bel lt1) (trodAll_cons_mk (Below.trod laidOut (by kernel_rfl) (of_decide_eq_true (by kernel_rfl)) k2 bel lt2) (trodAll_cons_mk (Below.trod laidOut (by kernel_rfl) (of_decide_eq_true (by kernel_rfl)) k3 bel lt3) (trodAll_cons_mk (Below.trod laidOut (by kernel_rfl) (of_decide_eq_true (by kernel_rfl)) k4 bel lt4) (trodAll_cons_mk (Below.trod laidOut (by kernel_rfl) (of_decide_eq_true (by kernel_rfl)) k5 bel lt5) (trodAll_cons_mk (shut_int Try.underlying21 w6) trodAll_mk0))))))), rfl, bel.frame _, fun h => by cases h⟩

theorem over : Rows.fnNeedsShrinkWhenWaitsCloseRow.holds Try.pinned (OpenSpec.ofChange Rows.fnNeedsShrinkWhenWaitsCloseSpec) :=
  OpenClaim.holds_of_wide 6 Try.f6 rfl rfl rfl rfl rfl rfl rfl ⟨rfl, rfl, rfl, rfl, rfl⟩ rfl rfl rfl rfl rfl (by kernel_rfl) Try.func6 (by kernel_rfl)
    (of_decide_eq_true (by kernel_rfl)) (by unfold Func.isWrapper; first | (rw [if_pos (by decide +kernel)]; kernel_rfl) | (rw [if_neg (by decide +kernel)]; exact ⟨rfl, rfl⟩))
    (fun os started H enc _ => lifted os started H enc)

/-- THE STATEMENT -/
theorem proved : Rows.FnNeedsShrinkWhenWaitsCloseSaid := over
end Go.Proofs.Qxb6000405a.fnNeedsShrinkWhenWaitsClose
