/-
  THE WALKS of '(*reduction).open' and 'zzNeedsInputOK'.
-/
import Derived.Test.Qxb6000405aNeeded
namespace Go.Proofs.Qxb6000405a
open Go.RowKit

/-- The reduction in memory: one base, 0; node i counts down nn i. -/
structure Red (w : World) (R bb nb n : Nat) (nn : Nat → Int) : Prop where
  c3 : w.cell? ⟨R, 3, none⟩ = some (.slice (some ⟨bb, 0, none⟩) 1 1)
  c4 : w.cell? ⟨R, 4, none⟩ = some (.slice (some ⟨nb, 0, none⟩) n n)
  cb : w.cell? ⟨bb, 0, none⟩ = some (.int .i32 0)
  cn : ∀ i, i < n → w.cell? ⟨nb, i * 4, none⟩ = some (.int .i32 (nn i))
  ln : nb < w.heap.size

theorem Red.below {w w' : World} {R bb nb n : Nat} {nn : Nat → Int} (h : Red w R bb nb n nn) (hb : Below w.heap.size w w') : Red w' R bb nb n nn :=
  ⟨(hb.cell (p := ⟨R, 3, none⟩) (World.block_lt_of_cell? _ _ h.c3)).trans h.c3, (hb.cell (p := ⟨R, 4, none⟩) (World.block_lt_of_cell? _ _ h.c4)).trans h.c4,
    (hb.cell (p := ⟨bb, 0, none⟩) (World.block_lt_of_cell? _ _ h.cb)).trans h.cb, fun i hi => (hb.cell (p := ⟨nb, i * 4, none⟩) h.ln).trans (h.cn i hi), Nat.lt_of_lt_of_le h.ln hb.size⟩

/-- A leaf over a wait that is still open. -/
def opn (p nn : Nat → Int) (i : Nat) : Bool := decide (0 ≤ p i) && decide (nn i = 1)

set_option maxHeartbeats 2000000 in
theorem open_any (R bb nb n i : Nat) (p d u : Int) (nn : Nat → Int) (w : World) (hn : n ≤ 4096) (hi : i < n) (h : Red w R bb nb n nn) :
    Calls Try.prog 27 #[.pointer (some ⟨R, 0, none⟩), .int .i32 0, .int .i64 i, .agg #[.int .i32 p, .int .i32 d, .int .i32 u]] w fun e w' =>
      e = .returned (.bool (decide (0 ≤ p) && decide (nn i = 1))) ∧ Below w.heap.size w w' := by
  obtain ⟨h3, h4, hb, hcn, hl⟩ := h
  have ci := hcn i hi
  have l1 : R < w.heap.size := World.block_lt_of_cell? _ _ h3
  have l2 : bb < w.heap.size := World.block_lt_of_cell? _ _ hb
  have hiz : (i : Int) < (n : Int) := by omega
  clear hcn
  by_cases h0 : 0 ≤ p
  · have hd : decide (0 ≤ p) = true := decide_eq_true h0
    by_cases h1 : nn i = 1
    · rw [h1] at ci
      go_enter Try.func27, Try.ntmps27
      go_wp2
      go_quiet (fail)
      go_wp2
      go_ret
      exact ⟨ret_bool (by rw [hd, decide_eq_true h1]; rfl), ((Below.refl _ _).alloc (Nat.le_refl _) _).trans ((below_drewN' _ _).mono (by simp))⟩
    · have h1' : (nn i == 1) = false := beq_eq_false_iff_ne.2 h1
      go_enter Try.func27, Try.ntmps27
      go_wp2
      go_quiet (fail)
      go_wp2
      go_ret
      exact ⟨ret_bool (by rw [hd, decide_eq_false h1]; rfl), ((Below.refl _ _).alloc (Nat.le_refl _) _).trans ((below_drewN' _ _).mono (by simp))⟩
  · have hd : decide (0 ≤ p) = false := decide_eq_false h0
    go_enter Try.func27, Try.ntmps27
    go_wp2
    go_quiet (fail)
    go_wp2
    go_ret
    exact ⟨ret_bool (by rw [hd]; rfl), ((Below.refl _ _).alloc (Nat.le_refl _) _).trans ((below_drewN' _ _).mono (by simp))⟩

/-- What 'zzNeedsInputOK' answers. -/
def RetInput (w : World) (n0 n1 n2 n3 n4 : Nat) (p par mem : Nat → Int) (e : Ending) (w' : World) : Prop :=
  ∃ b : Bool, e = .returned (.bool b) ∧ w = w' ∧ (b = true → n1 = n0 ∧ n2 = n0 ∧ n3 = n0 ∧ WF n0 par ∧ (∀ i, i < n4 → mem i < 32) ∧ ∀ i, i < n0 → p i < (n4 : Int))

set_option maxHeartbeats 4000000 in
theorem input_any (a0 a1 a2 a3 a4 : Option Addr) (n0 n1 n2 n3 n4 c0 c1 c2 c3 c4 : Nat) (p par mem : Nat → Int) (w : World) (l0 : n0 ≤ 4096) (l4 : n4 ≤ 4096)
    (h0 : Reads w a0 n0 (fun i => .int .i32 (p i))) (h2 : Reads w a2 n2 (fun i => .int .i32 (par i))) (h4 : Reads w a4 n4 (fun i => .int .i32 (mem i))) (i0 : I32 p) (i2 : I32 par) :
    Calls Try.prog 16 #[.slice a0 n0 c0, .slice a1 n1 c1, .slice a2 n2 c2, .slice a3 n3 c3, .slice a4 n4 c4] w (RetInput w n0 n1 n2 n3 n4 p par mem) := by
  by_cases e3 : n3 = n0
  · subst e3
    go_enter Try.func16, Try.ntmps16
    go_wp2_with fail
    refine (wf_any a0 a1 a2 n3 n1 n2 c0 c1 c2 par w l0 h2 i2).mono ?_
    rintro e w1 ⟨b, rfl, rfl, hwf⟩
    cases b
    · go_wp2
      go_ret
      exact ⟨false, rfl, rfl, fun h => by cases h⟩
    have HWF : Hid (n1 = n3 ∧ n2 = n3 ∧ WF n3 par) := hwf rfl
    obtain ⟨b0, o0, p0, v0⟩ := h0
    obtain ⟨b4, o4, p4, v4⟩ := h4
    clear hwf h2 i2
    go_wp2
    go_loopg [27] n4 (fun g s wr => ∃ k : Nat, k ≤ n4 ∧ g = n4 - k ∧ s = .int .i64 k ∧ w = wr ∧ ∀ i, i < k → mem i < 32)
    case atStart => exact ⟨0, Nat.zero_le _, rfl, rfl, rfl, fun i hi => by omega⟩
    case round =>
      obtain ⟨k, hk, rfl, rfl, rfl, hh⟩ := hrel
      have HH : Hid (∀ i, i < k → mem i < 32) := hh
      clear hh
      by_cases hlt : k < n4
      · obtain ⟨rfl, hb⟩ := p4 (by omega)
        have ck : w.cell? ⟨b4, o4 + k, none⟩ = some (.int .i32 (mem k)) := v4 k hlt
        clear p0 v0 v4 p4 i0
        by_cases t1 : 32 ≤ mem k
        · go_wp2
          go_ret
          exact ⟨false, rfl, rfl, fun h => by cases h⟩
        · go_wp2
          go_roundg (n4 - (k + 1))
          case measure => go_light; omega
          case rel =>
            go_light
            refine ⟨k + 1, by omega, rfl, by go_num, rfl, fun i hi => ?_⟩
            by_cases e : i = k
            · subst e; omega
            · exact HH.out i (by omega)
      · obtain rfl : k = n4 := by omega
        clear v4 p4
        go_wp2
        go_loopg [36] n3 (fun g s wr => ∃ m : Nat, m ≤ n3 ∧ g = n3 - m ∧ s = .int .i64 m ∧ w = wr ∧ ∀ i, i < m → p i < (k : Int))
        case atStart => exact ⟨0, Nat.zero_le _, rfl, rfl, rfl, fun i hi => by omega⟩
        case round =>
          obtain ⟨m, hm, rfl, rfl, rfl, hh⟩ := hrel
          have HP : Hid (∀ i, i < m → p i < (k : Int)) := hh
          clear hh
          by_cases hlt : m < n3
          · obtain ⟨rfl, hb⟩ := p0 (by omega)
            have ck : w.cell? ⟨b0, o0 + m, none⟩ = some (.int .i32 (p m)) := v0 m hlt
            obtain ⟨x1, x2⟩ := i0 m
            clear p0 v0 i0
            by_cases t0 : 0 ≤ p m
            · have t0d : decide (0 ≤ p m) = true := decide_eq_true t0
              by_cases t1 : (k : Int) ≤ p m
              · go_wp2
                go_ret
                exact ⟨false, rfl, rfl, fun h => by cases h⟩
              · have t1d : decide ((k : Int) ≤ p m) = false := decide_eq_false t1
                go_wp2
                go_roundg (n3 - (m + 1))
                case measure => go_light; omega
                case rel =>
                  go_light
                  refine ⟨m + 1, by omega, rfl, by go_num, rfl, fun i hi => ?_⟩
                  by_cases e : i = m
                  · subst e; omega
                  · exact HP.out i (by omega)
            · have t0d : decide (0 ≤ p m) = false := decide_eq_false t0
              go_wp2
              go_roundg (n3 - (m + 1))
              case measure => go_light; omega
              case rel =>
                go_light
                refine ⟨m + 1, by omega, rfl, by go_num, rfl, fun i hi => ?_⟩
                by_cases e : i = m
                · subst e; omega
                · exact HP.out i (by omega)
          · obtain rfl : m = n3 := by omega
            clear p0 v0
            go_wp2
            go_ret
            exact ⟨true, rfl, rfl, fun _ => ⟨HWF.out.1, HWF.out.2.1, rfl, HWF.out.2.2, HH.out, HP.out⟩⟩
  · have e3' : ((n3 : Int) != (n0 : Int)) = true := by rw [bne_iff_ne]; omega
    go_enter Try.func16, Try.ntmps16
    go_wp2_with fail
    refine (wf_any a0 a1 a2 n0 n1 n2 c0 c1 c2 par w l0 h2 i2).mono ?_
    rintro e w1 ⟨b, rfl, rfl, hwf⟩
    clear hwf
    cases b
    all_goals
      go_wp2
      go_ret
      exact ⟨false, rfl, rfl, fun h => by cases h⟩

end Go.Proofs.Qxb6000405a
