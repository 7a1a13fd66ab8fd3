/-
  THE WALK of '(*graph).viewEquivalent'.
-/
import Derived.Test.Qxb6000570aNode
namespace Go.Proofs.Qxb6000570a
open Go.RowKit

/-- Access a lies in memory at (ga, a * 7): the three cells that are read. -/
structure AccAt (w : World) (ga a : Nat) (g : G) : Prop where
  c1 : w.cell? ⟨ga, a * 7 + 1, none⟩ = some (.int .i64 (g.it a : Nat))
  c4 : w.cell? ⟨ga, a * 7 + 4, none⟩ = some (.int .i64 (g.fw a))
  c6 : w.cell? ⟨ga, a * 7 + 6, none⟩ = some (.int .i64 (g.fr a))

theorem AccAt.below {w w' : World} {ga a : Nat} {g : G} (h : AccAt w ga a g) (hg : ga < w.heap.size) (hb : Below w.heap.size w w') : AccAt w' ga a g :=
  ⟨by rw [hb.cell (p := ⟨ga, a * 7 + 1, none⟩) hg]; exact h.c1, by rw [hb.cell (p := ⟨ga, a * 7 + 4, none⟩) hg]; exact h.c4, by rw [hb.cell (p := ⟨ga, a * 7 + 6, none⟩) hg]; exact h.c6⟩

/-- The graph's object and the row of accesses. -/
structure Gr (w : World) (p ga nI m T c4 : Nat) (ia a4 : Option Addr) (ci : Nat) (g : G) : Prop where
  f1 : w.cell? ⟨p, 1, none⟩ = some (.slice ia nI ci)
  f2 : w.cell? ⟨p, 2, none⟩ = some (.slice (some ⟨ga, 0, none⟩) m m)
  f3 : w.cell? ⟨p, 3, none⟩ = some (.slice a4 T c4)
  lp : p < w.heap.size
  lg : ga < w.heap.size
  acc : ∀ a, a < m → AccAt w ga a g

theorem Gr.below {w w' : World} {p ga nI m T c4 : Nat} {ia a4 : Option Addr} {ci : Nat} {g : G} (h : Gr w p ga nI m T c4 ia a4 ci g) (hb : Below w.heap.size w w') : Gr w' p ga nI m T c4 ia a4 ci g :=
  ⟨by rw [hb.cell (p := ⟨p, 1, none⟩) h.lp]; exact h.f1, by rw [hb.cell (p := ⟨p, 2, none⟩) h.lp]; exact h.f2, by rw [hb.cell (p := ⟨p, 3, none⟩) h.lp]; exact h.f3,
    Nat.lt_of_lt_of_le h.lp hb.size, Nat.lt_of_lt_of_le h.lg hb.size, fun a ha => (h.acc a ha).below h.lg hb⟩

/-- A graph in range. -/
structure InR (g : G) (nI m T N : Nat) : Prop where
  lI : nI ≤ 16384
  lm : m ≤ 65536
  lT : T ≤ 65536
  lN : N ≤ 4096
  lL : ∀ u, u < T → g.L u ≤ 131072
  it : ∀ a, a < m → g.it a < nI
  R : ∀ u, u < T → ∀ i, i < g.L u → g.R u i < m
  od : ∀ k, k < N → g.od k < T

/-- What 'viewEquivalent' answers. -/
def RetView (w : World) (g : G) (N : Nat) (e : Ending) (w' : World) : Prop :=
  ∃ b : Bool, e = .returned (.bool b) ∧ (b = true ↔ AllTo g N) ∧ Below w.heap.size w w'

set_option maxRecDepth 100000 in
set_option maxHeartbeats 16000000 in
theorem view_any (g : G) (p ga nI m T N c4 c5 ci : Nat) (ia a4 a5 : Option Addr) (A : Nat → Option Addr) (C : Nat → Nat) (w : World) (hR : InR g nI m T N) (hG : Gr w p ga nI m T c4 ia a4 ci g)
    (h4 : Adj w a4 T A g.L C (fun u i => (g.R u i : Nat))) (h5 : Reads w a5 N (fun k => .int .i64 (g.od k : Nat))) :
    Calls Try.prog 39 #[.pointer (some ⟨p, 0, none⟩), .slice a5 N c5] w (RetView w g N) := by
  obtain ⟨lI, lm, lT, lN, lL, hit, hRR, hod⟩ := hR
  have hmk := run_make_row' (P := Try.prog) 26 3 (.int .i64 0) 8 Try.underlying26 Try.info3 rfl .i64 .i64 nI (by omega) (by omega)
  have hrow0 := World.rowIs_made w (.int .i64 0) nI 3
  have p1 := hG.f1
  have lp := hG.lp
  have HG : Hid (Gr w p ga nI m T c4 ia a4 ci g) := hG
  have H4 : Hid (Adj w a4 T A g.L C (fun u i => (g.R u i : Nat))) := h4
  have H5 : Hid (Reads w a5 N (fun k => .int .i64 (g.od k : Nat))) := h5
  have HL : Hid (∀ u, u < T → g.L u ≤ 131072) := lL
  have HI : Hid (∀ a, a < m → g.it a < nI) := hit
  have HRR : Hid (∀ u, u < T → ∀ i, i < g.L u → g.R u i < m) := hRR
  have HO : Hid (∀ k, k < N → g.od k < T) := hod
  clear hG h4 h5 lL hit hRR hod
  go_enter Try.func39, Try.ntmps39
  go_wp2
  go_loopg [23] nI (fun gg s wr => ∃ k : Nat, k ≤ nI ∧ gg = nI - k ∧ s = .int .i64 k ∧ Below w.heap.size w wr ∧ wr.rowIs w.heap.size 3 nI (fun x => .int .i64 (if x < k then -1 else 0)))
  case atStart => exact ⟨0, Nat.zero_le _, rfl, rfl, (Below.refl _ _).alloc (Nat.le_refl _) _, hrow0.congr (fun i _ => by simp)⟩
  case round =>
    obtain ⟨k, hk, rfl, rfl, hb, hr⟩ := hrel
    clear hmk hrow0 p1
    by_cases hlt : k < nI
    · have hltz : (k : Int) < (nI : Int) := by omega
      have t0 := hr.cell hlt
      have f0 := hr.frozen k
      go_wp2
      go_roundg (nI - (k + 1))
      case measure => go_light; omega
      case rel =>
        go_light
        refine ⟨k + 1, by omega, rfl, by go_num, hb.setCell (Nat.le_refl _) _, (hr.set k _).congr (fun j hj => ?_)⟩
        by_cases e : j = k
        · subst e; rw [if_pos rfl, if_pos (by omega)]
        · rw [if_neg e]
          by_cases hlt : j < k
          · rw [if_pos hlt, if_pos (by omega)]
          · rw [if_neg hlt, if_neg (by omega)]
    · obtain rfl : k = nI := by omega
      have hr1 : wr.rowIs w.heap.size 3 k (fun x => .int .i64 (last g 0 x)) := hr.congr (fun j hj => by rw [if_pos hj]; rfl)
      have HRW : Hid (wr.rowIs w.heap.size 3 k (fun x => .int .i64 (last g 0 x))) := hr1
      clear hr hr1 hlt hk
      go_wp2
      go_loopg [32] N (fun gg s wx => ∃ n : Nat, n ≤ N ∧ gg = N - n ∧ s = .int .i64 n ∧ Below w.heap.size w wx ∧ wx.rowIs w.heap.size 3 k (fun x => .int .i64 (last g n x)) ∧ AllTo g n)
      case atStart => exact ⟨0, Nat.zero_le _, rfl, rfl, hb, HRW.out, fun j hj => by omega⟩
      case round =>
        obtain ⟨n, hn, rfl, rfl, hbx, hrx, hall⟩ := hrel
        have HA : Hid (AllTo g n) := hall
        have HRX : Hid (wr.rowIs w.heap.size 3 k (fun x => .int .i64 (last g n x))) := hrx
        have hB := hbx
        clear hall hrx HRW hb hbx
        by_cases hlt : n < N
        · have hltz : (n : Int) < (N : Int) := by omega
          have hu := HO.out n hlt
          have huz : (g.od n : Int) < (T : Int) := by omega
          have hLu := HL.out _ hu
          have HRu : Hid (∀ i, i < g.L (g.od n) → g.R (g.od n) i < m) := HRR.out _ hu
          have hWB : Below w.heap.size w wr := hB
          have GW := HG.out.below hWB
          have p3 := GW.f3
          obtain ⟨b5, o5, q5, v5⟩ := H5.out.below hWB
          obtain ⟨rfl, l5⟩ := q5 (by omega)
          have t5 : wr.cell? ⟨b5, o5 + n, none⟩ = some (.int .i64 (g.od n : Nat)) := v5 n hlt
          obtain ⟨b4, o4, q4, v4⟩ := H4.out.top.below hWB
          obtain ⟨rfl, l4⟩ := q4 (by omega)
          have t4 : wr.cell? ⟨b4, o4 + g.od n, none⟩ = some (.slice (A (g.od n)) (g.L (g.od n)) (C (g.od n))) := v4 _ hu
          have lpo := GW.lp
          have HROW : Hid (Reads w (A (g.od n)) (g.L (g.od n)) (fun i => .int .i64 (g.R (g.od n) i : Nat))) := H4.out.row _ hu
          have HT4 : Hid (∀ wx, Below w.heap.size w wx → wx.cell? ⟨b4, o4 + g.od n, none⟩ = some (.slice (A (g.od n)) (g.L (g.od n)) (C (g.od n)))) := fun wx h => by
            obtain ⟨b, o, q, v⟩ := H4.out.top.below h
            obtain ⟨e, _⟩ := q (by omega)
            injection e with e; injection e with e1 e2; subst e1 e2
            exact v _ hu
          generalize hAu : A (g.od n) = Au at t4 HROW HT4
          generalize hCu : C (g.od n) = Cu at t4 HT4
          clear q5 v5 q4 v4 GW hAu hCu
          go_wp2
          go_loopg [44] (g.L (g.od n)) (fun gg s wx => ∃ i : Nat, i ≤ g.L (g.od n) ∧ gg = g.L (g.od n) - i ∧ s = .int .i64 i ∧ Below w.heap.size w wx ∧ wx.rowIs w.heap.size 3 k (fun x => .int .i64 (last g n x)) ∧ ∀ i', i' < i → OK g n i')
          case atStart => exact ⟨0, Nat.zero_le _, rfl, rfl, hB, HRX.out, fun j hj => by omega⟩
          case round =>
            obtain ⟨i, hi, rfl, rfl, hb, hrx, hok⟩ := hrel
            have HK : Hid (∀ i', i' < i → OK g n i') := hok
            have HRY : Hid (wr.rowIs w.heap.size 3 k (fun x => .int .i64 (last g n x))) := hrx
            clear hok hrx HRX t5 t4 p3 hB hWB
            by_cases hil : i < g.L (g.od n)
            · have hilz : (i : Int) < (g.L (g.od n) : Int) := by omega
              have hr := HRu.out i hil
              have hit := HI.out _ hr
              have GW := HG.out.below hb
              have f2 := GW.f2
              obtain ⟨a1, a4, a6⟩ := GW.acc _ hr
              have lga := GW.lg
              have lpx := GW.lp
              have cl := HRY.out.cell hit
              have HOK : Hid (OK g n i ↔ (g.fr (g.R (g.od n) i) = -2 ∨ g.fr (g.R (g.od n) i) = last g n (g.it (g.R (g.od n) i)))) := Iff.rfl
              obtain ⟨br, or, qr, vr⟩ := HROW.out.below hb
              obtain ⟨rfl, lr⟩ := qr (by omega)
              have tr : wr.cell? ⟨br, or + i, none⟩ = some (.int .i64 (g.R (g.od n) i : Nat)) := vr i hil
              clear qr vr GW
              generalize g.R (g.od n) i = r at *
              have hrz : (r : Int) < (m : Int) := by omega
              have hitz : (g.it r : Int) < (k : Int) := by omega
              have HFR : Hid (wr.rowIs w.heap.size 3 k (fun x => .int .i64 (last g n x)) → ∀ q, (wr.drewN q).rowIs w.heap.size 3 k (fun x => .int .i64 (last g n x))) := fun h _ => h
              clear a4
              by_cases e1 : g.fr r = -2
              · have e1' : (g.fr r != -2) = false := by rw [bne_eq_false_iff_eq]; exact e1
                have HN : Hid (OK g n i) := HOK.out.2 (Or.inl e1)
                clear HOK e1
                go_wp2
                go_quiet (fail)
                go_wp2
                go_roundg (g.L (g.od n) - (i + 1))
                case measure => go_light; omega
                case rel =>
                  go_light
                  refine ⟨i + 1, by omega, rfl, by go_num, hb.trans ((below_drewN' _ _).mono hb.size), HFR.out HRY.out _, fun i' hi' => ?_⟩
                  by_cases e : i' = i
                  · subst e; exact HN.out
                  · exact HK.out i' (by omega)
              · have e1' : (g.fr r != -2) = true := by rw [bne_iff_ne]; exact e1
                by_cases e2 : g.fr r = last g n (g.it r)
                · have HN : Hid (OK g n i) := HOK.out.2 (Or.inr e2)
                  have e2' : (g.fr r != last g n (g.it r)) = false := by rw [bne_eq_false_iff_eq]; exact e2
                  clear HOK e1 e2
                  go_wp2
                  go_quiet (fail)
                  go_wp2
                  go_roundg (g.L (g.od n) - (i + 1))
                  case measure => go_light; omega
                  case rel =>
                    go_light
                    refine ⟨i + 1, by omega, rfl, by go_num, hb.trans ((below_drewN' _ _).mono hb.size), HFR.out HRY.out _, fun i' hi' => ?_⟩
                    by_cases e : i' = i
                    · subst e; exact HN.out
                    · exact HK.out i' (by omega)
                · have HN : Hid (¬ OK g n i) := fun h => (HOK.out.1 h).elim e1 e2
                  have e2' : (g.fr r != last g n (g.it r)) = true := by rw [bne_iff_ne]; exact e2
                  clear HOK e1 e2
                  go_wp2
                  go_quiet (fail)
                  go_wp2
                  go_ret
                  exact ⟨false, rfl, ⟨fun h => (by cases h), fun h => absurd (h n hlt i hil) HN.out⟩, hb.trans ((below_drewN' _ _).mono hb.size)⟩
            · obtain rfl : i = g.L (g.od n) := by omega
              have HN : Hid (AllTo g (n + 1)) := HA.out.step HK.out
              have HR0 : Hid (wr.rowIs w.heap.size 3 k (fun x => .int .i64 (lastAt g n 0 x))) := HRY.out.congr (fun x _ => by rw [lastAt_zero])
              have GW := HG.out.below hb
              have p3 := GW.f3
              have lpx := GW.lp
              have t4 := HT4.out _ hb
              clear HK HA HRY GW
              go_wp2
              go_loopg [82] (g.L (g.od n)) (fun gg s wx => ∃ i : Nat, i ≤ g.L (g.od n) ∧ gg = g.L (g.od n) - i ∧ s = .int .i64 i ∧ Below w.heap.size w wx ∧ wx.rowIs w.heap.size 3 k (fun x => .int .i64 (lastAt g n i x)))
              case atStart => exact ⟨0, Nat.zero_le _, rfl, rfl, hb, HR0.out⟩
              case round =>
                clear HR0 p3 t4 hb hi
                obtain ⟨i, hi, rfl, rfl, hb, hrx⟩ := hrel
                have HRY : Hid (wr.rowIs w.heap.size 3 k (fun x => .int .i64 (lastAt g n i x))) := hrx
                clear hrx
                by_cases hil : i < g.L (g.od n)
                · have hilz : (i : Int) < (g.L (g.od n) : Int) := by omega
                  have hr := HRu.out i hil
                  have hit := HI.out _ hr
                  have GW := HG.out.below hb
                  have f2 := GW.f2
                  obtain ⟨a1, a4, a6⟩ := GW.acc _ hr
                  have lga := GW.lg
                  have lpx := GW.lp
                  have cl := HRY.out.cell hit
                  have fl := HRY.out.frozen (g.it (g.R (g.od n) i))
                  have HWR := @lastAt_write g n i
                  have HSK := @lastAt_skip g n i
                  obtain ⟨br, or, qr, vr⟩ := HROW.out.below hb
                  obtain ⟨rfl, lr⟩ := qr (by omega)
                  have tr : wr.cell? ⟨br, or + i, none⟩ = some (.int .i64 (g.R (g.od n) i : Nat)) := vr i hil
                  clear qr vr GW a6
                  generalize g.R (g.od n) i = r at *
                  have hrz : (r : Int) < (m : Int) := by omega
                  have hitz : (g.it r : Int) < (k : Int) := by omega
                  by_cases e1 : 0 < g.fw r
                  · have HX : Hid (∀ x, lastAt g n (i + 1) x = if x = g.it r then (g.od n : Int) else lastAt g n i x) := HWR e1
                    clear HWR HSK
                    go_wp2
                    go_roundg (g.L (g.od n) - (i + 1))
                    case measure => go_light; omega
                    case rel =>
                      go_light
                      refine ⟨i + 1, by omega, rfl, by go_num, hb.setCell (Nat.le_refl _) _, (HRY.out.set _ _).congr (fun x hx => ?_)⟩
                      rw [HX.out]
                      by_cases e : x = g.it r
                      · rw [if_pos e, if_pos e]
                      · rw [if_neg e, if_neg e]
                  · have HX : Hid (∀ x, lastAt g n (i + 1) x = lastAt g n i x) := HSK e1
                    have e1d : decide (0 < g.fw r) = false := decide_eq_false e1
                    clear HWR HSK
                    go_wp2
                    go_roundg (g.L (g.od n) - (i + 1))
                    case measure => go_light; omega
                    case rel =>
                      go_light
                      exact ⟨i + 1, by omega, rfl, by go_num, hb, HRY.out.congr (fun x _ => by rw [HX.out])⟩
                · obtain rfl : i = g.L (g.od n) := by omega
                  go_wp2
                  go_roundg (N - (n + 1))
                  case measure => go_light; omega
                  case rel =>
                    go_light
                    exact ⟨n + 1, by omega, rfl, by go_num, hb, HRY.out.congr (fun x _ => by rw [lastAt_end]), HN.out⟩
        · obtain rfl : n = N := by omega
          go_wp2
          go_ret
          exact ⟨true, rfl, ⟨fun _ => HA.out, fun _ => rfl⟩, hB⟩

end Go.Proofs.Qxb6000570a
