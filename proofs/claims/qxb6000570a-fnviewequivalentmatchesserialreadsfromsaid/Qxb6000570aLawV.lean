/-
  THE WALK of the law 'FnViewEquivalentMatchesSerialReadsFrom', behind its tests on lengths.
-/
import Derived.Test.Qxb6000570aBytes
import Derived.Test.Qxb6000570aZV
namespace Go.Proofs.Qxb6000570a
open Go.RowKit

theorem Reads.congr {w : World} {a : Option Addr} {n : Nat} {f f' : Nat → Value} (h : Reads w a n f) (e : ∀ i, i < n → f i = f' i) : Reads w a n f' := by
  obtain ⟨b, o, h1, h2⟩ := h
  exact ⟨b, o, h1, fun i hi => by rw [← e i hi]; exact h2 i hi⟩

/-- The graph of the arguments. -/
def mkG (it fw fr : Nat → Int) (L : Nat → Nat) (R : Nat → Nat → Int) (od : Nat → Int) : G := ⟨fun a => (it a).toNat, fw, fr, L, fun u i => (R u i).toNat, fun k => (od k).toNat⟩

/-- A cell of a slice, in whatever world holds what w holds. -/
theorem Reads.at {w w' : World} {b o n : Nat} {f : Nat → Value} (h : Reads w (some ⟨b, o, none⟩) n f) (hb : Below w.heap.size w w') {i : Nat} (hi : i < n) : w'.cell? ⟨b, o + i, none⟩ = some (f i) := by
  obtain ⟨b1, o1, q, v⟩ := h.below hb
  obtain ⟨e, _⟩ := q (by omega)
  injection e with e
  injection e with e1 e2
  subst e1 e2
  exact v i hi

theorem Reads.some_of {w : World} {a : Option Addr} {n : Nat} {f : Nat → Value} (h : Reads w a n f) (hn : 0 < n) : ∃ b o, a = some ⟨b, o, none⟩ := by
  obtain ⟨b, o, q, _⟩ := h
  exact ⟨b, o, (q hn).1⟩

theorem last_write {g : G} {k x : Nat} (h : wr g (g.od k) x = true) : last g (k + 1) x = (g.od k : Int) := by rw [last, if_pos h]
theorem last_skip {g : G} {k x : Nat} (h : wr g (g.od k) x = false) : last g (k + 1) x = last g k x := by rw [last, if_neg (by rw [h]; simp)]

set_option maxRecDepth 100000 in
set_option maxHeartbeats 16000000 in
theorem lateV_any (a1 a2 a3 a4 a5 : Option Addr) (nI m n2 n3 T N c1 c2 c3 c4 c5 : Nat) (it fw fr : Nat → Int) (A : Nat → Option Addr) (L C : Nat → Nat) (R : Nat → Nat → Int) (od : Nat → Int) (w : World)
    (l0 : nI ≤ 16384) (l1 : m ≤ 65536) (l2 : n2 ≤ 65536) (l3 : n3 ≤ 65536) (l4 : T ≤ 65536) (l5 : N ≤ 4096)
    (p1 : a1 = none → m = 0 ∧ c1 = 0) (p2 : a2 = none → n2 = 0 ∧ c2 = 0) (p3 : a3 = none → n3 = 0 ∧ c3 = 0) (p4 : a4 = none → T = 0 ∧ c4 = 0) (p5 : a5 = none → N = 0 ∧ c5 = 0) (pA : ∀ u, u < T → A u = none → L u = 0 ∧ C u = 0)
    (h1 : Reads w a1 m (fun i => .int .i64 (it i))) (h2 : Reads w a2 n2 (fun i => .int .i64 (fw i))) (h3 : Reads w a3 n3 (fun i => .int .i64 (fr i))) (h4 : Adj w a4 T A L C R) (h5 : Reads w a5 N (fun i => .int .i64 (od i))) :
    Calls Try.prog 9 #[.int .i64 nI, .slice a1 m c1, .slice a2 n2 c2, .slice a3 n3 c3, .slice a4 T c4, .slice a5 N c5] w (RetTrue w) := by
  have d0 : decide ((65536 : Int) < (m : Int)) = false := decide_eq_false (by omega)
  have d1 : decide ((65536 : Int) < (n2 : Int)) = false := decide_eq_false (by omega)
  have d2 : decide ((65536 : Int) < (n3 : Int)) = false := decide_eq_false (by omega)
  have d3 : decide ((65536 : Int) < (T : Int)) = false := decide_eq_false (by omega)
  have d4 : decide ((4096 : Int) < (N : Int)) = false := decide_eq_false (by omega)
  have d5 : decide ((nI : Int) < 0) = false := decide_eq_false (by omega)
  have d6 : decide ((16384 : Int) < (nI : Int)) = false := decide_eq_false (by omega)
  go_enter Try.func9, Try.ntmps9
  go_wp2_with fail
  refine (bytes34_any a1 a2 a3 a4 a5 m n2 n3 T N c1 c2 c3 c4 c5 nI A L C w h4.top).mono ?_
  rintro e w1 ⟨b, rfl, rfl⟩
  cases b
  · go_wp2
    go_ret
    exact ⟨rfl, Below.refl _ _⟩
  go_wp2_with fail
  refine (shape_any a1 a2 a3 a4 a5 nI m n2 n3 T N c1 c2 c3 c4 c5 it A L C R od w l0 l1 l2 l3 l4 l5 h1 h4 h5).mono ?_
  rintro e w1 ⟨b, rfl, rfl, hsh⟩
  cases b
  · go_wp2
    go_ret
    exact ⟨rfl, Below.refl _ _⟩
  obtain ⟨rfl, rfl, hL, hit, hR, hod⟩ := hsh rfl
  clear hsh
  have HR : Hid (InR (mkG it fw fr L R od) nI n3 T N) := ⟨l0, l1, l4, l5, hL, fun a ha => by have := hit a ha; show (it a).toNat < nI; omega, fun u hu i hi => by have := hR u hu i hi; show (R u i).toNat < n3; omega, fun k hk => by have := hod k hk; show (od k).toNat < T; omega⟩
  obtain ⟨g, hg⟩ : ∃ g, g = mkG it fw fr L R od := ⟨_, rfl⟩
  have g1 : Reads w a1 n3 (fun i => .int .i64 (g.it i : Nat)) := h1.congr (fun i hi => by have := hit i hi; rw [hg]; show Value.int _ _ = Value.int _ ((it i).toNat : Int); rw [Int.toNat_of_nonneg this.1])
  have g2 : Reads w a2 n3 (fun i => .int .i64 (g.fw i)) := h2.congr (fun i hi => by rw [hg]; rfl)
  have g3 : Reads w a3 n3 (fun i => .int .i64 (g.fr i)) := h3.congr (fun i hi => by rw [hg]; rfl)
  have g5 : Reads w a5 N (fun i => .int .i64 (g.od i : Nat)) := h5.congr (fun i hi => by have := hod i hi; rw [hg]; show Value.int _ _ = Value.int _ ((od i).toNat : Int); rw [Int.toNat_of_nonneg this.1])
  have g4 : Adj w a4 T A g.L C (fun u i => (g.R u i : Nat)) := by
    have eL : g.L = L := by rw [hg]; rfl
    rw [eL]
    exact ⟨h4.top, fun u hu => (h4.row u hu).congr (fun i hi => by have := hR u hu i hi; rw [hg]; show Value.int _ _ = Value.int _ ((R u i).toNat : Int); rw [Int.toNat_of_nonneg this.1])⟩
  have HR' : Hid (InR g nI n3 T N) := by rw [hg]; exact HR
  have pA' : ∀ u, u < T → A u = none → g.L u = 0 ∧ C u = 0 := by rw [hg]; exact pA
  clear HR h1 h2 h3 h4 h5 hL hit hR hod pA hg
  clear d0 d1 d2 d3 d4 d5 d6
  go_wp2_with fail
  refine (load_any a4 a5 T N c4 c5 A g.L C g.od w (by omega) g4.top g5 HR'.out.od).mono ?_
  rintro e w1 ⟨t, rfl, rfl⟩
  by_cases ht : 4096 < t
  · go_wp2
    go_ret
    exact ⟨rfl, Below.refl _ _⟩
  have htd : decide (4096 < t) = false := decide_eq_false ht
  go_wp2_with fail
  refine ((cloneInts_any a1 n3 c1 (fun i => (g.it i : Nat)) w (by omega) g1 p1).mono (fun _ _ h => h.reads)).mono ?_
  rintro e w1 ⟨x1, e1, rfl, b1, r1⟩
  replace g2 := g2.below b1
  replace g3 := g3.below b1
  replace g4 := g4.below b1
  replace g5 := g5.below b1
  clear htd ht
  go_wp2_with fail
  refine ((cloneInts_any a2 n3 c2 (fun i => (g.fw i)) w1 (by omega) g2 p2).mono (fun _ _ h => h.reads)).mono ?_
  rintro e w2 ⟨x2, e2, rfl, b2, r2⟩
  have B2 : Below w.heap.size w w2 := b1.trans (b2.mono b1.size)
  replace r1 := r1.below b2
  replace g3 := g3.below b2
  replace g4 := g4.below b2
  replace g5 := g5.below b2
  clear b1 b2 g1 g2
  go_wp2_with fail
  refine ((cloneInts_any a3 n3 c3 (fun i => (g.fr i)) w2 (by omega) g3 p3).mono (fun _ _ h => h.reads)).mono ?_
  rintro e w3 ⟨x3, e3, rfl, b3, r3⟩
  have B3 : Below w.heap.size w w3 := B2.trans (b3.mono B2.size)
  replace r1 := r1.below b3
  replace r2 := r2.below b3
  replace g4 := g4.below b3
  replace g5 := g5.below b3
  clear B2 b3 g3
  go_wp2_with fail
  refine (cloneAdj_any a4 T c4 A g.L C (fun u i => (g.R u i : Nat)) w3 (by omega) (fun u hu => by have := HR'.out.lL u hu; omega) g4 p4 pA').mono ?_
  rintro e w4 ⟨x4, e4, A', C', rfl, b4, r4⟩
  have B4 : Below w.heap.size w w4 := B3.trans (b4.mono B3.size)
  replace r1 := r1.below b4
  replace r2 := r2.below b4
  replace r3 := r3.below b4
  replace g5 := g5.below b4
  clear B3 b4 g4
  go_wp2_with fail
  refine ((cloneInts_any a5 N c5 (fun i => (g.od i : Nat)) w4 (by omega) g5 p5).mono (fun _ _ h => h.reads)).mono ?_
  rintro e w5 ⟨x5, e5, rfl, b5, r5⟩
  have B5 : Below w.heap.size w w5 := B4.trans (b5.mono B4.size)
  replace r1 := r1.below b5
  replace r2 := r2.below b5
  replace r3 := r3.below b5
  replace r4 := r4.below b5
  clear B4 b5 g5 p1 p2 p3 p4 p5 pA' l2 l3
  go_wp2_with fail
  refine (zv_any g nI n3 T N e1 e2 e3 e4 e5 x1 x2 x3 x4 x5 A' C' w5 HR'.out r1 r2 r3 r4 r5).mono ?_
  rintro e w6 ⟨b, rfl, hbb, b6⟩
  have B6 : Below w.heap.size w w6 := B5.trans (b6.mono B5.size)
  have HBB : Hid (b = true ↔ AllTo g N) := hbb
  have H1 : Hid (Reads w6 x1 n3 (fun i => .int .i64 (g.it i : Nat))) := r1.below b6
  have H2 : Hid (Reads w6 x2 n3 (fun i => .int .i64 (g.fw i))) := r2.below b6
  have H3 : Hid (Reads w6 x3 n3 (fun i => .int .i64 (g.fr i))) := r3.below b6
  have H4 : Hid (Adj w6 x4 T A' g.L C' (fun u i => (g.R u i : Nat))) := r4.below b6
  have H5 : Hid (Reads w6 x5 N (fun i => .int .i64 (g.od i : Nat))) := r5.below b6
  clear B5 b6 r1 r2 r3 r4 r5 hbb
  go_wp2
  go_loopg [14, 15] N (fun gg s t wx => ∃ (k : Nat) (want : Bool), k ≤ N ∧ gg = N - k ∧ s = .bool want ∧ t = .int .i64 k ∧ Below w6.heap.size w6 wx ∧ (want = true → AllTo g k) ∧ (want = false → ¬ AllTo g N))
  case atStart => exact ⟨0, true, Nat.zero_le _, rfl, rfl, rfl, Below.refl _ _, (fun _ j hj => by omega), (fun h => by cases h)⟩
  case round =>
    obtain ⟨k, want, hk, rfl, rfl, rfl, hb, hw1, hw0⟩ := hrel
    by_cases hlt : k < N
    · have hltz : (k : Int) < (N : Int) := by omega
      cases want
      · have HE : Hid (b = false) := by
          have := hw0 rfl
          cases b
          · rfl
          · exact absurd (HBB.out.1 rfl) this
        clear hw1 hw0
        go_wp2
        go_ret
        exact ⟨ret_bool (by rw [HE.out]; rfl), B6.trans (hb.mono B6.size)⟩
      have HA : Hid (AllTo g k) := hw1 rfl
      clear hw1 hw0
      have hu := HR'.out.od k hlt
      have huz : (g.od k : Int) < (T : Int) := by omega
      have hLu := HR'.out.lL _ hu
      have HRu : Hid (∀ i, i < g.L (g.od k) → g.R (g.od k) i < n3) := HR'.out.R _ hu
      obtain ⟨b5, o5, rfl⟩ := H5.out.some_of (by omega)
      obtain ⟨b4, o4, rfl⟩ := H4.out.top.some_of (by omega)
      have t5 := H5.out.at hb hlt
      have t4 := H4.out.top.at hb hu
      have HROW : Hid (Reads w6 (A' (g.od k)) (g.L (g.od k)) (fun i => .int .i64 (g.R (g.od k) i : Nat))) := H4.out.row _ hu
      obtain ⟨Au, hAu⟩ : ∃ Au, Au = A' (g.od k) := ⟨_, rfl⟩
      obtain ⟨Cu, hCu⟩ : ∃ Cu, Cu = C' (g.od k) := ⟨_, rfl⟩
      rw [← hAu] at t4 HROW
      rw [← hCu] at t4
      clear hAu hCu
      go_wp2
      go_loopg [14, 17] (g.L (g.od k)) (fun gg s t wx => ∃ i : Nat, i ≤ g.L (g.od k) ∧ gg = g.L (g.od k) - i ∧ s = .bool true ∧ t = .int .i64 i ∧ Below w6.heap.size w6 wx ∧ ∀ i', i' < i → OK g k i')
      case atStart => exact ⟨0, Nat.zero_le _, rfl, rfl, rfl, hb, (fun j hj => by omega)⟩
      case round =>
        clear hb t5 t4
        obtain ⟨i, hi, rfl, rfl, rfl, hb, hok⟩ := hrel
        have HK : Hid (∀ i', i' < i → OK g k i') := hok
        clear hok
        by_cases hil : i < g.L (g.od k)
        · have hilz : (i : Int) < (g.L (g.od k) : Int) := by omega
          have hr := HRu.out i hil
          obtain ⟨br, or, rfl⟩ := HROW.out.some_of (by omega)
          obtain ⟨b1, o1, rfl⟩ := H1.out.some_of (by omega)
          obtain ⟨b2, o2, rfl⟩ := H2.out.some_of (by omega)
          obtain ⟨b3, o3, rfl⟩ := H3.out.some_of (by omega)
          have tr := HROW.out.at hb hil
          have t3 := H3.out.at hb hr
          have HOK : Hid (OK g k i ↔ (g.fr (g.R (g.od k) i) = -2 ∨ g.fr (g.R (g.od k) i) = last g k (g.it (g.R (g.od k) i)))) := Iff.rfl
          obtain ⟨r, hrr⟩ : ∃ r, r = g.R (g.od k) i := ⟨_, rfl⟩
          rw [← hrr] at tr t3 HOK hr
          have hrz : (r : Int) < (n3 : Int) := by omega
          clear hrr
          by_cases e1 : g.fr r = -2
          · have e1' : (g.fr r == -2) = true := by rw [beq_iff_eq]; exact e1
            have HN : Hid (OK g k i) := HOK.out.2 (Or.inl e1)
            clear HOK
            go_wp2
            go_roundg (g.L (g.od k) - (i + 1))
            case measure => go_light; omega
            case rel =>
              go_light
              refine ⟨i + 1, by omega, rfl, rfl, by go_num, hb, fun i' hi' => ?_⟩
              by_cases e : i' = i
              · subst e; exact HN.out
              · exact HK.out i' (by omega)
          · have e1' : (g.fr r == -2) = false := by rw [beq_eq_false_iff_ne]; exact e1
            have HE1 : Hid (g.fr r ≠ -2) := e1
            clear e1
            go_wp2
            go_loopg [19, 20] k (fun gg s t wx => ∃ j : Int, j + 1 = (gg : Int) ∧ gg ≤ k ∧ s = .int .i64 (-1) ∧ t = .int .i64 j ∧ Below w6.heap.size w6 wx ∧ last g k (g.it r) = last g gg (g.it r))
            case atStart => exact ⟨_, by omega, Nat.le_refl _, rfl, rfl, hb, rfl⟩
            case round =>
              clear hb tr t3
              obtain ⟨j, hj, hgk, rfl, rfl, hb, hlast⟩ := hrel
              have HL : Hid (last g k (g.it r) = last g gk (g.it r)) := hlast
              clear hlast
              have t3 := H3.out.at hb hr
              cases gk with
              | zero =>
                obtain rfl : j = -1 := by omega
                have HX : Hid (last g k (g.it r) = -1) := HL.out
                clear HL hj hgk
                by_cases e2 : g.fr r = -1
                · have e2' : (g.fr r != -1) = false := by rw [bne_eq_false_iff_eq]; exact e2
                  have HN : Hid (OK g k i) := HOK.out.2 (Or.inr (by rw [HX.out]; exact e2))
                  clear HOK e2
                  go_wp2
                  go_roundg (g.L (g.od k) - (i + 1))
                  case measure => go_light; omega
                  case rel =>
                    go_light
                    refine ⟨i + 1, by omega, rfl, rfl, by go_num, hb, fun i' hi' => ?_⟩
                    by_cases e : i' = i
                    · subst e; exact HN.out
                    · exact HK.out i' (by omega)
                · have e2' : (g.fr r != -1) = true := by rw [bne_iff_ne]; exact e2
                  have HN : Hid (¬ AllTo g N) := fun h => (HOK.out.1 (h k hlt i hil)).elim HE1.out (fun h => e2 (by rw [← HX.out]; exact h))
                  clear HOK e2
                  go_wp2
                  go_roundg (N - (k + 1))
                  case measure => go_light; omega
                  case rel =>
                    go_light
                    exact ⟨k + 1, false, by omega, rfl, rfl, by go_num, hb, (fun h => by cases h), (fun _ => HN.out)⟩
              | succ q =>
                obtain rfl : j = (q : Int) := by omega
                have hq : q < N := by omega
                have hqz : (q : Int) < (N : Int) := by omega
                have hv := HR'.out.od q hq
                have hvz : (g.od q : Int) < (T : Int) := by omega
                have t5 := H5.out.at hb hq
                have t4 := H4.out.top.at hb hv
                have t1 := H1.out.at hb hr
                have HNC : Hid (∀ n, Calls Try.prog 36 #[.slice (A' (g.od q)) (g.L (g.od q)) (C' (g.od q)), .slice (some ⟨b1, o1, none⟩) n3 e1, .slice (some ⟨b2, o2, none⟩) n3 e2, .int .i64 (g.it r : Nat)] (wr.drewN n) fun e w' => e = .returned (.bool (Go.Proofs.Qxb6000570a.wr g (g.od q) (g.it r))) ∧ w' = wr.drewN n) := fun n =>
                  node_any g (g.od q) (g.it r) n3 _ _ _ _ _ _ _ (by have := HR'.out.lL _ hv; omega) (((H4.out.row _ hv).below hb).below (below_drewN' _ _)) ((H1.out.below hb).below (below_drewN' _ _)) ((H2.out.below hb).below (below_drewN' _ _)) (HR'.out.R _ hv)
                have HW : Hid ((Go.Proofs.Qxb6000570a.wr g (g.od q) (g.it r) = true → last g k (g.it r) = (g.od q : Int)) ∧ (Go.Proofs.Qxb6000570a.wr g (g.od q) (g.it r) = false → last g k (g.it r) = last g q (g.it r))) :=
                  ⟨fun h => HL.out.trans (last_write h), fun h => HL.out.trans (last_skip h)⟩
                generalize Go.Proofs.Qxb6000570a.wr g (g.od q) (g.it r) = bb at HNC HW
                clear HL hj
                go_wp2
                go_quiet ((go_at_call 36; exact Calls.quiet_of_same (HNC.out _)))
                replace hb := hb.trans ((below_drewN' wr nq).mono hb.size)
                clear HNC
                cases bb
                · have HX := HW.out.2 rfl
                  have HX' : Hid (last g k (g.it r) = last g q (g.it r)) := HX
                  clear HX HW
                  go_wp2
                  go_roundg q
                  case measure => go_light; omega
                  case rel =>
                    go_light
                    exact ⟨(q : Int) - 1, by omega, by omega, rfl, by go_num, hb, HX'.out⟩
                · have HX' : Hid (last g k (g.it r) = (g.od q : Int)) := HW.out.1 rfl
                  clear HW
                  by_cases e2 : g.fr r = (g.od q : Int)
                  · have e2' : (g.fr r != (g.od q : Int)) = false := by rw [bne_eq_false_iff_eq]; exact e2
                    have HN : Hid (OK g k i) := HOK.out.2 (Or.inr (by rw [HX'.out]; exact e2))
                    clear HOK e2
                    go_wp2
                    go_roundg (g.L (g.od k) - (i + 1))
                    case measure => go_light; omega
                    case rel =>
                      go_light
                      refine ⟨i + 1, by omega, rfl, rfl, by go_num, hb, fun i' hi' => ?_⟩
                      by_cases e : i' = i
                      · subst e; exact HN.out
                      · exact HK.out i' (by omega)
                  · have e2' : (g.fr r != (g.od q : Int)) = true := by rw [bne_iff_ne]; exact e2
                    have HN : Hid (¬ AllTo g N) := fun h => (HOK.out.1 (h k hlt i hil)).elim HE1.out (fun h => e2 (by rw [← HX'.out]; exact h))
                    clear HOK e2
                    go_wp2
                    go_roundg (N - (k + 1))
                    case measure => go_light; omega
                    case rel =>
                      go_light
                      exact ⟨k + 1, false, by omega, rfl, rfl, by go_num, hb, (fun h => by cases h), (fun _ => HN.out)⟩
        · obtain rfl : i = g.L (g.od k) := by omega
          have HN : Hid (AllTo g (k + 1)) := HA.out.step HK.out
          go_wp2
          go_roundg (N - (k + 1))
          case measure => go_light; omega
          case rel =>
            go_light
            exact ⟨k + 1, true, by omega, rfl, rfl, by go_num, hb, (fun _ => HN.out), (fun h => by cases h)⟩
    · obtain rfl : k = N := by omega
      have HE : Hid ((b == want) = true) := by
        cases want
        · have := hw0 rfl
          cases b
          · rfl
          · exact absurd (HBB.out.1 rfl) this
        · rw [HBB.out.2 (hw1 rfl)]; rfl
      clear hw1 hw0
      go_wp2
      go_ret
      exact ⟨ret_bool HE.out, B6.trans (hb.mono B6.size)⟩

end Go.Proofs.Qxb6000570a
