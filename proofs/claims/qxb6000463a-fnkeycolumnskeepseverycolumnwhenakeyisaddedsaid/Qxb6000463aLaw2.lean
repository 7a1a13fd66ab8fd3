/-
  THE WALK of the law 'FnKeyColumnsKeepsEveryColumnWhenAKeyIsAdded'.
-/
import Derived.Test.Qxb6000463aZ21
import Derived.Test.Qxb6000463aOKA
import Derived.Test.Qxb6000463aSame
import Derived.Test.Qxb6000463aAdd
import Derived.Test.Qxb6000463aKC2
import Derived.Deep.RegionLawGrows
import Derived.Deep.RegionHeld3
import Derived.Deep.CutRange
namespace Go.Proofs.Qxb6000463a
open Go.RowKit

theorem Bd_of {t : Td} (hz : Zd t) (ho : Od t) : Bd t := ⟨ho.nc, ho.nu, fun u hu => ⟨(hz.key u hu).1, ho.key u hu⟩⟩

theorem one_kcells {t : Td} {m : Tm} {c : Cd} {s : ByteArray} (h1 : (m.cv 0).oneCell' = true) (h2 : (m.dv 0).oneCell' = true) : ∀ v ∈ kcells t m c s, v.oneCell' = true := by
  intro v hv
  simp only [kcells, tcells, ccells, collCells, List.mem_append, List.mem_cons, List.not_mem_nil, or_false] at hv
  rcases hv with (hv | hv) | hv
  · rcases hv with rfl | rfl | rfl | rfl | rfl | rfl | rfl | rfl | rfl | rfl | rfl | rfl | rfl | rfl | rfl <;> first | rfl | assumption
  · rcases hv with rfl | rfl | rfl | rfl | rfl | rfl | rfl | rfl | rfl | rfl | rfl | rfl | rfl | rfl | rfl | rfl <;> rfl
  · rcases hv with rfl | rfl | rfl | rfl <;> rfl

theorem CatAt.one {w : World} {p TB N NC : Nat} {ts : Nat → Td} {ms : Nat → Tm} (h : CatAt w p TB N NC ts ms) {i : Nat} (hi : i < N) : ((ms i).cv 0).oneCell' = true ∧ ((ms i).dv 0).oneCell' = true := by
  obtain ⟨_, _, _, _, e1, e2, _⟩ := ((h.tab i hi).key 0 (by omega)).1
  rw [e1, e2]
  exact ⟨rfl, rfl⟩

theorem lC_mem {t : Td} {m : Tm} {x : Kc} : ∀ {j}, x ∈ lC t m j → x.m = m
  | 0, h => by cases h
  | j + 1, h => by
    unfold lC at h
    rcases List.mem_append.1 h with h | h
    · exact lC_mem h
    · unfold l1 at h
      cases e : t.fs (t.col j).nm with
      | none => rw [e] at h; cases h
      | some s => rw [e] at h; rw [List.mem_singleton.1 h]
theorem lT_mem {ts : Nat → Td} {ms : Nat → Tm} {x : Kc} : ∀ {N}, x ∈ lT ts ms N → ∃ i, i < N ∧ x.m = ms i
  | 0, h => by cases h
  | N + 1, h => by
    unfold lT at h
    rcases List.mem_append.1 h with h | h
    · obtain ⟨i, hi, e⟩ := lT_mem h
      exact ⟨i, by omega, e⟩
    · exact ⟨N, by omega, lC_mem h⟩

theorem own_mono {w : World} {b b' e sz n : Nat} {v : Value} {xs : List Value} (h : w.ownsRow b e sz v n xs) (hb : b' ≤ b) : w.ownsRow b' e sz v n xs := by
  obtain ⟨h1, h2 | ⟨g, cap, cur, hv, hbg, h3⟩⟩ := h
  · exact ⟨h1, Or.inl h2⟩
  · exact ⟨h1, Or.inr ⟨g, cap, cur, hv, Nat.le_trans hb hbg, h3⟩⟩

theorem keyCells_old {w : World} {lo : Nat} {t : Td} {m : Tm} (h : TRest w lo t m) : ∀ j u, (keyCells (fun u => m.cv (u + 1)) (fun u => m.dv (u + 1)) t.nu)[j]? = some u → w.cell? ⟨m.ub, j, none⟩ = some u := by
  intro j u hj
  have hl : j < t.nu * 2 := by have := (List.getElem?_eq_some_iff.1 hj).1; rwa [keyCells_length] at this
  have hm : j = j / 2 * 2 ∨ j = j / 2 * 2 + 1 := by omega
  rcases hm with e | e
  · rw [e, keyCells_at0 _ _ (by omega)] at hj
    rw [e, (h.uni (j / 2) (by omega)).1]; exact hj
  · rw [e, keyCells_at1 _ _ (by omega)] at hj
    rw [e, (h.uni (j / 2) (by omega)).2]; exact hj

set_option maxRecDepth 100000 in
set_option maxHeartbeats 16000000 in
set_option linter.unusedSimpArgs false in
theorem law2_any (a : Option Addr) (N c b0 o0 : Nat) (ts : Nat → Td) (is : Nat → Ti) (kk : Int) (v1 v2 : Value) (k : Kd) (w : World) (ha : 0 < N → a = some ⟨b0, o0, none⟩) (hin : ∀ i, i < N → TIn w b0 (o0 + i * 7) (ts i) (is i)) (hk : KeyIn w v1 v2 k) :
    Calls Try.prog 6 #[.slice a N c, .int .i64 kk, .agg #[v1, v2]] w (RetTrue w) := by
  have HK : Hid (KeyIn w v1 v2 k) := hk
  obtain ⟨ka, kc, ka', kc', rfl, rfl, hrd1, hrd2, hsz⟩ := hk
  have HRD1 : Hid (Reads w ka k.n (fun i => .string (k.col i))) := hrd1
  have HRD2 : Hid (Reads w ka' k.m (fun i => .string (k.co i))) := hrd2
  obtain ⟨W, hW⟩ : ∃ W, W = w.alloc (.cells #[.slice ka k.n kc, .slice ka' k.m kc'] 59) := ⟨_, rfl⟩
  have bW : Below w.heap.size w W := by rw [hW]; exact (Below.refl _ _).alloc (Nat.le_refl _) _
  have lW : w.heap.size < W.heap.size := by rw [hW]; simp
  have HG : Hid (W.rangeAt w.heap.size 0 [.slice ka k.n kc, .slice ka' k.m kc']) := by rw [hW]; exact range_new w 59 _
  have HW : Hid (W = w.alloc (.cells #[.slice ka k.n kc, .slice ka' k.m kc'] 59)) := hW
  have HIN : Hid (∀ i, i < N → TIn w b0 (o0 + i * 7) (ts i) (is i)) := hin
  have g0 : W.cell? ⟨w.heap.size, 0, none⟩ = some (.slice ka k.n kc) := HG.out 0 _ rfl
  have g1 : W.cell? ⟨w.heap.size, 1, none⟩ = some (.slice ka' k.m kc') := HG.out 1 _ rfl
  obtain ⟨i69, hi, hz0, hz1, hz2⟩ := info_parts Try.info69
  clear hin hW hrd1 hrd2 hsz
  go_enter Try.func6, Try.ntmps6
  go_upto_region 1 with fail
  rw [← HW.out]
  go_wp2_with fail
  refine (z21_any a N c b0 o0 ts is kk _ _ k W ha (fun i hi => (HIN.out i hi).below bW) (HK.out.below bW)).mono ?_
  rintro e w1 ⟨b, rfl, b1, hb⟩
  have bw1 := bW.trans (b1.mono bW.size)
  cases b with
  | false =>
    go_wp2
    go_ret
    exact ⟨rfl, bw1⟩
  | true =>
  obtain ⟨hN, hz, hkn, hkm⟩ := hb rfl
  have HZ : Hid (∀ i, i < N → Zd (ts i)) := hz
  clear hb hz g0 g1 HW
  have g0 : w1.cell? ⟨w.heap.size, 0, none⟩ = some (.slice ka k.n kc) := by rw [b1.cell (p := ⟨w.heap.size, 0, none⟩) lW]; exact HG.out 0 _ rfl
  have g1 : w1.cell? ⟨w.heap.size, 1, none⟩ = some (.slice ka' k.m kc') := by rw [b1.cell (p := ⟨w.heap.size, 1, none⟩) lW]; exact HG.out 1 _ rfl
  go_wp2_with fail
  refine (oka_any a N c b0 o0 ts is kk _ _ k w1 hN ha (fun i hi => (HIN.out i hi).below bw1) HZ.out hkn hkm (HK.out.below bw1)).mono ?_
  rintro e w2 ⟨b, rfl, b2, hb⟩
  have bW2 := b1.trans (b2.mono b1.size)
  have bw2 := bW.trans (bW2.mono bW.size)
  cases b with
  | false =>
    go_wp2
    go_ret
    exact ⟨rfl, bw2⟩
  | true =>
  obtain ⟨hN4, ho, hk4, hkmn, hk0, hk1⟩ := hb rfl
  have HO : Hid (∀ i, i < N → Od (ts i)) := ho
  have HMN : Hid (k.m = k.n) := hkmn
  have HBD : Hid (∀ i, i < N → Bd (ts i)) := fun i hi => Bd_of (HZ.out i hi) (HO.out i hi)
  obtain ⟨q, rfl⟩ : ∃ q : Nat, kk = (q : Int) := ⟨kk.toNat, by omega⟩
  have hqz : (q : Int) < (N : Int) := hk1
  have hq : q < N := by omega
  obtain rfl := ha (by omega)
  clear hb ho g0 g1 hkmn ha b1 b2 hk0 hk1
  go_wp2_with fail
  refine (kcat2_any _ N c b0 o0 ts is w2 hN4 (fun _ => rfl) (fun i hi => (HIN.out i hi).below bw2) HBD.out).mono ?_
  rintro e w3 ⟨p0, TB0, ms0, rfl, b3, hcat, _⟩
  have HCAT : Hid (CatAt w3 p0 TB0 N N ts ms0) := hcat
  have bW3 := bW2.trans (b3.mono bW2.size)
  have bw3 := bW.trans (bW3.mono bW.size)
  clear hcat b3
  go_wp2_with fail
  refine (kc2_any p0 TB0 N N ts ms0 w3 hN4 (fun i hi => ⟨(HBD.out i hi).nc, Nat.le_trans (HBD.out i hi).nu (by decide)⟩) HCAT.out).mono ?_
  rintro e w4 ⟨vB, rfl, b4, hown⟩
  have HLB : Hid (KList w4 vB (lT ts ms0 N)) := KList_of hown
  have HOB : Hid (∀ i, i < N → ((ms0 i).cv 0).oneCell' = true ∧ ((ms0 i).dv 0).oneCell' = true) := fun i hi => HCAT.out.one hi
  obtain ⟨ba, bc, ev⟩ := HLB.out.len
  rw [← (lT_out ts ms0 N).2] at ev
  subst ev
  have bW4 := bW3.trans (b4.mono bW3.size)
  have bw4 := bW.trans (bW4.mono bW.size)
  clear hown b4 HCAT
  go_wp2_with fail
  refine (kcat2_any _ N c b0 o0 ts is w4 hN4 (fun _ => rfl) (fun i hi => (HIN.out i hi).below bw4) HBD.out).mono ?_
  rintro e w5 ⟨p, TB, ms, rfl, b5, hcat, hS, hT, hp, hTB⟩
  have HCAT : Hid (CatAt w5 p TB N N ts ms) := hcat
  have HS : Hid (SRow w5 TB 72 15 N (fun x => tcells (ts x) (ms x))) := hS
  have HT : Hid (∀ x, x < N → TRest2 w5 (TB + 1) (ts x) (ms x)) := hT
  have bW5 := bW4.trans (b5.mono bW4.size)
  have bw5 := bW.trans (bW5.mono bW.size)
  have lkb : w.heap.size < w5.heap.size := Nat.lt_of_lt_of_le lW bW5.size
  have g0 : w5.cell? ⟨w.heap.size, 0, none⟩ = some (.slice ka k.n kc) := by rw [bW5.cell (p := ⟨w.heap.size, 0, none⟩) lW]; exact HG.out 0 _ rfl
  have g1 : w5.cell? ⟨w.heap.size, 1, none⟩ = some (.slice ka' k.m kc') := by rw [bW5.cell (p := ⟨w.heap.size, 1, none⟩) lW]; exact HG.out 1 _ rfl
  have g2 := hcat.top
  have lp := hcat.lp
  have lTB := hS.lt
  have g3 : w5.cell? ⟨TB, q * 15 + 10, none⟩ = some (.slice (some ⟨(ms q).ub, 0, none⟩) (ts q).nu (ms q).uc) := hS.range hq rfl 10 _ rfl
  have f3 := World.rowIs.frozen hS (q * 15 + 10)
  have huc := (hT q hq).uc
  have lub := (hT q hq).l2.2
  have hnu := (HBD.out q hq).nu
  have HOLD : Hid (∀ j u, (keyCells (fun u => (ms q).cv (u + 1)) (fun u => (ms q).dv (u + 1)) (ts q).nu)[j]? = some u → w5.cell? ⟨(ms q).ub, j, none⟩ = some u) := keyCells_old (hT q hq).toTRest
  have HKI : Hid (KeyIn w5 (.slice ka k.n kc) (.slice ka' k.m kc') k) := HK.out.below bw5
  have hTw : ¬ TB = w.heap.size := by have := bW4.size; omega
  have hTp : ¬ TB = p := by omega
  have HUC : Hid ((ms q).uc = (ts q).nu) := huc
  have b45 : Below w4.heap.size w4 w5 := b5
  clear hcat hS hT b5 huc
  go_upto_region 7 with fail
  go_cut [8] from 33 to 51 (fun s wx => s = .pointer (some ⟨p, 0, none⟩) ∧ Below w4.heap.size w4 wx ∧ ∃ ms', CatAt wx p TB N N (upd ts q (addKey (ts q) k)) ms')
  case first =>
    refine wp_region_held_drew (S := (fun w' => w'.cell? ⟨w.heap.size, 0, none⟩ = some (.slice ka k.n kc) ∧ w'.cell? ⟨w.heap.size, 1, none⟩ = some (.slice ka' k.m kc') ∧ w'.cell? ⟨p, 0, none⟩ = some (.slice (some ⟨TB, 0, none⟩) N N))) (by kernel_rfl) ⟨g0, g1, g2⟩ (fun hHeld => ?_)
    refine wpAnyH_take (i := 0) (oi := _) (v := ?_) rfl (by kernel_rfl) (by kernel_rfl) (by kernel_rfl) (fun _ _ _ h => h) (Or.inl ⟨by rfl, ?_⟩) (by assumption) ?_
    rotate_left 1
    · intro w hSw
      try dsimp only at hSw
      first | (go_simp; done) | (go_simp; with_reducible rfl)
    try simp only [Act.put, List.setIfInBounds_toArray, List.set_cons_zero, List.set_cons_succ]
    refine wpAnyH_take (i := 1) (oi := _) (v := ?_) rfl (by kernel_rfl) (by kernel_rfl) (by kernel_rfl) (fun _ _ _ h => h) (Or.inl ⟨by rfl, ?_⟩) (by assumption) ?_
    rotate_left 1
    · intro w hSw
      try dsimp only at hSw
      first | (go_simp; done) | (go_simp; with_reducible rfl)
    try simp only [Act.put, List.setIfInBounds_toArray, List.set_cons_zero, List.set_cons_succ]
    refine wpAnyH_take (i := 2) (oi := _) (v := ?_) rfl (by kernel_rfl) (by kernel_rfl) (by kernel_rfl) (fun _ _ _ h => h) (Or.inl ⟨by rfl, ?_⟩) (by assumption) ?_
    rotate_left 1
    · intro w hSw
      try dsimp only at hSw
      first | (go_simp; done) | (go_simp; with_reducible rfl)
    try simp only [Act.put, List.setIfInBounds_toArray, List.set_cons_zero, List.set_cons_succ]
    refine wpAnyH_take (i := 3) (oi := _) (v := ?_) rfl (by kernel_rfl) (by kernel_rfl) (by kernel_rfl) (fun _ _ _ h => h) (Or.inl ⟨by rfl, ?_⟩) (by assumption) ?_
    rotate_left 1
    · intro w hSw
      try dsimp only at hSw
      first | (go_simp; done) | (go_simp; with_reducible rfl)
    try simp only [Act.put, List.setIfInBounds_toArray, List.set_cons_zero, List.set_cons_succ]
    refine wpAnyH_take (i := 4) (oi := _) (v := ?_) rfl (by kernel_rfl) (by kernel_rfl) (by kernel_rfl) (fun _ _ _ h => h) (Or.inl ⟨by rfl, ?_⟩) (by assumption) ?_
    rotate_left 1
    · intro w hSw
      try dsimp only at hSw
      first | (go_simp; done) | (go_simp; with_reducible rfl)
    try simp only [Act.put, List.setIfInBounds_toArray, List.set_cons_zero, List.set_cons_succ]
    refine wpAnyH_take (i := 5) (oi := _) (v := ?_) rfl (by kernel_rfl) (by kernel_rfl) (by kernel_rfl) (fun _ _ _ h => h) (Or.inl ⟨by rfl, ?_⟩) (by assumption) ?_
    rotate_left 1
    · intro w hSw
      try dsimp only at hSw
      first | (go_simp; done) | (go_simp; with_reducible rfl)
    try simp only [Act.put, List.setIfInBounds_toArray, List.set_cons_zero, List.set_cons_succ]
    refine wpAnyH_take (i := 6) (oi := _) (v := ?_) rfl (by kernel_rfl) (by kernel_rfl) (by kernel_rfl) (fun _ _ _ h => h) (Or.inl ⟨by rfl, ?_⟩) (by assumption) ?_
    rotate_left 1
    · intro w hSw
      try dsimp only at hSw
      first | (go_simp; done) | (go_simp; with_reducible rfl)
    try simp only [Act.put, List.setIfInBounds_toArray, List.set_cons_zero, List.set_cons_succ]
    refine wpAnyH_take (i := 7) (oi := _) (v := ?_) rfl (by kernel_rfl) (by kernel_rfl) (by kernel_rfl) (fun _ _ _ h => h) (Or.inl ⟨by rfl, ?_⟩) (by assumption) ?_
    rotate_left 1
    · intro w hSw
      try dsimp only at hSw
      first | (go_simp; done) | (go_simp; with_reducible rfl)
    try simp only [Act.put, List.setIfInBounds_toArray, List.set_cons_zero, List.set_cons_succ]
    refine wpAnyH_take (i := 8) (oi := _) (v := ?_) rfl (by kernel_rfl) (by kernel_rfl) (by kernel_rfl) (fun _ _ _ h => h) (Or.inl ⟨by rfl, ?_⟩) (by assumption) ?_
    rotate_left 1
    · intro w hSw
      try dsimp only at hSw
      first | (go_simp; done) | (go_simp; with_reducible rfl)
    try simp only [Act.put, List.setIfInBounds_toArray, List.set_cons_zero, List.set_cons_succ]
    refine wpAnyH_take (i := 9) (oi := _) (v := ?_) rfl (by kernel_rfl) (by kernel_rfl) (by kernel_rfl) (fun _ _ _ h => h) (Or.inl ⟨by rfl, ?_⟩) (by assumption) ?_
    rotate_left 1
    · intro w hSw
      try dsimp only at hSw
      first | (go_simp; done) | (go_simp; with_reducible rfl)
    try simp only [Act.put, List.setIfInBounds_toArray, List.set_cons_zero, List.set_cons_succ]
    refine wpAnyH_take (i := 10) (oi := _) (v := ?_) rfl (by kernel_rfl) (by kernel_rfl) (by kernel_rfl) (fun _ _ _ h => h) (Or.inl ⟨by rfl, ?_⟩) (by assumption) ?_
    rotate_left 1
    · intro w hSw
      try dsimp only at hSw
      first | (go_simp; done) | (go_simp; with_reducible rfl)
    try simp only [Act.put, List.setIfInBounds_toArray, List.set_cons_zero, List.set_cons_succ]
    refine wpAnyH_take (i := 11) (oi := _) (v := ?_) rfl (by kernel_rfl) (by kernel_rfl) (by kernel_rfl) (fun _ _ _ h => h) (Or.inl ⟨by rfl, ?_⟩) (by assumption) ?_
    rotate_left 1
    · intro w hSw
      try dsimp only at hSw
      first | (go_simp; done) | (go_simp; with_reducible rfl)
    try simp only [Act.put, List.setIfInBounds_toArray, List.set_cons_zero, List.set_cons_succ]
    refine wpAnyH_take (i := 13) (oi := _) (v := ?_) rfl (by kernel_rfl) (by kernel_rfl) (by kernel_rfl) (fun _ _ _ h => h) (Or.inl ⟨by rfl, ?_⟩) (by assumption) ?_
    rotate_left 1
    · intro w hSw
      try dsimp only at hSw
      first | (go_simp; done) | (go_simp; with_reducible rfl)
    try simp only [Act.put, List.setIfInBounds_toArray, List.set_cons_zero, List.set_cons_succ]
    refine wpAnyH_ready (rs := [12, 14]) (by kernel_rfl) (by simp) ?_
    refine AllReadyH.cons (o := _) rfl (fun K hK => ?_) ?_
    · go_simp
      refine hK.out _ _ (by assumption) (fun hHeld => ?_)
      clear hK K
      try simp only [Act.put, List.setIfInBounds_toArray, List.set_cons_zero, List.set_cons_succ]
      refine wpAnyH_ready (rs := [14]) (by kernel_rfl) (by simp) ?_
      refine AllReadyH.cons (o := _) rfl (fun K hK => ?_) AllReadyH.nil
      go_simp
      refine (kkey_any _ _ k _ hkn hkm (HKI.out.below (Below.drew (Below.refl _ _)))).mono ?_
      rintro e w6 ⟨c1, d1, rfl, b6, hk6⟩
      have y0 : w6.cell? ⟨w.heap.size, 0, none⟩ = some (.slice ka k.n kc) := by rw [b6.cell (p := ⟨w.heap.size, 0, none⟩) lkb]; exact g0
      have y1 : w6.cell? ⟨w.heap.size, 1, none⟩ = some (.slice ka' k.m kc') := by rw [b6.cell (p := ⟨w.heap.size, 1, none⟩) lkb]; exact g1
      have y2 : w6.cell? ⟨p, 0, none⟩ = some (.slice (some ⟨TB, 0, none⟩) N N) := by rw [b6.cell (p := ⟨p, 0, none⟩) lp]; exact g2
      have y3 : w6.cell? ⟨TB, q * 15 + 10, none⟩ = some (.slice (some ⟨(ms q).ub, 0, none⟩) (ts q).nu (ms q).uc) := by rw [b6.cell (p := ⟨TB, q * 15 + 10, none⟩) lTB]; exact g3
      have y4 : w6.frozen? ⟨TB, q * 15 + 10, none⟩ = false := by rw [b6.frozen (p := ⟨TB, q * 15 + 10, none⟩) lTB]; exact f3
      have s6 : w5.heap.size ≤ w6.heap.size := b6.size
      have HK6 : Hid (KeyAtB w6 w5.heap.size c1 d1 k) := hk6
      have HB6 : Hid (Below w5.heap.size w5 w6) := (Below.drew (Below.refl _ _)).trans b6
      obtain ⟨kb1, kb2, kc1, kc2, _, _, ek1, ek2, _⟩ := hk6
      subst ek1 ek2
      clear b6
      try go_wp2_with fail
      refine hK.out _ _ (⟨y0, y1, y2⟩) (fun hHeld => ?_)
      clear hK K
      try simp only [Act.put, List.setIfInBounds_toArray, List.set_cons_zero, List.set_cons_succ]
      refine wpAnyH_ready (rs := [15]) (by kernel_rfl) (by simp) ?_
      refine AllReadyH.cons (o := _) rfl (fun K hK => ?_) AllReadyH.nil
      go_simp
      refine hK.out _ _ (⟨by rw [World.cell?_alloc_past _ _ _ (Nat.lt_of_lt_of_le lkb s6)]; exact y0, by rw [World.cell?_alloc_past _ _ _ (Nat.lt_of_lt_of_le lkb s6)]; exact y1, by rw [World.cell?_alloc_past _ _ _ (Nat.lt_of_lt_of_le lp s6)]; exact y2⟩) (fun hHeld => ?_)
      clear hK K
      try simp only [Act.put, List.setIfInBounds_toArray, List.set_cons_zero, List.set_cons_succ]
      refine wpAnyH_ready (rs := [16]) (by kernel_rfl) (by simp) ?_
      refine AllReadyH.cons (o := _) rfl (fun K hK => ?_) AllReadyH.nil
      refine step_append_grows rfl _ _ 70 rfl 69 i69 _ 2 48 Try.underlying70 hi hz0 hz1 hz2 rfl (by decide) (some ⟨(ms q).ub, 0, none⟩) (ts q).nu (ms q).uc (keyCells (fun u => (ms q).cv (u + 1)) (fun u => (ms q).dv (u + 1)) (ts q).nu) (by rfl) (fun h => by cases h) (keyCells_length _ _ _) (fun b hb j u hj => by cases hb; rw [Addr.add_mid, Nat.zero_add, World.cell?_alloc_past _ _ _ (Nat.lt_of_lt_of_le lub s6), HB6.out.cell (p := ⟨(ms q).ub, j, none⟩) lub]; exact HOLD.out j u hj) ⟨w6.heap.size, 0, none⟩ 1 1 [.slice (some ⟨kb1, 0, none⟩) k.n kc1, .slice (some ⟨kb2, 0, none⟩) k.m kc2] (by rfl) (by rfl) (World.news_of_block (cs := #[.slice (some ⟨kb1, 0, none⟩) k.n kc1, .slice (some ⟨kb2, 0, none⟩) k.m kc2]) (t := 69) (fr := (0, 0)) (heap_alloc_new w6 _)) (by simp [Value.oneCell']) (by rw [HUC.out]; omega) (by unfold maxLen; omega) (by omega) ?_
      intro v' w7 hown7 hgrow7
      obtain ⟨g, cap, rfl, hgb, hgl⟩ := hown7.form (by omega)
      have B7 : Below w6.heap.size w6 w7 := ((Below.refl w6.heap.size w6).alloc (Nat.le_refl _) _).grown hgrow7 (by simp) (fun k hk => by cases hk)
      have z0 : w7.cell? ⟨w.heap.size, 0, none⟩ = some (.slice ka k.n kc) := by rw [B7.cell (p := ⟨w.heap.size, 0, none⟩) (Nat.lt_of_lt_of_le lkb s6)]; exact y0
      have z1 : w7.cell? ⟨w.heap.size, 1, none⟩ = some (.slice ka' k.m kc') := by rw [B7.cell (p := ⟨w.heap.size, 1, none⟩) (Nat.lt_of_lt_of_le lkb s6)]; exact y1
      have z2 : w7.cell? ⟨p, 0, none⟩ = some (.slice (some ⟨TB, 0, none⟩) N N) := by rw [B7.cell (p := ⟨p, 0, none⟩) (Nat.lt_of_lt_of_le lp s6)]; exact y2
      have z3 : w7.cell? ⟨TB, q * 15 + 10, none⟩ = some (.slice (some ⟨(ms q).ub, 0, none⟩) (ts q).nu (ms q).uc) := by rw [B7.cell (p := ⟨TB, q * 15 + 10, none⟩) (Nat.lt_of_lt_of_le lTB s6)]; exact y3
      have z4 : w7.frozen? ⟨TB, q * 15 + 10, none⟩ = false := by rw [B7.frozen (p := ⟨TB, q * 15 + 10, none⟩) (Nat.lt_of_lt_of_le lTB s6)]; exact y4
      have HB7 : Hid (Below w6.heap.size w6 w7) := B7
      have HO7 : Hid (w7.ownsRow w6.heap.size 69 2 (.slice (some ⟨g, 0, none⟩) ((ts q).nu + 1) cap) ((ts q).nu + 1) (keyCells (fun u => (ms q).cv (u + 1)) (fun u => (ms q).dv (u + 1)) (ts q).nu ++ [.slice (some ⟨kb1, 0, none⟩) k.n kc1, .slice (some ⟨kb2, 0, none⟩) k.m kc2])) := own_mono hown7 (by simp)
      clear B7 hown7 hgrow7 y0 y1 y2 y3 y4
      refine hK.out _ _ (⟨z0, z1, z2⟩) (fun hHeld => ?_)
      clear hK K
      try simp only [Act.put, List.setIfInBounds_toArray, List.set_cons_zero, List.set_cons_succ]
      refine wpAnyH_take (i := 17) (oi := _) (v := ?_) rfl (by kernel_rfl) (by kernel_rfl) (by kernel_rfl) (fun _ _ _ h => h) (Or.inl ⟨by rfl, ?_⟩) (by assumption) ?_
      rotate_left 1
      · intro w hSw
        try dsimp only at hSw
        first | (go_simp; done) | (go_simp; with_reducible rfl)
      try simp only [Act.put, List.setIfInBounds_toArray, List.set_cons_zero, List.set_cons_succ]
      refine wpAnyH_take (i := 18) (oi := _) (v := ?_) rfl (by kernel_rfl) (by kernel_rfl) (by kernel_rfl) (fun _ _ _ h => h) (Or.inl ⟨by rfl, ?_⟩) (by assumption) ?_
      rotate_left 1
      · intro w hSw
        try dsimp only at hSw
        first | (go_simp; done) | (go_simp; with_reducible rfl)
      try simp only [Act.put, List.setIfInBounds_toArray, List.set_cons_zero, List.set_cons_succ]
      refine wpAnyH_ready (rs := [19]) (by kernel_rfl) (by simp) ?_
      refine AllReadyH.cons (o := _) rfl (fun K hK => ?_) AllReadyH.nil
      go_simp
      refine hK.out _ _ (⟨by rw [World.cell?_setCell_other _ _ _ _ (fun e => hTw (congrArg Addr.block e))]; exact z0, by rw [World.cell?_setCell_other _ _ _ _ (fun e => hTw (congrArg Addr.block e))]; exact z1, by rw [World.cell?_setCell_other _ _ _ _ (fun e => hTp (congrArg Addr.block e))]; exact z2⟩) (fun hHeld => ?_)
      clear hK K
      try simp only [Act.put, List.setIfInBounds_toArray, List.set_cons_zero, List.set_cons_succ]
      refine wpAnyH_done (by kernel_rfl) ?_ _
      go_wp2
      go_meet
      refine ⟨rfl, ?_, _, cat_added hq HCAT.out HS.out HT.out hp HB6.out HK6.out HMN.out HB7.out HO7.out⟩
      exact (b45.trans ((HB6.out.trans (HB7.out.mono HB6.out.size)).mono b45.size)).setCell hTB _
    refine AllReadyH.cons (o := _) rfl (fun K hK => ?_) AllReadyH.nil
    go_simp
    refine (kkey_any _ _ k _ hkn hkm (HKI.out.below (Below.drew (Below.refl _ _)))).mono ?_
    rintro e w6 ⟨c1, d1, rfl, b6, hk6⟩
    have y0 : w6.cell? ⟨w.heap.size, 0, none⟩ = some (.slice ka k.n kc) := by rw [b6.cell (p := ⟨w.heap.size, 0, none⟩) lkb]; exact g0
    have y1 : w6.cell? ⟨w.heap.size, 1, none⟩ = some (.slice ka' k.m kc') := by rw [b6.cell (p := ⟨w.heap.size, 1, none⟩) lkb]; exact g1
    have y2 : w6.cell? ⟨p, 0, none⟩ = some (.slice (some ⟨TB, 0, none⟩) N N) := by rw [b6.cell (p := ⟨p, 0, none⟩) lp]; exact g2
    have y3 : w6.cell? ⟨TB, q * 15 + 10, none⟩ = some (.slice (some ⟨(ms q).ub, 0, none⟩) (ts q).nu (ms q).uc) := by rw [b6.cell (p := ⟨TB, q * 15 + 10, none⟩) lTB]; exact g3
    have y4 : w6.frozen? ⟨TB, q * 15 + 10, none⟩ = false := by rw [b6.frozen (p := ⟨TB, q * 15 + 10, none⟩) lTB]; exact f3
    have s6 : w5.heap.size ≤ w6.heap.size := b6.size
    have HK6 : Hid (KeyAtB w6 w5.heap.size c1 d1 k) := hk6
    have HB6 : Hid (Below w5.heap.size w5 w6) := (Below.drew (Below.refl _ _)).trans b6
    obtain ⟨kb1, kb2, kc1, kc2, _, _, ek1, ek2, _⟩ := hk6
    subst ek1 ek2
    clear b6
    try go_wp2_with fail
    refine hK.out _ _ (⟨y0, y1, y2⟩) (fun hHeld => ?_)
    clear hK K
    try simp only [Act.put, List.setIfInBounds_toArray, List.set_cons_zero, List.set_cons_succ]
    refine wpAnyH_ready (rs := [12, 15]) (by kernel_rfl) (by simp) ?_
    refine AllReadyH.cons (o := _) rfl (fun K hK => ?_) ?_
    · go_simp
      refine hK.out _ _ (by assumption) (fun hHeld => ?_)
      clear hK K
      try simp only [Act.put, List.setIfInBounds_toArray, List.set_cons_zero, List.set_cons_succ]
      refine wpAnyH_ready (rs := [15]) (by kernel_rfl) (by simp) ?_
      refine AllReadyH.cons (o := _) rfl (fun K hK => ?_) AllReadyH.nil
      go_simp
      refine hK.out _ _ (⟨by rw [World.cell?_alloc_past _ _ _ (Nat.lt_of_lt_of_le lkb s6)]; exact y0, by rw [World.cell?_alloc_past _ _ _ (Nat.lt_of_lt_of_le lkb s6)]; exact y1, by rw [World.cell?_alloc_past _ _ _ (Nat.lt_of_lt_of_le lp s6)]; exact y2⟩) (fun hHeld => ?_)
      clear hK K
      try simp only [Act.put, List.setIfInBounds_toArray, List.set_cons_zero, List.set_cons_succ]
      refine wpAnyH_ready (rs := [16]) (by kernel_rfl) (by simp) ?_
      refine AllReadyH.cons (o := _) rfl (fun K hK => ?_) AllReadyH.nil
      refine step_append_grows rfl _ _ 70 rfl 69 i69 _ 2 48 Try.underlying70 hi hz0 hz1 hz2 rfl (by decide) (some ⟨(ms q).ub, 0, none⟩) (ts q).nu (ms q).uc (keyCells (fun u => (ms q).cv (u + 1)) (fun u => (ms q).dv (u + 1)) (ts q).nu) (by rfl) (fun h => by cases h) (keyCells_length _ _ _) (fun b hb j u hj => by cases hb; rw [Addr.add_mid, Nat.zero_add, World.cell?_alloc_past _ _ _ (Nat.lt_of_lt_of_le lub s6), HB6.out.cell (p := ⟨(ms q).ub, j, none⟩) lub]; exact HOLD.out j u hj) ⟨w6.heap.size, 0, none⟩ 1 1 [.slice (some ⟨kb1, 0, none⟩) k.n kc1, .slice (some ⟨kb2, 0, none⟩) k.m kc2] (by rfl) (by rfl) (World.news_of_block (cs := #[.slice (some ⟨kb1, 0, none⟩) k.n kc1, .slice (some ⟨kb2, 0, none⟩) k.m kc2]) (t := 69) (fr := (0, 0)) (heap_alloc_new w6 _)) (by simp [Value.oneCell']) (by rw [HUC.out]; omega) (by unfold maxLen; omega) (by omega) ?_
      intro v' w7 hown7 hgrow7
      obtain ⟨g, cap, rfl, hgb, hgl⟩ := hown7.form (by omega)
      have B7 : Below w6.heap.size w6 w7 := ((Below.refl w6.heap.size w6).alloc (Nat.le_refl _) _).grown hgrow7 (by simp) (fun k hk => by cases hk)
      have z0 : w7.cell? ⟨w.heap.size, 0, none⟩ = some (.slice ka k.n kc) := by rw [B7.cell (p := ⟨w.heap.size, 0, none⟩) (Nat.lt_of_lt_of_le lkb s6)]; exact y0
      have z1 : w7.cell? ⟨w.heap.size, 1, none⟩ = some (.slice ka' k.m kc') := by rw [B7.cell (p := ⟨w.heap.size, 1, none⟩) (Nat.lt_of_lt_of_le lkb s6)]; exact y1
      have z2 : w7.cell? ⟨p, 0, none⟩ = some (.slice (some ⟨TB, 0, none⟩) N N) := by rw [B7.cell (p := ⟨p, 0, none⟩) (Nat.lt_of_lt_of_le lp s6)]; exact y2
      have z3 : w7.cell? ⟨TB, q * 15 + 10, none⟩ = some (.slice (some ⟨(ms q).ub, 0, none⟩) (ts q).nu (ms q).uc) := by rw [B7.cell (p := ⟨TB, q * 15 + 10, none⟩) (Nat.lt_of_lt_of_le lTB s6)]; exact y3
      have z4 : w7.frozen? ⟨TB, q * 15 + 10, none⟩ = false := by rw [B7.frozen (p := ⟨TB, q * 15 + 10, none⟩) (Nat.lt_of_lt_of_le lTB s6)]; exact y4
      have HB7 : Hid (Below w6.heap.size w6 w7) := B7
      have HO7 : Hid (w7.ownsRow w6.heap.size 69 2 (.slice (some ⟨g, 0, none⟩) ((ts q).nu + 1) cap) ((ts q).nu + 1) (keyCells (fun u => (ms q).cv (u + 1)) (fun u => (ms q).dv (u + 1)) (ts q).nu ++ [.slice (some ⟨kb1, 0, none⟩) k.n kc1, .slice (some ⟨kb2, 0, none⟩) k.m kc2])) := own_mono hown7 (by simp)
      clear B7 hown7 hgrow7 y0 y1 y2 y3 y4
      refine hK.out _ _ (⟨z0, z1, z2⟩) (fun hHeld => ?_)
      clear hK K
      try simp only [Act.put, List.setIfInBounds_toArray, List.set_cons_zero, List.set_cons_succ]
      refine wpAnyH_take (i := 17) (oi := _) (v := ?_) rfl (by kernel_rfl) (by kernel_rfl) (by kernel_rfl) (fun _ _ _ h => h) (Or.inl ⟨by rfl, ?_⟩) (by assumption) ?_
      rotate_left 1
      · intro w hSw
        try dsimp only at hSw
        first | (go_simp; done) | (go_simp; with_reducible rfl)
      try simp only [Act.put, List.setIfInBounds_toArray, List.set_cons_zero, List.set_cons_succ]
      refine wpAnyH_take (i := 18) (oi := _) (v := ?_) rfl (by kernel_rfl) (by kernel_rfl) (by kernel_rfl) (fun _ _ _ h => h) (Or.inl ⟨by rfl, ?_⟩) (by assumption) ?_
      rotate_left 1
      · intro w hSw
        try dsimp only at hSw
        first | (go_simp; done) | (go_simp; with_reducible rfl)
      try simp only [Act.put, List.setIfInBounds_toArray, List.set_cons_zero, List.set_cons_succ]
      refine wpAnyH_ready (rs := [19]) (by kernel_rfl) (by simp) ?_
      refine AllReadyH.cons (o := _) rfl (fun K hK => ?_) AllReadyH.nil
      go_simp
      refine hK.out _ _ (⟨by rw [World.cell?_setCell_other _ _ _ _ (fun e => hTw (congrArg Addr.block e))]; exact z0, by rw [World.cell?_setCell_other _ _ _ _ (fun e => hTw (congrArg Addr.block e))]; exact z1, by rw [World.cell?_setCell_other _ _ _ _ (fun e => hTp (congrArg Addr.block e))]; exact z2⟩) (fun hHeld => ?_)
      clear hK K
      try simp only [Act.put, List.setIfInBounds_toArray, List.set_cons_zero, List.set_cons_succ]
      refine wpAnyH_done (by kernel_rfl) ?_ _
      go_wp2
      go_meet
      refine ⟨rfl, ?_, _, cat_added hq HCAT.out HS.out HT.out hp HB6.out HK6.out HMN.out HB7.out HO7.out⟩
      exact (b45.trans ((HB6.out.trans (HB7.out.mono HB6.out.size)).mono b45.size)).setCell hTB _
    refine AllReadyH.cons (o := _) rfl (fun K hK => ?_) AllReadyH.nil
    go_simp
    refine hK.out _ _ (⟨by rw [World.cell?_alloc_past _ _ _ (Nat.lt_of_lt_of_le lkb s6)]; exact y0, by rw [World.cell?_alloc_past _ _ _ (Nat.lt_of_lt_of_le lkb s6)]; exact y1, by rw [World.cell?_alloc_past _ _ _ (Nat.lt_of_lt_of_le lp s6)]; exact y2⟩) (fun hHeld => ?_)
    clear hK K
    try simp only [Act.put, List.setIfInBounds_toArray, List.set_cons_zero, List.set_cons_succ]
    have y5 : (w6.alloc (.cells #[.slice (some ⟨kb1, 0, none⟩) k.n kc1, .slice (some ⟨kb2, 0, none⟩) k.m kc2] 69)).cell? ⟨TB, q * 15 + 10, none⟩ = some (.slice (some ⟨(ms q).ub, 0, none⟩) (ts q).nu (ms q).uc) := by rw [World.cell?_alloc_past _ _ _ (Nat.lt_of_lt_of_le lTB s6)]; exact y3
    refine wpAnyH_ready (rs := [12]) (by kernel_rfl) (by simp) ?_
    refine AllReadyH.cons (o := _) rfl (fun K hK => ?_) AllReadyH.nil
    go_simp
    refine hK.out _ _ (by assumption) (fun hHeld => ?_)
    clear hK K
    try simp only [Act.put, List.setIfInBounds_toArray, List.set_cons_zero, List.set_cons_succ]
    clear y5
    refine wpAnyH_ready (rs := [16]) (by kernel_rfl) (by simp) ?_
    refine AllReadyH.cons (o := _) rfl (fun K hK => ?_) AllReadyH.nil
    refine step_append_grows rfl _ _ 70 rfl 69 i69 _ 2 48 Try.underlying70 hi hz0 hz1 hz2 rfl (by decide) (some ⟨(ms q).ub, 0, none⟩) (ts q).nu (ms q).uc (keyCells (fun u => (ms q).cv (u + 1)) (fun u => (ms q).dv (u + 1)) (ts q).nu) (by rfl) (fun h => by cases h) (keyCells_length _ _ _) (fun b hb j u hj => by cases hb; rw [Addr.add_mid, Nat.zero_add, World.cell?_alloc_past _ _ _ (Nat.lt_of_lt_of_le lub s6), HB6.out.cell (p := ⟨(ms q).ub, j, none⟩) lub]; exact HOLD.out j u hj) ⟨w6.heap.size, 0, none⟩ 1 1 [.slice (some ⟨kb1, 0, none⟩) k.n kc1, .slice (some ⟨kb2, 0, none⟩) k.m kc2] (by rfl) (by rfl) (World.news_of_block (cs := #[.slice (some ⟨kb1, 0, none⟩) k.n kc1, .slice (some ⟨kb2, 0, none⟩) k.m kc2]) (t := 69) (fr := (0, 0)) (heap_alloc_new w6 _)) (by simp [Value.oneCell']) (by rw [HUC.out]; omega) (by unfold maxLen; omega) (by omega) ?_
    intro v' w7 hown7 hgrow7
    obtain ⟨g, cap, rfl, hgb, hgl⟩ := hown7.form (by omega)
    have B7 : Below w6.heap.size w6 w7 := ((Below.refl w6.heap.size w6).alloc (Nat.le_refl _) _).grown hgrow7 (by simp) (fun k hk => by cases hk)
    have z0 : w7.cell? ⟨w.heap.size, 0, none⟩ = some (.slice ka k.n kc) := by rw [B7.cell (p := ⟨w.heap.size, 0, none⟩) (Nat.lt_of_lt_of_le lkb s6)]; exact y0
    have z1 : w7.cell? ⟨w.heap.size, 1, none⟩ = some (.slice ka' k.m kc') := by rw [B7.cell (p := ⟨w.heap.size, 1, none⟩) (Nat.lt_of_lt_of_le lkb s6)]; exact y1
    have z2 : w7.cell? ⟨p, 0, none⟩ = some (.slice (some ⟨TB, 0, none⟩) N N) := by rw [B7.cell (p := ⟨p, 0, none⟩) (Nat.lt_of_lt_of_le lp s6)]; exact y2
    have z3 : w7.cell? ⟨TB, q * 15 + 10, none⟩ = some (.slice (some ⟨(ms q).ub, 0, none⟩) (ts q).nu (ms q).uc) := by rw [B7.cell (p := ⟨TB, q * 15 + 10, none⟩) (Nat.lt_of_lt_of_le lTB s6)]; exact y3
    have z4 : w7.frozen? ⟨TB, q * 15 + 10, none⟩ = false := by rw [B7.frozen (p := ⟨TB, q * 15 + 10, none⟩) (Nat.lt_of_lt_of_le lTB s6)]; exact y4
    have HB7 : Hid (Below w6.heap.size w6 w7) := B7
    have HO7 : Hid (w7.ownsRow w6.heap.size 69 2 (.slice (some ⟨g, 0, none⟩) ((ts q).nu + 1) cap) ((ts q).nu + 1) (keyCells (fun u => (ms q).cv (u + 1)) (fun u => (ms q).dv (u + 1)) (ts q).nu ++ [.slice (some ⟨kb1, 0, none⟩) k.n kc1, .slice (some ⟨kb2, 0, none⟩) k.m kc2])) := own_mono hown7 (by simp)
    clear B7 hown7 hgrow7 y0 y1 y2 y3 y4
    refine hK.out _ _ (⟨z0, z1, z2⟩) (fun hHeld => ?_)
    clear hK K
    try simp only [Act.put, List.setIfInBounds_toArray, List.set_cons_zero, List.set_cons_succ]
    refine wpAnyH_take (i := 17) (oi := _) (v := ?_) rfl (by kernel_rfl) (by kernel_rfl) (by kernel_rfl) (fun _ _ _ h => h) (Or.inl ⟨by rfl, ?_⟩) (by assumption) ?_
    rotate_left 1
    · intro w hSw
      try dsimp only at hSw
      first | (go_simp; done) | (go_simp; with_reducible rfl)
    try simp only [Act.put, List.setIfInBounds_toArray, List.set_cons_zero, List.set_cons_succ]
    refine wpAnyH_take (i := 18) (oi := _) (v := ?_) rfl (by kernel_rfl) (by kernel_rfl) (by kernel_rfl) (fun _ _ _ h => h) (Or.inl ⟨by rfl, ?_⟩) (by assumption) ?_
    rotate_left 1
    · intro w hSw
      try dsimp only at hSw
      first | (go_simp; done) | (go_simp; with_reducible rfl)
    try simp only [Act.put, List.setIfInBounds_toArray, List.set_cons_zero, List.set_cons_succ]
    refine wpAnyH_ready (rs := [19]) (by kernel_rfl) (by simp) ?_
    refine AllReadyH.cons (o := _) rfl (fun K hK => ?_) AllReadyH.nil
    go_simp
    refine hK.out _ _ (⟨by rw [World.cell?_setCell_other _ _ _ _ (fun e => hTw (congrArg Addr.block e))]; exact z0, by rw [World.cell?_setCell_other _ _ _ _ (fun e => hTw (congrArg Addr.block e))]; exact z1, by rw [World.cell?_setCell_other _ _ _ _ (fun e => hTp (congrArg Addr.block e))]; exact z2⟩) (fun hHeld => ?_)
    clear hK K
    try simp only [Act.put, List.setIfInBounds_toArray, List.set_cons_zero, List.set_cons_succ]
    refine wpAnyH_done (by kernel_rfl) ?_ _
    go_wp2
    go_meet
    refine ⟨rfl, ?_, _, cat_added hq HCAT.out HS.out HT.out hp HB6.out HK6.out HMN.out HB7.out HO7.out⟩
    exact (b45.trans ((HB6.out.trans (HB7.out.mono HB6.out.size)).mono b45.size)).setCell hTB _
  case rest =>
    obtain ⟨rfl, hb7, ms', hcat'⟩ := hcut
    have HCA : Hid (CatAt wc p TB N N (upd ts q (addKey (ts q) k)) ms') := hcat'
    have HBD' : Hid (∀ i, i < N → (upd ts q (addKey (ts q) k) i).nc ≤ 4096 ∧ (upd ts q (addKey (ts q) k) i).nu ≤ 8192) := fun i hi => by
      by_cases e : i = q
      · subst e
        rw [upd_same]
        exact ⟨(HBD.out i hi).nc, by have := (HBD.out i hi).nu; show (ts i).nu + 1 ≤ 8192; omega⟩
      · rw [upd_other _ _ _ e]
        exact ⟨(HBD.out i hi).nc, by have := (HBD.out i hi).nu; omega⟩
    clear hcat' g0 g1 g2 g3 f3 HOLD HKI HUC HCAT HS HT b45 hTw hTp lp lTB lub lkb bW5 bw5 hp hTB
    go_wp2_with fail
    refine (kc2_any p TB N N (upd ts q (addKey (ts q) k)) ms' wc hN4 HBD'.out HCA.out).mono ?_
    rintro e w8 ⟨vA, rfl, b8, hown8⟩
    have HLA : Hid (KList w8 vA (lT (upd ts q (addKey (ts q) k)) ms' N)) := KList_of hown8
    obtain ⟨aa, ac, ev⟩ := HLA.out.len
    rw [← (lT_out (upd ts q (addKey (ts q) k)) ms' N).2] at ev
    subst ev
    have b48 := hb7.trans (b8.mono hb7.size)
    have HLB8 : Hid (KList w8 (.slice ba (nT ts N) bc) (lT ts ms0 N)) := HLB.out.below b48
    have bW8 := bW4.trans (b48.mono bW4.size)
    have bw8 := bW.trans (bW8.mono bW.size)
    have HOA : Hid (∀ (x : Nat) (A : Kc), (lT (upd ts q (addKey (ts q) k)) ms' N)[x]? = some A → ∀ v ∈ A.cells, v.oneCell' = true) := fun x A hx => by
      obtain ⟨i, hi, em⟩ := lT_mem (List.mem_of_getElem? hx)
      have := HCA.out.one hi
      rw [← em] at this
      exact one_kcells this.1 this.2
    have HINS : Hid (Ins (IsNew (ts q) k) ((lT ts ms0 N).map Kc.vw) ((lT (upd ts q (addKey (ts q) k)) ms' N).map Kc.vw)) := ins_lT ts q k ms0 ms' N
    have HC1 : Hid (¬ NewS (ts q) k → nT (upd ts q (addKey (ts q) k)) N = nT ts N) := fun h => nT_same h ms0 N
    have HC2 : Hid (NewS (ts q) k → nT (upd ts q (addKey (ts q) k)) N = nT ts N + cntC (ts q) (k.col 0) (ts q).nc) := fun h => by rw [nT_add h N, if_pos hq]
    have eB := (lT_out ts ms0 N).2
    have eA := (lT_out (upd ts q (addKey (ts q) k)) ms' N).2
    have lB : nT ts N ≤ 16777216 := by have := nT_le ts (fun i hi => (HBD.out i hi).nc) N (Nat.le_refl _); omega
    have lA : nT (upd ts q (addKey (ts q) k)) N ≤ 16777216 := by have := nT_le _ (fun i hi => (HBD'.out i hi).1) N (Nat.le_refl _); omega
    have HI8 : Hid (TIn w8 b0 (o0 + q * 7) (ts q) (is q)) := (HIN.out q hq).below bw8
    have HKQ : Hid (∀ u, u < 1 + (ts q).nu → ((ts q).key u).m = ((ts q).key u).n) := (HO.out q hq).key
    have hnc := (HBD.out q hq).nc
    have HG8 : Hid (w8.rangeAt w.heap.size 0 [.slice ka k.n kc, .slice ka' k.m kc']) := range_below HG.out bW8 lW
    have lk8 : w.heap.size < w8.heap.size := Nat.lt_of_lt_of_le lW bW8.size
    generalize lT (upd ts q (addKey (ts q) k)) ms' N = LA at HLA HOA HINS eA
    generalize lT ts ms0 N = LB at HLB8 HINS eB
    generalize nT (upd ts q (addKey (ts q) k)) N = nA at *
    generalize nT ts N = nB at *
    have HEA : Hid (nA = LA.length) := eA
    have HEB : Hid (nB = LB.length) := eB
    clear eA eB hown8 b8 hb7 b48 HCA HBD' HLB HOB bW4 bW8 bw4 bw3 bw2 bw1 bW2 bW3 HG HK
    have g0 : w8.cell? ⟨w.heap.size, 0, none⟩ = some (.slice ka k.n kc) := HG8.out 0 _ rfl
    go_upto_if 57 with fail
    go_cut [10, 11] from 54 to 97 (fun s t wx => ∃ (nw : Bool) (ex : Nat), s = .bool nw ∧ t = .int .i64 ex ∧ nA = nB + ex ∧ (nw = true ↔ NewS (ts q) k) ∧ Below w8.heap.size w8 wx)
    case first =>
      obtain ⟨kb1, ko1, kq1, kr1⟩ := HRD1.out
      have HKR1 : Hid (∀ i, i < k.n → w.cell? ⟨kb1, ko1 + i, none⟩ = some (.string (k.col i))) := kr1
      clear kr1
      by_cases hn1 : k.n = 1
      · obtain ⟨rfl, lk1w⟩ := kq1 (by omega)
        have lk1 : kb1 < w8.heap.size := Nat.lt_of_lt_of_le lk1w bw8.size
        have x1 : w8.cell? ⟨kb1, ko1, none⟩ = some (.string (k.col 0)) := by rw [bw8.cell (p := ⟨kb1, ko1, none⟩) lk1w]; exact HKR1.out 0 (by omega)
        have lb0 := HI8.out.lb
        have hnz : (k.n : Int) = 1 := by omega
        have hnzb : ((k.n : Int) == 1) = true := by simp [hn1]
        have HN1 : Hid (k.n = 1) := hn1
        clear hn1 kq1
        have l0 : w8.cell? ⟨b0, o0 + q * 7, none⟩ = some (.string (ts q).sch) := HI8.out.cells 0 _ rfl
        have l1 : w8.cell? ⟨b0, o0 + q * 7 + 1, none⟩ = some (.string (ts q).nm) := HI8.out.cells 1 _ rfl
        have l2 : w8.cell? ⟨b0, o0 + q * 7 + 2, none⟩ = some (.int .u32 (ts q).oid) := HI8.out.cells 2 _ rfl
        have l3 : w8.cell? ⟨b0, o0 + q * 7 + 3, none⟩ = some (.slice (is q).ca (ts q).nc (is q).cc) := HI8.out.cells 3 _ rfl
        have l4 : w8.cell? ⟨b0, o0 + q * 7 + 4, none⟩ = some ((is q).v1) := HI8.out.cells 4 _ rfl
        have l5 : w8.cell? ⟨b0, o0 + q * 7 + 5, none⟩ = some ((is q).v2) := HI8.out.cells 5 _ rfl
        have l6 : w8.cell? ⟨b0, o0 + q * 7 + 6, none⟩ = some (.slice (is q).ua (ts q).nu (is q).uc) := HI8.out.cells 6 _ rfl
        have l7 : w8.cell? ⟨w.heap.size, 0, none⟩ = some (.slice (some ⟨kb1, ko1, none⟩) k.n kc) := g0
        have l8 : w8.cell? ⟨kb1, ko1, none⟩ = some (.string (k.col 0)) := x1
        cases hfs : (ts q).fs (k.col 0) with
        | some s =>
          have H20 : Hid (∀ W', Below w8.heap.size w8 W' → Calls Try.prog 20 #[.agg (icells (ts q) (is q)).toArray, .string (k.col 0)] W' (RetFS W' (some s))) := fun W' b => by
            have := fs_any (ts q) (is q) (k.col 0) W' b0 (o0 + q * 7) (HI8.out.below b) hnu HKQ.out
            rwa [hfs] at this
          have HNS : Hid (¬ NewS (ts q) k) := fun h => by have := h.2; rw [hfs] at this; cases this
          clear hfs
          go_upto_region 12 with fail
          go_region_held3 (fun w' => w'.cell? ⟨b0, o0 + q * 7, none⟩ = some (.string (ts q).sch) ∧ w'.cell? ⟨b0, o0 + q * 7 + 1, none⟩ = some (.string (ts q).nm) ∧ w'.cell? ⟨b0, o0 + q * 7 + 2, none⟩ = some (.int .u32 (ts q).oid) ∧ w'.cell? ⟨b0, o0 + q * 7 + 3, none⟩ = some (.slice (is q).ca (ts q).nc (is q).cc) ∧ w'.cell? ⟨b0, o0 + q * 7 + 4, none⟩ = some ((is q).v1) ∧ w'.cell? ⟨b0, o0 + q * 7 + 5, none⟩ = some ((is q).v2) ∧ w'.cell? ⟨b0, o0 + q * 7 + 6, none⟩ = some (.slice (is q).ua (ts q).nu (is q).uc) ∧ w'.cell? ⟨w.heap.size, 0, none⟩ = some (.slice (some ⟨kb1, ko1, none⟩) k.n kc) ∧ w'.cell? ⟨kb1, ko1, none⟩ = some (.string (k.col 0)))
            (go_keep)
            ((first
              | (go_at_call 20; refine (H20.out _ (Below.drew (Below.refl _ _))).mono ?_; rintro e w9 ⟨rfl, b9⟩; have m0 : w9.cell? ⟨b0, o0 + q * 7, none⟩ = some (.string (ts q).sch) := (by rw [b9.cell (p := ⟨b0, o0 + q * 7, none⟩) lb0]; exact HI8.out.cells 0 _ rfl); have m1 : w9.cell? ⟨b0, o0 + q * 7 + 1, none⟩ = some (.string (ts q).nm) := (by rw [b9.cell (p := ⟨b0, o0 + q * 7 + 1, none⟩) lb0]; exact HI8.out.cells 1 _ rfl); have m2 : w9.cell? ⟨b0, o0 + q * 7 + 2, none⟩ = some (.int .u32 (ts q).oid) := (by rw [b9.cell (p := ⟨b0, o0 + q * 7 + 2, none⟩) lb0]; exact HI8.out.cells 2 _ rfl); have m3 : w9.cell? ⟨b0, o0 + q * 7 + 3, none⟩ = some (.slice (is q).ca (ts q).nc (is q).cc) := (by rw [b9.cell (p := ⟨b0, o0 + q * 7 + 3, none⟩) lb0]; exact HI8.out.cells 3 _ rfl); have m4 : w9.cell? ⟨b0, o0 + q * 7 + 4, none⟩ = some ((is q).v1) := (by rw [b9.cell (p := ⟨b0, o0 + q * 7 + 4, none⟩) lb0]; exact HI8.out.cells 4 _ rfl); have m5 : w9.cell? ⟨b0, o0 + q * 7 + 5, none⟩ = some ((is q).v2) := (by rw [b9.cell (p := ⟨b0, o0 + q * 7 + 5, none⟩) lb0]; exact HI8.out.cells 5 _ rfl); have m6 : w9.cell? ⟨b0, o0 + q * 7 + 6, none⟩ = some (.slice (is q).ua (ts q).nu (is q).uc) := (by rw [b9.cell (p := ⟨b0, o0 + q * 7 + 6, none⟩) lb0]; exact HI8.out.cells 6 _ rfl); have m7 : w9.cell? ⟨w.heap.size, 0, none⟩ = some (.slice (some ⟨kb1, ko1, none⟩) k.n kc) := (by rw [b9.cell (p := ⟨w.heap.size, 0, none⟩) lk8]; exact g0); have m8 : w9.cell? ⟨kb1, ko1, none⟩ = some (.string (k.col 0)) := (by rw [b9.cell (p := ⟨kb1, ko1, none⟩) lk1]; exact x1))))
          go_wp2
          go_meet
          refine ⟨false, 0, rfl, rfl, HC1.out HNS.out, ⟨(fun h => by cases h), fun h => absurd h HNS.out⟩, ?_⟩
          exact (Below.drew (Below.refl _ _)).trans b9
        | none =>
          have H20 : Hid (∀ W', Below w8.heap.size w8 W' → Calls Try.prog 20 #[.agg (icells (ts q) (is q)).toArray, .string (k.col 0)] W' (RetFS W' none)) := fun W' b => by
            have := fs_any (ts q) (is q) (k.col 0) W' b0 (o0 + q * 7) (HI8.out.below b) hnu HKQ.out
            rwa [hfs] at this
          have HNS : Hid (NewS (ts q) k) := ⟨HN1.out, hfs⟩
          clear hfs
          go_upto_region 12 with fail
          go_region_held3 (fun w' => w'.cell? ⟨b0, o0 + q * 7, none⟩ = some (.string (ts q).sch) ∧ w'.cell? ⟨b0, o0 + q * 7 + 1, none⟩ = some (.string (ts q).nm) ∧ w'.cell? ⟨b0, o0 + q * 7 + 2, none⟩ = some (.int .u32 (ts q).oid) ∧ w'.cell? ⟨b0, o0 + q * 7 + 3, none⟩ = some (.slice (is q).ca (ts q).nc (is q).cc) ∧ w'.cell? ⟨b0, o0 + q * 7 + 4, none⟩ = some ((is q).v1) ∧ w'.cell? ⟨b0, o0 + q * 7 + 5, none⟩ = some ((is q).v2) ∧ w'.cell? ⟨b0, o0 + q * 7 + 6, none⟩ = some (.slice (is q).ua (ts q).nu (is q).uc) ∧ w'.cell? ⟨w.heap.size, 0, none⟩ = some (.slice (some ⟨kb1, ko1, none⟩) k.n kc) ∧ w'.cell? ⟨kb1, ko1, none⟩ = some (.string (k.col 0)))
            (go_keep)
            ((first
              | (go_at_call 20; refine (H20.out _ (Below.drew (Below.refl _ _))).mono ?_; rintro e w9 ⟨rfl, b9⟩; have m0 : w9.cell? ⟨b0, o0 + q * 7, none⟩ = some (.string (ts q).sch) := (by rw [b9.cell (p := ⟨b0, o0 + q * 7, none⟩) lb0]; exact HI8.out.cells 0 _ rfl); have m1 : w9.cell? ⟨b0, o0 + q * 7 + 1, none⟩ = some (.string (ts q).nm) := (by rw [b9.cell (p := ⟨b0, o0 + q * 7 + 1, none⟩) lb0]; exact HI8.out.cells 1 _ rfl); have m2 : w9.cell? ⟨b0, o0 + q * 7 + 2, none⟩ = some (.int .u32 (ts q).oid) := (by rw [b9.cell (p := ⟨b0, o0 + q * 7 + 2, none⟩) lb0]; exact HI8.out.cells 2 _ rfl); have m3 : w9.cell? ⟨b0, o0 + q * 7 + 3, none⟩ = some (.slice (is q).ca (ts q).nc (is q).cc) := (by rw [b9.cell (p := ⟨b0, o0 + q * 7 + 3, none⟩) lb0]; exact HI8.out.cells 3 _ rfl); have m4 : w9.cell? ⟨b0, o0 + q * 7 + 4, none⟩ = some ((is q).v1) := (by rw [b9.cell (p := ⟨b0, o0 + q * 7 + 4, none⟩) lb0]; exact HI8.out.cells 4 _ rfl); have m5 : w9.cell? ⟨b0, o0 + q * 7 + 5, none⟩ = some ((is q).v2) := (by rw [b9.cell (p := ⟨b0, o0 + q * 7 + 5, none⟩) lb0]; exact HI8.out.cells 5 _ rfl); have m6 : w9.cell? ⟨b0, o0 + q * 7 + 6, none⟩ = some (.slice (is q).ua (ts q).nu (is q).uc) := (by rw [b9.cell (p := ⟨b0, o0 + q * 7 + 6, none⟩) lb0]; exact HI8.out.cells 6 _ rfl); have m7 : w9.cell? ⟨w.heap.size, 0, none⟩ = some (.slice (some ⟨kb1, ko1, none⟩) k.n kc) := (by rw [b9.cell (p := ⟨w.heap.size, 0, none⟩) lk8]; exact g0); have m8 : w9.cell? ⟨kb1, ko1, none⟩ = some (.string (k.col 0)) := (by rw [b9.cell (p := ⟨kb1, ko1, none⟩) lk1]; exact x1))))
          have b89 : Below w8.heap.size w8 w9 := (Below.drew (Below.refl _ _)).trans b9
          clear b9 m0 m1 m2 m3 m4 m5 m6 m7 m8 l0 l1 l2 l3 l4 l5 l6 H20
          go_wp2
          go_loopg [11, 14] (ts q).nc (fun gg s t wx => ∃ (j e : Nat), j ≤ (ts q).nc ∧ gg = (ts q).nc - j ∧ s = .int .i64 e ∧ t = .int .i64 j ∧ Below w8.heap.size w8 wx ∧ e = cntC (ts q) (k.col 0) j)
          case atStart => exact ⟨0, 0, Nat.zero_le _, rfl, rfl, rfl, b89, rfl⟩
          case round =>
            obtain ⟨j, e, hj, rfl, rfl, rfl, hb, he⟩ := hrel
            have HE : Hid (e = cntC (ts q) (k.col 0) j) := he
            have hel : e ≤ 4096 := by have := cntC_le (ts q) (k.col 0) j; omega
            have c3 : wr.cell? ⟨b0, o0 + q * 7 + 3, none⟩ = some (.slice (is q).ca (ts q).nc (is q).cc) := by rw [hb.cell (p := ⟨b0, o0 + q * 7 + 3, none⟩) lb0]; exact HI8.out.cells 3 _ rfl
            clear he b89
            by_cases hjl : j < (ts q).nc
            · have hjz : (j : Int) < ((ts q).nc : Int) := by omega
              have hI := HI8.out.below hb
              obtain ⟨ec, lc⟩ := hI.ca (by omega)
              have q0 : wr.cell? ⟨(is q).bc, (is q).oc + j * 3, none⟩ = some (.string ((ts q).col j).nm) := (hI.cols j hjl).1 0 _ rfl
              have q1 : wr.cell? ⟨w.heap.size, 0, none⟩ = some (.slice (some ⟨kb1, ko1, none⟩) k.n kc) := by rw [hb.cell (p := ⟨w.heap.size, 0, none⟩) lk8]; exact g0
              have q2 : wr.cell? ⟨kb1, ko1, none⟩ = some (.string (k.col 0)) := by rw [hb.cell (p := ⟨kb1, ko1, none⟩) lk1]; exact x1
              rw [ec] at c3
              have bD := fun n => hb.trans ((below_drewN' wr n).mono hb.size)
              clear hI ec g0 x1 l7 l8
              by_cases hs : ((ts q).col j).nm = k.col 0
              · have hse := str_eq hs
                have HE' : Hid (e + 1 = cntC (ts q) (k.col 0) (j + 1)) := by
                  show e + 1 = cntC (ts q) (k.col 0) j + (if ((ts q).col j).nm = k.col 0 then 1 else 0)
                  rw [if_pos hs, HE.out]
                clear hs
                go_wp2
                go_quiet (fail)
                go_wp2
                go_roundg ((ts q).nc - (j + 1))
                case measure => go_light; omega
                case rel =>
                  go_light
                  exact ⟨j + 1, e + 1, by omega, rfl, by go_num, by go_num, bD _, HE'.out⟩
              · have hse := str_ne hs
                have HE' : Hid (e = cntC (ts q) (k.col 0) (j + 1)) := by
                  show e = cntC (ts q) (k.col 0) j + (if ((ts q).col j).nm = k.col 0 then 1 else 0)
                  rw [if_neg hs, HE.out]; rfl
                clear hs
                go_wp2
                go_quiet (fail)
                go_wp2
                go_roundg ((ts q).nc - (j + 1))
                case measure => go_light; omega
                case rel =>
                  go_light
                  exact ⟨j + 1, e, by omega, rfl, rfl, by go_num, bD _, HE'.out⟩
            · obtain rfl : j = (ts q).nc := by omega
              go_wp2
              go_meet
              exact ⟨true, e, rfl, rfl, by rw [HE.out]; exact HC2.out HNS.out, ⟨fun _ => HNS.out, fun _ => rfl⟩, hb⟩
      · have hnz : ¬ (k.n : Int) = 1 := by omega
        have hnzb : ((k.n : Int) == 1) = false := by simp [hnz]
        have HNS : Hid (¬ NewS (ts q) k) := fun h => hn1 h.1
        clear hn1 kq1
        go_wp2
        go_meet
        exact ⟨false, 0, rfl, rfl, HC1.out HNS.out, ⟨(fun h => by cases h), fun h => absurd h HNS.out⟩, Below.refl _ _⟩
    case rest =>
      obtain ⟨nw, ex, rfl, rfl, hex, hnw, hb9⟩ := hcut
      have HNW : Hid (nw = true ↔ NewS (ts q) k) := hnw
      have d0 : ((nA : Int) != (nB : Int) + (ex : Int)) = false := by simp; omega
      have HST : Hid (St (IsNew (ts q) k) (LB.map Kc.vw) (LA.map Kc.vw) 0 0) := St.start HINS.out
      have hexl : ex ≤ 16777216 := by omega
      clear hnw HINS HC1 HC2 g0 hex
      go_wp2
      clear d0
      go_loopg [15, 16] nA (fun gg s t wx => ∃ (i n : Nat), i ≤ nA ∧ gg = nA - i ∧ s = .int .i64 n ∧ t = .int .i64 i ∧ Below w8.heap.size w8 wx ∧ St (IsNew (ts q) k) (LB.map Kc.vw) (LA.map Kc.vw) i n)
      case atStart => exact ⟨0, 0, Nat.zero_le _, rfl, rfl, rfl, hb9, HST.out⟩
      case round =>
        obtain ⟨i, n, hi, rfl, rfl, rfl, hb, hst⟩ := hrel
        have HS0 : Hid (St (IsNew (ts q) k) (LB.map Kc.vw) (LA.map Kc.vw) i n) := hst
        have hnl : n ≤ nB := by
          obtain ⟨_, _, h, _⟩ := hst
          rw [List.length_map] at h
          have := HEB.out
          omega
        clear hst HST hb9
        by_cases hlt : i < nA
        · have hltz : (i : Int) < (nA : Int) := by omega
          obtain ⟨A, hA⟩ : ∃ A, LA[i]? = some A := ⟨_, List.getElem?_eq_getElem (by have := HEA.out; omega)⟩
          obtain ⟨ga, gc', eg, lg, hrg⟩ := (HLA.out.below hb).at_ i A hA
          injection eg with eg eg2 eg3
          clear eg2 eg3
          subst eg
          have HRA : Hid (wr.rangeAt ga (i * 35) A.cells) := hrg
          have HAO : Hid (∀ v ∈ A.cells, v.oneCell' = true) := HOA.out i A hA
          have HVA : Hid ((LA.map Kc.vw)[i]? = some A.vw) := by show (LA.map Kc.vw)[i]? = some A.vw; simp [hA]
          clear hA hrg
          go_upto_region 27 with (first
            | (refine wpList_load_mid rfl 80 _ rfl ga (i * 35) rfl A.cells _ HRA.out Try.underlying80 rfl size80 ?_)
            | (refine wpList_store_new rfl 80 _ _ rfl wr _ A.cells.toArray rfl rfl rfl size80 (all_oneCell_toArray HAO.out) ?_)
            | fail)
          simp only [Act.put]
          obtain ⟨X, hX⟩ : ∃ X, X = wr.alloc (.cells A.cells.toArray 80) := ⟨_, rfl⟩
          have bX : Below wr.heap.size wr X := by rw [hX]; exact (Below.refl _ _).alloc (Nat.le_refl _) _
          have lG : wr.heap.size < X.heap.size := by rw [hX]; simp
          have HGX : Hid (X.rangeAt wr.heap.size 0 A.cells) := by rw [hX]; exact range_new wr 80 _
          have hbX : Below w8.heap.size w8 X := hb.trans (bX.mono hb.size)
          rw [← hX]
          clear hX bX hb HRA HAO lg
          generalize wr.heap.size = G at *
          obtain ⟨hit, hhit⟩ : ∃ hit : Bool, (hit = true ↔ (LB.map Kc.vw)[n]? = some A.vw) := by classical exact ⟨decide ((LB.map Kc.vw)[n]? = some A.vw), by simp⟩
          have HH : Hid (hit = true ↔ (LB.map Kc.vw)[n]? = some A.vw) := hhit
          clear hhit
          go_cut [126] from 105 to 179 (fun s wx => s = .bool hit ∧ Below X.heap.size X wx)
          case first =>
            by_cases hnB : n < nB
            · have hnz : (n : Int) < (nB : Int) := by omega
              obtain ⟨B, hB⟩ : ∃ B, LB[n]? = some B := ⟨_, List.getElem?_eq_getElem (by have := HEB.out; omega)⟩
              obtain ⟨gb, gc', eg, lgb, hrb⟩ := (HLB8.out.below hbX).at_ n B hB
              injection eg with eg eg2 eg3
              clear eg2 eg3
              subst eg
              have HRB : Hid (X.rangeAt gb (n * 35) B.cells) := hrb
              have HVB : Hid ((LB.map Kc.vw)[n]? = some B.vw) := by show (LB.map Kc.vw)[n]? = some B.vw; simp [hB]
              clear hB hrb
              refine wp_region_held_drew (S := (fun w' => w'.rangeAt gb (n * 35) B.cells ∧ w'.rangeAt G 0 A.cells)) (by kernel_rfl) ⟨HRB.out, HGX.out⟩ (fun hHeld => ?_)
              have HHELD : Hid ((fun w' => w'.rangeAt gb (n * 35) B.cells ∧ w'.rangeAt G 0 A.cells) X.drew) := hHeld
              clear hHeld
              refine wpAnyH_take (i := 0) (oi := _) (v := ?_) rfl (by kernel_rfl) (by kernel_rfl) (by kernel_rfl) (fun _ _ _ h => h) (Or.inl ⟨by kernel_rfl, ?_⟩) HHELD.out ?_
              rotate_left 1
              · intro w hSw
                clear hSw
                first | (go_simp; done) | (go_simp; with_reducible rfl)
              try simp only [Act.put, List.setIfInBounds_toArray, List.set_cons_zero, List.set_cons_succ]
              refine wpAnyH_take (i := 1) (oi := _) (v := ?_) rfl (by kernel_rfl) (by kernel_rfl) (by kernel_rfl) (fun _ _ _ h => h) (Or.inl ⟨by kernel_rfl, ?_⟩) HHELD.out ?_
              rotate_left 1
              · intro w hSw
                clear hSw
                first | (go_simp; done) | (go_simp; with_reducible rfl)
              try simp only [Act.put, List.setIfInBounds_toArray, List.set_cons_zero, List.set_cons_succ]
              refine wpAnyH_take (i := 2) (oi := _) (v := ?_) rfl (by kernel_rfl) (by kernel_rfl) (by kernel_rfl) (fun _ _ _ h => h) (Or.inl ⟨by kernel_rfl, ?_⟩) HHELD.out ?_
              rotate_left 1
              · intro w hSw
                clear hSw
                first | (go_simp; done) | (go_simp; with_reducible rfl)
              try simp only [Act.put, List.setIfInBounds_toArray, List.set_cons_zero, List.set_cons_succ]
              refine wpAnyH_take (i := 3) (oi := _) (v := .bool true) rfl (by kernel_rfl) (by kernel_rfl) (by kernel_rfl) (fun _ _ _ h => h) (Or.inl ⟨by kernel_rfl, ?_⟩) HHELD.out ?_
              · intro w hSw
                clear hSw
                first | (go_simp; done) | (go_simp; with_reducible rfl)
              try simp only [Act.put, List.setIfInBounds_toArray, List.set_cons_zero, List.set_cons_succ]
              refine wpAnyH_take (i := 4) (oi := _) (v := .bool true) rfl (by kernel_rfl) (by kernel_rfl) (by kernel_rfl) (fun _ _ _ h => h) (Or.inl ⟨by kernel_rfl, ?_⟩) HHELD.out ?_
              · intro w hSw
                clear hSw
                first | (go_simp; done) | (go_simp; with_reducible rfl)
              try simp only [Act.put, List.setIfInBounds_toArray, List.set_cons_zero, List.set_cons_succ]
              refine wpAnyH_take (i := 5) (oi := _) (v := ?_) rfl (by kernel_rfl) (by kernel_rfl) (by kernel_rfl) (fun _ _ _ h => h) (Or.inl ⟨by kernel_rfl, ?_⟩) HHELD.out ?_
              rotate_left 1
              · intro w hSw
                clear hSw
                first | (go_simp; done) | (go_simp; with_reducible rfl)
              try simp only [Act.put, List.setIfInBounds_toArray, List.set_cons_zero, List.set_cons_succ]
              refine wpAnyH_take (i := 6) (oi := _) (v := ?_) rfl (by kernel_rfl) (by kernel_rfl) (by kernel_rfl) (fun _ _ _ h => h) (Or.inl ⟨by kernel_rfl, ?_⟩) HHELD.out ?_
              rotate_left 1
              · intro w hSw
                clear hSw
                first | (go_simp; done) | (go_simp; with_reducible rfl)
              try simp only [Act.put, List.setIfInBounds_toArray, List.set_cons_zero, List.set_cons_succ]
              refine wpAnyH_take (i := 7) (oi := _) (v := ?_) rfl (by kernel_rfl) (by kernel_rfl) (by kernel_rfl) (fun _ _ _ h => h) (Or.inl ⟨by kernel_rfl, ?_⟩) HHELD.out ?_
              rotate_left 1
              · intro w hSw
                clear hSw
                first | (go_simp; done) | (go_simp; with_reducible rfl)
              try simp only [Act.put, List.setIfInBounds_toArray, List.set_cons_zero, List.set_cons_succ]
              refine' wpAnyH_take (i := 8) (oi := _) (v := _) rfl (by kernel_rfl) (by kernel_rfl) (by kernel_rfl) (fun _ _ _ h => h) (yieldsIf_load_mid (by kernel_rfl) 80 _ rfl gb (n * 35) ?hx8 B.cells _ (fun w hw => hw.1) Try.underlying80 rfl size80) HHELD.out ?rst8
              case hx8 => simp only [Act.eval]; try simp
              try simp only [Act.put, List.setIfInBounds_toArray, List.set_cons_zero, List.set_cons_succ]
              refine' wpAnyH_take (i := 9) (oi := _) (v := _) rfl (by kernel_rfl) (by kernel_rfl) (by kernel_rfl) (fun _ _ _ h => h) (yieldsIf_load_mid (by kernel_rfl) 80 _ rfl G 0 ?hx9 A.cells _ (fun w hw => hw.2) Try.underlying80 rfl size80) HHELD.out ?rst9
              case hx9 => simp only [Act.eval]; try simp
              try simp only [Act.put, List.setIfInBounds_toArray, List.set_cons_zero, List.set_cons_succ]
              refine wpAnyH_ready (rs := [10]) (by kernel_rfl) (by simp) ?_
              refine AllReadyH.cons (o := _) rfl (fun K hK => ?_) AllReadyH.nil
              go_simp
              refine (same_any B A _).mono ?_
              rintro e w9 ⟨r, rfl, b9, hr⟩
              have HR : Hid (r = true ↔ B.vw = A.vw) := hr
              have HB9 : Hid (Below X.heap.size X w9) := (Below.drew (Below.refl _ _)).trans b9
              clear hr b9
              try go_wp2_with fail
              refine hK.out _ _ ⟨range_below HRB.out HB9.out lgb, range_below HGX.out HB9.out lG⟩ (fun hHeld => ?_)
              have HHELD2 : Hid ((fun w' => w'.rangeAt gb (n * 35) B.cells ∧ w'.rangeAt G 0 A.cells) w9) := hHeld
              clear hK K hHeld
              try simp only [Act.put, List.setIfInBounds_toArray, List.set_cons_zero, List.set_cons_succ]
              refine wpAnyH_take (i := 11) (oi := _) (v := ?_) rfl (by kernel_rfl) (by kernel_rfl) (by kernel_rfl) (fun _ _ _ h => h) (Or.inl ⟨by kernel_rfl, ?_⟩) HHELD2.out ?_
              rotate_left 1
              · intro w hSw
                clear hSw
                first | (go_simp; done) | (go_simp; with_reducible rfl)
              try simp only [Act.put, List.setIfInBounds_toArray, List.set_cons_zero, List.set_cons_succ]
              refine wpAnyH_done (by kernel_rfl) ?_ _
              go_wp2
              go_meet
              refine ⟨congrArg Value.bool (Bool.eq_iff_iff.2 ?_), HB9.out⟩
              rw [HR.out, HH.out, HVB.out]
              exact ⟨fun e => by rw [e], fun e => by injection e⟩
            · have d1 : decide ((n : Int) < (nB : Int)) = false := decide_eq_false (by omega)
              go_quiet (fail)
              go_wp2
              go_meet
              refine ⟨congrArg Value.bool (Bool.eq_iff_iff.2 ?_), below_drewN' X _⟩
              rw [HH.out, List.getElem?_eq_none (by rw [List.length_map]; have := HEB.out; omega)]
              exact ⟨(fun e => by cases e), (fun e => by cases e)⟩
          case rest =>
            obtain ⟨rfl, hbc⟩ := hcut
            have bX9 := hbX.trans (hbc.mono hbX.size)
            cases hit with
            | true =>
              have HSN : Hid (St (IsNew (ts q) k) (LB.map Kc.vw) (LA.map Kc.vw) (i + 1) (n + 1)) := HS0.out.hit HVA.out (HH.out.1 rfl)
              go_wp2
              go_roundg (nA - (i + 1))
              case measure => go_light; omega
              case rel =>
                go_light
                exact ⟨i + 1, n + 1, by omega, rfl, by go_num, by go_num, bX9, HSN.out⟩
            | false =>
              obtain ⟨⟨hns, e1, e2, e3, e4, e5⟩, hsn⟩ := HS0.out.miss HVA.out (fun h => by have := HH.out.2 h; cases this)
              have HSN : Hid (St (IsNew (ts q) k) (LB.map Kc.vw) (LA.map Kc.vw) (i + 1) n) := hsn
              obtain rfl : nw = true := HNW.out.2 hns
              have hn1 : k.n = 1 := hns.1
              have hm1 : k.m = 1 := by rw [HMN.out]; exact hn1
              obtain ⟨kb1, ko1, kq1, kr1⟩ := HRD1.out
              obtain ⟨kb2, ko2, kq2, kr2⟩ := HRD2.out
              obtain ⟨rfl, lk1w⟩ := kq1 (by omega)
              obtain ⟨rfl, lk2w⟩ := kq2 (by omega)
              have bwc := bw8.trans (bX9.mono bw8.size)
              have x1 : wc.cell? ⟨kb1, ko1, none⟩ = some (.string (k.col 0)) := by rw [bwc.cell (p := ⟨kb1, ko1, none⟩) lk1w]; exact kr1 0 (by omega)
              have x2 : wc.cell? ⟨kb2, ko2, none⟩ = some (.string (k.co 0)) := by rw [bwc.cell (p := ⟨kb2, ko2, none⟩) lk2w]; exact kr2 0 (by omega)
              have x3 : wc.cell? ⟨w.heap.size, 0, none⟩ = some (.slice (some ⟨kb1, ko1, none⟩) k.n kc) := by rw [bX9.cell (p := ⟨w.heap.size, 0, none⟩) lk8]; exact HG8.out 0 _ rfl
              have x4 : wc.cell? ⟨w.heap.size, 1, none⟩ = some (.slice (some ⟨kb2, ko2, none⟩) k.m kc') := by rw [bX9.cell (p := ⟨w.heap.size, 1, none⟩) lk8]; exact HG8.out 1 _ rfl
              have hIc := (HI8.out.below bX9).cells
              have c0 : wc.cell? ⟨b0, o0 + q * 7, none⟩ = some (.string (ts q).sch) := hIc 0 _ rfl
              have c1 : wc.cell? ⟨b0, o0 + q * 7 + 1, none⟩ = some (.string (ts q).nm) := hIc 1 _ rfl
              have c2 : wc.cell? ⟨b0, o0 + q * 7 + 2, none⟩ = some (.int .u32 (ts q).oid) := hIc 2 _ rfl
              have hGc := range_below HGX.out hbc lG
              have f1 : A.t.sch = (ts q).sch := e1
              have f2 : A.t.nm = (ts q).nm := e2
              have f3 : A.t.oid = (ts q).oid := e3
              have f4 : A.c.nm = k.col 0 := e4
              have f5 : A.s = k.co 0 := e5
              have k0 : wc.cell? ⟨G, 0, none⟩ = some (.string (ts q).sch) := by rw [← f1]; exact hGc 0 _ rfl
              have k1 : wc.cell? ⟨G, 1, none⟩ = some (.string (ts q).nm) := by rw [← f2]; exact hGc 1 _ rfl
              have k3 : wc.cell? ⟨G, 3, none⟩ = some (.int .u32 (ts q).oid) := by rw [← f3]; exact hGc 3 _ rfl
              have k15 : wc.cell? ⟨G, 15, none⟩ = some (.string (k.col 0)) := by rw [← f4]; exact hGc 15 _ rfl
              have k32 : wc.cell? ⟨G, 32, none⟩ = some (.string (k.co 0)) := by rw [← f5]; exact hGc 32 _ rfl
              have hnz : (0 : Int) < (k.n : Int) := by omega
              have hmz : (0 : Int) < (k.m : Int) := by omega
              have bD := fun a => bX9.trans ((below_drewN' wc a).mono bX9.size)
              clear hns hsn e1 e2 e3 e4 e5 f1 f2 f3 f4 f5 hGc hIc kq1 kq2 kr1 kr2 hn1 hm1 HS0 HVA HH HNW
              go_wp2
              go_quiet (fail)
              go_wp2
              go_quiet (fail)
              go_wp2
              go_roundg (nA - (i + 1))
              case measure => go_light; omega
              case rel =>
                go_light
                exact ⟨i + 1, n, by omega, rfl, rfl, by go_num, bD _, HSN.out⟩
        · obtain rfl : i = nA := by omega
          have hnn : n = nB := by
            have h := HS0.out
            have e := HEA.out
            have e' := HEB.out
            rw [show i = (LA.map Kc.vw).length by rw [List.length_map]; exact e] at h
            have := h.end_
            rw [List.length_map] at this
            omega
          subst hnn
          clear hi hlt hnl
          go_wp2
          go_ret
          exact ⟨ret_bool (by simp), bw8.trans (hb.mono bw8.size)⟩

end Go.Proofs.Qxb6000463a
