/-
  THE WALK of the law 'FnKeyColumnsListsEachSoleKeyColumnOnce'.
-/
import Derived.Test.Qxb6000463aZ16
import Derived.Test.Qxb6000463aOK
import Derived.Test.Qxb6000463aFS
import Derived.Test.Qxb6000463aKCat
import Derived.Test.Qxb6000463aList
namespace Go.Proofs.Qxb6000463a
open Go.RowKit

theorem Bd_of {t : Td} (hz : Zd t) (ho : Od t) : Bd t := ⟨ho.nc, ho.nu, fun u hu => ⟨(hz.key u hu).1, ho.key u hu⟩⟩

theorem one_kcells {t : Td} {m : Tm} {c : Cd} {s : ByteArray} (h1 : (m.cv 0).oneCell' = true) (h2 : (m.dv 0).oneCell' = true) : ∀ v ∈ kcells t m c s, v.oneCell' = true := by
  intro v hv
  simp only [kcells, tcells, ccells, collCells, List.mem_append, List.mem_cons, List.not_mem_nil, or_false] at hv
  rcases hv with (hv | hv) | hv
  · rcases hv with rfl | rfl | rfl | rfl | rfl | rfl | rfl | rfl | rfl | rfl | rfl | rfl | rfl | rfl | rfl <;> first | rfl | assumption
  · rcases hv with rfl | rfl | rfl | rfl | rfl | rfl | rfl | rfl | rfl | rfl | rfl | rfl | rfl | rfl | rfl | rfl <;> rfl
  · rcases hv with rfl | rfl | rfl | rfl <;> rfl

theorem CatAt.one {w : World} {p TB N NC : Nat} {ts : Nat → Td} {ms : Nat → Tm} (h : CatAt w p TB N NC ts ms) {i : Nat} (hi : i < N) : ((ms i).cv 0).oneCell' = true ∧ ((ms i).dv 0).oneCell' = true := by
  obtain ⟨_, _, _, _, e1, e2, _⟩ := ((h.tab i hi).key 0 (by omega)).1
  rw [e1, e2]
  exact ⟨rfl, rfl⟩

theorem nC_none {t : Td} {j : Nat} (h : t.fs (t.col j).nm = none) : nC t (j + 1) = nC t j := by simp [nC, n1, h]
theorem nC_some {t : Td} {j : Nat} {s : ByteArray} (h : t.fs (t.col j).nm = some s) : nC t (j + 1) = nC t j + 1 := by simp [nC, n1, h]

set_option maxRecDepth 100000 in
set_option maxHeartbeats 16000000 in
theorem law1_any (a : Option Addr) (N c b0 o0 : Nat) (ts : Nat → Td) (is : Nat → Ti) (w : World) (ha : 0 < N → a = some ⟨b0, o0, none⟩) (hin : ∀ i, i < N → TIn w b0 (o0 + i * 7) (ts i) (is i)) :
    Calls Try.prog 5 #[.slice a N c] w (RetTrue w) := by
  have HIN : Hid (∀ i, i < N → TIn w b0 (o0 + i * 7) (ts i) (is i)) := hin
  clear hin
  go_enter Try.func5, Try.ntmps5
  go_wp2_with fail
  refine (z16_any a N c b0 o0 ts is w ha HIN.out).mono ?_
  rintro e w1 ⟨b, rfl, bw1, hb⟩
  cases b with
  | false =>
    go_wp2
    go_ret
    exact ⟨rfl, bw1⟩
  | true =>
  obtain ⟨hN, hz⟩ := hb rfl
  have HZ : Hid (∀ i, i < N → Zd (ts i)) := hz
  clear hb hz
  go_wp2_with fail
  refine (ok_any a N c b0 o0 ts is w1 hN ha (fun i hi => (HIN.out i hi).below bw1) HZ.out).mono ?_
  rintro e w2 ⟨b, rfl, bw2, hb⟩
  have bww2 := bw1.trans (bw2.mono bw1.size)
  cases b with
  | false =>
    go_wp2
    go_ret
    exact ⟨rfl, bww2⟩
  | true =>
  obtain ⟨hN4, ho⟩ := hb rfl
  have HO : Hid (∀ i, i < N → Od (ts i)) := ho
  have HBD : Hid (∀ i, i < N → Bd (ts i)) := fun i hi => Bd_of (HZ.out i hi) (HO.out i hi)
  clear hb ho
  go_wp2_with fail
  refine (kcat_any a N c b0 o0 ts is w2 hN4 ha (fun i hi => (HIN.out i hi).below bww2) HBD.out).mono ?_
  rintro e w3 ⟨p, TB, ms, rfl, bw3, hcat⟩
  have HCAT : Hid (CatAt w3 p TB N N ts ms) := hcat
  have bww3 := bww2.trans (bw3.mono bww2.size)
  clear hcat
  go_wp2_with fail
  refine (kc_any p TB N N ts ms w3 hN4 (fun i hi => ⟨(HBD.out i hi).nc, (HBD.out i hi).nu⟩) HCAT.out).mono ?_
  rintro e w4 ⟨v, rfl, bw4, hown⟩
  have hb4 := bww3.trans (bw4.mono bww3.size)
  have HL : Hid (KList w4 v (lT ts ms N)) := KList_of hown
  obtain ⟨ga, gc, ev⟩ := HL.out.len
  rw [← (lT_out ts ms N).2] at ev
  subst ev
  have HI4 : Hid (∀ i, i < N → TIn w4 b0 (o0 + i * 7) (ts i) (is i)) := fun i hi => (HIN.out i hi).below hb4
  have HNT : Hid (∀ i, i ≤ N → nT ts i ≤ i * 4096) := nT_le ts (fun i hi => (HBD.out i hi).nc)
  have HONE : Hid (∀ i, i < N → ((ms i).cv 0).oneCell' = true ∧ ((ms i).dv 0).oneCell' = true) := fun i hi => HCAT.out.one hi
  have hn0 : nT ts N ≤ 16777216 := by have := HNT.out N (Nat.le_refl _); omega
  obtain ⟨n, hn⟩ : ∃ n, n = nT ts N := ⟨_, rfl⟩
  rw [← hn] at HL hn0 ⊢
  have HN : Hid (n = nT ts N) := hn
  clear hn hown bw1 bw2 bw3 bw4 bww2 bww3 HCAT HIN
  go_wp2
  go_loopg [4, 5] N (fun gg s t wx => ∃ (i q : Nat), i ≤ N ∧ gg = N - i ∧ s = .int .i64 q ∧ t = .int .i64 i ∧ Below w4.heap.size w4 wx ∧ q = nT ts i)
  case atStart => exact ⟨0, 0, Nat.zero_le _, rfl, rfl, rfl, Below.refl _ _, rfl⟩
  case round =>
    obtain ⟨i, q, hi, rfl, rfl, rfl, hb, hq⟩ := hrel
    have HQ : Hid (q = nT ts i) := hq
    clear hq
    by_cases hlt : i < N
    · obtain rfl := ha (by omega)
      have hltz : (i : Int) < (N : Int) := by omega
      have hI := (HI4.out i hlt).below hb
      have HI : Hid (TIn wr b0 (o0 + i * 7) (ts i) (is i)) := hI
      have HCELLS : Hid (wr.rangeAt b0 (o0 + i * 7) (icells (ts i) (is i))) := hI.cells
      have HON : Hid (∀ v ∈ icells (ts i) (is i), v.oneCell' = true) := one_icells hI
      obtain ⟨bnc, bnu, bkey⟩ := HO.out i hlt
      have HKB : Hid (∀ u, u < 1 + (ts i).nu → ((ts i).key u).m = ((ts i).key u).n) := bkey
      clear hI bkey
      go_upto_region 11 with (first
        | (refine wpList_load_mid rfl 62 _ rfl b0 (o0 + i * 7) rfl (icells (ts i) (is i)) _ HCELLS.out Try.underlying62 rfl sz62 ?_)
        | (refine wpList_store_new rfl 62 _ _ rfl wr _ (icells (ts i) (is i)).toArray rfl rfl rfl sz62 (all_oneCell_toArray HON.out) ?_)
        | fail)
      simp only [Act.put]
      obtain ⟨X, hX⟩ : ∃ X, X = wr.alloc (.cells (icells (ts i) (is i)).toArray 62) := ⟨_, rfl⟩
      have bX : Below wr.heap.size wr X := by rw [hX]; exact (Below.refl _ _).alloc (Nat.le_refl _) _
      have lkb : wr.heap.size < X.heap.size := by rw [hX]; simp
      have HRG : Hid (X.rangeAt wr.heap.size 0 (icells (ts i) (is i))) := by rw [hX]; exact range_new wr 62 _
      have HIX : Hid (TIn X b0 (o0 + i * 7) (ts i) (is i)) := HI.out.below bX
      have hbX : Below w4.heap.size w4 X := hb.trans (bX.mono hb.size)
      rw [← hX]
      clear hX bX HI hb HCELLS HON
      generalize wr.heap.size = kb at *
      go_wp2
      go_loopg [4, 7] (ts i).nc (fun gg s t wx => ∃ (j q : Nat), j ≤ (ts i).nc ∧ gg = (ts i).nc - j ∧ s = .int .i64 q ∧ t = .int .i64 j ∧ Below X.heap.size X wx ∧ q = nT ts i + nC (ts i) j)
      case atStart => exact ⟨0, q, Nat.zero_le _, rfl, rfl, rfl, Below.refl _ _, HQ.out⟩
      case round =>
        clear HQ
        obtain ⟨j, q, hj, rfl, rfl, rfl, hb, hq⟩ := hrel
        have HQ : Hid (q = nT ts i + nC (ts i) j) := hq
        clear hq
        have k3 : wr.cell? ⟨kb, 3, none⟩ = some (.slice (is i).ca (ts i).nc (is i).cc) := by rw [hb.cell (p := ⟨kb, 3, none⟩) lkb]; exact HRG.out 3 _ rfl
        by_cases hjl : j < (ts i).nc
        · have hjz : (j : Int) < ((ts i).nc : Int) := by omega
          have hI := HIX.out.below hb
          have HI : Hid (TIn wr b0 (o0 + i * 7) (ts i) (is i)) := hI
          obtain ⟨ec, lc⟩ := hI.ca (by omega)
          have hcol := (hI.cols j hjl).1
          have q0 : wr.cell? ⟨(is i).bc, (is i).oc + j * 3, none⟩ = some (.string ((ts i).col j).nm) := hcol 0 _ rfl
          have q1 : wr.cell? ⟨(is i).bc, (is i).oc + j * 3 + 1, none⟩ = some (.int .i64 ((ts i).col j).pos) := hcol 1 _ rfl
          have q2 : wr.cell? ⟨(is i).bc, (is i).oc + j * 3 + 2, none⟩ = some (.string ((ts i).col j).co) := hcol 2 _ rfl
          rw [ec] at k3
          have hqb : q ≤ 33554432 := by
            have h1 := HNT.out i (by omega)
            have h2 := nC_le (ts i) j
            have h3 := HQ.out
            omega
          clear hI ec hcol
          go_upto_region 15 with fail
          obtain ⟨cc, hc⟩ : ∃ c, c = (ts i).col j := ⟨_, rfl⟩
          rw [← hc] at q0 q1 q2 ⊢
          have HC : Hid (cc = (ts i).col j) := hc
          obtain ⟨Y, hY⟩ : ∃ Y, Y = wr.alloc (.cells #[.string cc.nm, .int .i64 cc.pos, .string cc.co] 64) := ⟨_, rfl⟩
          have bY : Below wr.heap.size wr Y := by rw [hY]; exact (Below.refl _ _).alloc (Nat.le_refl _) _
          have lcb : wr.heap.size < Y.heap.size := by rw [hY]; simp
          have HRC : Hid (Y.rangeAt wr.heap.size 0 (kcol cc)) := by rw [hY]; exact range_new wr 64 _
          have hbY : Below X.heap.size X Y := hb.trans (bY.mono hb.size)
          have HRK : Hid (Y.rangeAt kb 0 (icells (ts i) (is i))) := range_below HRG.out hbY lkb
          have HIY : Hid (TIn Y b0 (o0 + i * 7) (ts i) (is i)) := HI.out.below bY
          have e0 : Y.cell? ⟨wr.heap.size, 0, none⟩ = some (.string cc.nm) := HRC.out 0 _ rfl
          rw [← hY]
          clear hY bY HI q0 q1 q2 k3 hb hc
          generalize wr.heap.size = cb at *
          cases hr : (ts i).fs cc.nm with
          | none =>
            have h20 := fs_any (ts i) (is i) cc.nm Y b0 (o0 + i * 7) HIY.out (by omega) HKB.out
            rw [hr] at h20
            have H20 : Hid (Calls Try.prog 20 #[.agg (icells (ts i) (is i)).toArray, .string cc.nm] Y (RetFS Y none)) := h20
            have HQ' : Hid (q = nT ts i + nC (ts i) (j + 1)) := by
              show q = nT ts i + nC (ts i) (j + 1)
              rw [nC_none (by rw [← HC.out]; exact hr)]; exact HQ.out
            clear h20 hr
            go_wp2_with (first
              | (refine wpList_load_mid rfl 62 _ rfl kb 0 rfl (icells (ts i) (is i)) _ HRK.out Try.underlying62 rfl sz62 ?_)
              | fail)
            refine H20.out.mono ?_
            rintro e w5 ⟨rfl, b5⟩
            have hb5 := hbY.trans (b5.mono hbY.size)
            clear H20 b5 e0
            go_wp2
            go_roundg ((ts i).nc - (j + 1))
            case measure => go_light; omega
            case rel =>
              go_light
              exact ⟨j + 1, q, by omega, rfl, rfl, by go_num, hb5, HQ'.out⟩
          | some s =>
            have h20 := fs_any (ts i) (is i) cc.nm Y b0 (o0 + i * 7) HIY.out (by omega) HKB.out
            rw [hr] at h20
            have H20 : Hid (Calls Try.prog 20 #[.agg (icells (ts i) (is i)).toArray, .string cc.nm] Y (RetFS Y (some s))) := h20
            have HQ' : Hid (q + 1 = nT ts i + nC (ts i) (j + 1)) := by
              show q + 1 = nT ts i + nC (ts i) (j + 1)
              rw [nC_some (by rw [← HC.out]; exact hr), HQ.out, Nat.add_assoc]
            have hat := lT_at (ms := ms) hlt hjl (by rw [← HC.out]; exact hr)
            rw [← HQ.out, ← HC.out] at hat
            clear h20 hr
            go_wp2_with (first
              | (refine wpList_load_mid rfl 62 _ rfl kb 0 rfl (icells (ts i) (is i)) _ HRK.out Try.underlying62 rfl sz62 ?_)
              | fail)
            refine H20.out.mono ?_
            rintro e w5 ⟨rfl, b5⟩
            have hb5 := hbY.trans (b5.mono hbY.size)
            have hbw5 := hbX.trans (hb5.mono hbX.size)
            have hql : q < n := by
              have := (List.getElem?_eq_some_iff.1 hat).1
              rw [← (lT_out ts ms N).2, ← HN.out] at this
              exact this
            obtain ⟨g, c', eg, lg, hrg⟩ := (HL.out.below hbw5).at_ q _ hat
            injection eg with eg eg2 eg3
            clear eg2 eg3
            subst eg
            have HRQ : Hid (w5.rangeAt g (q * 35) (kcells (ts i) (ms i) cc s)) := hrg
            have HKO : Hid (∀ v ∈ kcells (ts i) (ms i) cc s, v.oneCell' = true) := one_kcells (HONE.out i hlt).1 (HONE.out i hlt).2
            have hqz : (q : Int) < (n : Int) := by omega
            have HRK5 : Hid (w5.rangeAt kb 0 (icells (ts i) (is i))) := range_below HRG.out hb5 lkb
            have HRC5 : Hid (w5.rangeAt cb 0 (kcol cc)) := range_below HRC.out b5 lcb
            have lk5 : kb < w5.heap.size := Nat.lt_of_lt_of_le lkb hb5.size
            have lc5 : cb < w5.heap.size := Nat.lt_of_lt_of_le lcb b5.size
            clear H20 b5 e0 hat hrg HRC HRK HIY hbY lcb
            go_upto_region 20 with (first
              | (refine wpList_load_mid rfl 80 _ rfl g (q * 35) rfl (kcells (ts i) (ms i) cc s) _ HRQ.out Try.underlying80 rfl size80 ?_)
              | (refine wpList_store_new rfl 80 _ _ rfl w5 _ (kcells (ts i) (ms i) cc s).toArray rfl rfl rfl size80 (all_oneCell_toArray HKO.out) ?_)
              | fail)
            simp only [Act.put]
            obtain ⟨Z, hZ⟩ : ∃ Z, Z = w5.alloc (.cells (kcells (ts i) (ms i) cc s).toArray 80) := ⟨_, rfl⟩
            have bZ : Below w5.heap.size w5 Z := by rw [hZ]; exact (Below.refl _ _).alloc (Nat.le_refl _) _
            have HG : Hid (Z.rangeAt w5.heap.size 0 (kcells (ts i) (ms i) cc s)) := by rw [hZ]; exact range_new w5 80 _
            have HRKZ : Hid (Z.rangeAt kb 0 (icells (ts i) (is i))) := range_below HRK5.out bZ lk5
            have HRCZ : Hid (Z.rangeAt cb 0 (kcol cc)) := range_below HRC5.out bZ lc5
            have hbZ := hb5.trans (bZ.mono hb5.size)
            rw [← hZ]
            clear hZ bZ HRK5 HRC5 HRQ HKO lk5 lc5 lg hbw5
            generalize w5.heap.size = G at *
            have g0 : Z.cell? ⟨G, 0, none⟩ = some (.string (ts i).sch) := HG.out 0 _ rfl
            have g1 : Z.cell? ⟨G, 1, none⟩ = some (.string (ts i).nm) := HG.out 1 _ rfl
            have g3 : Z.cell? ⟨G, 3, none⟩ = some (.int .u32 (ts i).oid) := HG.out 3 _ rfl
            have g15 : Z.cell? ⟨G, 15, none⟩ = some (.string cc.nm) := HG.out 15 _ rfl
            have g17 : Z.cell? ⟨G, 17, none⟩ = some (.int .i64 cc.pos) := HG.out 17 _ rfl
            have g25 : Z.cell? ⟨G, 25, none⟩ = some (.string cc.co) := HG.out 25 _ rfl
            have g32 : Z.cell? ⟨G, 32, none⟩ = some (.string s) := HG.out 32 _ rfl
            have k0 : Z.cell? ⟨kb, 0, none⟩ = some (.string (ts i).sch) := HRKZ.out 0 _ rfl
            have k1 : Z.cell? ⟨kb, 1, none⟩ = some (.string (ts i).nm) := HRKZ.out 1 _ rfl
            have k2 : Z.cell? ⟨kb, 2, none⟩ = some (.int .u32 (ts i).oid) := HRKZ.out 2 _ rfl
            have c0 : Z.cell? ⟨cb, 0, none⟩ = some (.string cc.nm) := HRCZ.out 0 _ rfl
            have c1 : Z.cell? ⟨cb, 1, none⟩ = some (.int .i64 cc.pos) := HRCZ.out 1 _ rfl
            have c2 : Z.cell? ⟨cb, 2, none⟩ = some (.string cc.co) := HRCZ.out 2 _ rfl
            clear HG HRKZ HRCZ
            go_wp2
            go_roundg ((ts i).nc - (j + 1))
            case measure => go_light; omega
            case rel =>
              go_light
              exact ⟨j + 1, q + 1, by omega, rfl, by go_num, by go_num, hbZ, HQ'.out⟩
        · obtain rfl : j = (ts i).nc := by omega
          have HQ' : Hid (q = nT ts (i + 1)) := HQ.out
          have hb5 := hbX.trans (hb.mono hbX.size)
          clear hj hjl HQ
          go_wp2
          go_roundg (N - (i + 1))
          case measure => go_light; omega
          case rel =>
            go_light
            exact ⟨i + 1, q, by omega, rfl, rfl, by go_num, hb5, HQ'.out⟩
    · obtain rfl : i = N := by omega
      have hqn : q = n := by rw [HQ.out, HN.out]
      subst hqn
      clear hi hlt
      go_wp2
      go_ret
      exact ⟨ret_bool (by simp), hb4.trans (hb.mono hb4.size)⟩

end Go.Proofs.Qxb6000463a
