/-
  THE WALK of 'kBytes': it only reads.
-/
import Derived.Test.Qxb6000463aKB
namespace Go.Proofs.Qxb6000463a
open Go.RowKit

theorem sz62 : (Try.prog.info? 62).map (·.size) = some 7 := by kernel_rfl

/-- What the bound on lengths leaves of a table. -/
structure Zd (t : Td) : Prop where
  nc : t.nc ≤ 1048576
  nu : t.nu ≤ 1048576
  key : ∀ u, u < 1 + t.nu → (t.key u).n ≤ 1048576 ∧ (t.key u).m ≤ 1048576

theorem one_icells {w : World} {b o : Nat} {t : Td} {m : Ti} (h : TIn w b o t m) : ∀ v ∈ icells t m, v.oneCell' = true := by
  obtain ⟨_, _, _, _, e1, e2, _⟩ := h.pri
  unfold icells
  rw [e1, e2]
  simp [Value.oneCell']

set_option maxRecDepth 100000 in
set_option maxHeartbeats 16000000 in
theorem kbs_any (a : Option Addr) (N c b0 o0 : Nat) (ts : Nat → Td) (is : Nat → Ti) (w : World) (hN : N ≤ 1048576) (ha : 0 < N → a = some ⟨b0, o0, none⟩) (hin : ∀ i, i < N → TIn w b0 (o0 + i * 7) (ts i) (is i)) (hz : ∀ i, i < N → Zd (ts i)) :
    Calls Try.prog 37 #[.slice a N c] w (RetNum w) := by
  have HIN : Hid (∀ i, i < N → TIn w b0 (o0 + i * 7) (ts i) (is i)) := hin
  have HZ : Hid (∀ i, i < N → Zd (ts i)) := hz
  clear hin hz
  go_enter Try.func37, Try.ntmps37
  go_wp2
  go_loopg [3, 4] N (fun gg s t wx => ∃ (i : Nat) (x : Int), i ≤ N ∧ gg = N - i ∧ s = .int .i64 x ∧ t = .int .i64 i ∧ Below w.heap.size w wx)
  case atStart => exact ⟨0, 0, Nat.zero_le _, rfl, rfl, rfl, Below.refl _ _⟩
  case round =>
    obtain ⟨i, x, hi, rfl, rfl, rfl, hb⟩ := hrel
    by_cases hlt : i < N
    · obtain rfl := ha (by omega)
      have hltz : (i : Int) < (N : Int) := by omega
      have hI := (HIN.out i hlt).below hb
      have HI : Hid (TIn wr b0 (o0 + i * 7) (ts i) (is i)) := hI
      have HCELLS : Hid (wr.rangeAt b0 (o0 + i * 7) (icells (ts i) (is i))) := hI.cells
      have HONE : Hid (∀ v ∈ icells (ts i) (is i), v.oneCell' = true) := one_icells hI
      obtain ⟨bnc, bnu, bkey⟩ := HZ.out i hlt
      have HKB : Hid (∀ u, u < 1 + (ts i).nu → ((ts i).key u).n ≤ 1048576 ∧ ((ts i).key u).m ≤ 1048576) := bkey
      clear hI bkey
      by_cases hx : 1048576 < x
      · clear HCELLS HONE HI
        go_wp2
        go_ret
        exact ⟨_, rfl, hb⟩
      · go_upto_region 8 with (first
          | (refine wpList_load_mid rfl 62 _ rfl b0 (o0 + i * 7) rfl (icells (ts i) (is i)) _ HCELLS.out Try.underlying62 rfl sz62 ?_)
          | (refine wpList_store_new rfl 62 _ _ rfl wr _ (icells (ts i) (is i)).toArray rfl rfl rfl sz62 (all_oneCell_toArray HONE.out) ?_)
          | fail)
        simp only [Act.put]
        obtain ⟨X, hX⟩ : ∃ X, X = wr.alloc (.cells (icells (ts i) (is i)).toArray 62) := ⟨_, rfl⟩
        have bX : Below wr.heap.size wr X := by rw [hX]; exact (Below.refl _ _).alloc (Nat.le_refl _) _
        have lkb : wr.heap.size < X.heap.size := by rw [hX]; simp
        have HRG : Hid (X.rangeAt wr.heap.size 0 (icells (ts i) (is i))) := by rw [hX]; exact range_new wr 62 _
        have k0 : X.cell? ⟨wr.heap.size, 0, none⟩ = some (.string (ts i).sch) := HRG.out 0 _ rfl
        have k1 : X.cell? ⟨wr.heap.size, 1, none⟩ = some (.string (ts i).nm) := HRG.out 1 _ rfl
        have k3 : X.cell? ⟨wr.heap.size, 3, none⟩ = some (.slice (is i).ca (ts i).nc (is i).cc) := HRG.out 3 _ rfl
        have HIX : Hid (TIn X b0 (o0 + i * 7) (ts i) (is i)) := HI.out.below bX
        have hbX : Below w.heap.size w X := hb.trans (bX.mono hb.size)
        rw [← hX]
        clear hX bX HI hb HCELLS HONE hx
        generalize wr.heap.size = kb at *
        go_wp2
        clear k0 k1 k3
        go_loopg [3, 6] (ts i).nc (fun gg s t wx => ∃ (j : Nat) (x : Int), j ≤ (ts i).nc ∧ gg = (ts i).nc - j ∧ s = .int .i64 x ∧ t = .int .i64 j ∧ Below X.heap.size X wx)
        case atStart => exact ⟨0, _, Nat.zero_le _, rfl, rfl, rfl, Below.refl _ _⟩
        case round =>
          obtain ⟨j, x, hj, rfl, rfl, rfl, hb⟩ := hrel
          have k3 : wr.cell? ⟨kb, 3, none⟩ = some (.slice (is i).ca (ts i).nc (is i).cc) := by rw [hb.cell (p := ⟨kb, 3, none⟩) lkb]; exact HRG.out 3 _ rfl
          by_cases hjl : j < (ts i).nc
          · have hjz : (j : Int) < ((ts i).nc : Int) := by omega
            have hI := HIX.out.below hb
            obtain ⟨ec, lc⟩ := hI.ca (by omega)
            have hcol := (hI.cols j hjl).1
            have q0 : wr.cell? ⟨(is i).bc, (is i).oc + j * 3, none⟩ = some (.string ((ts i).col j).nm) := hcol 0 _ rfl
            have q2 : wr.cell? ⟨(is i).bc, (is i).oc + j * 3 + 2, none⟩ = some (.string ((ts i).col j).co) := hcol 2 _ rfl
            rw [ec] at k3
            clear hI hcol ec
            by_cases hx : 1048576 < x
            · go_wp2
              go_ret
              exact ⟨_, rfl, hbX.trans (hb.mono hbX.size)⟩
            · go_wp2
              go_quiet (fail)
              go_wp2
              go_roundg ((ts i).nc - (j + 1))
              case measure => go_light; omega
              case rel =>
                go_light
                exact ⟨j + 1, _, by omega, rfl, rfl, by go_num, hb.trans ((below_drewN' wr _).mono hb.size)⟩
          · obtain rfl : j = (ts i).nc := by omega
            have k4 : wr.cell? ⟨kb, 4, none⟩ = some (is i).v1 := by rw [hb.cell (p := ⟨kb, 4, none⟩) lkb]; exact HRG.out 4 _ rfl
            have k5 : wr.cell? ⟨kb, 5, none⟩ = some (is i).v2 := by rw [hb.cell (p := ⟨kb, 5, none⟩) lkb]; exact HRG.out 5 _ rfl
            have HKI : Hid (KeyIn wr (is i).v1 (is i).v2 (ts i).pri) := (HIX.out.below hb).pri
            have hk0 := HKB.out 0 (by omega)
            clear hj hjl
            go_wp2_with fail
            refine (kkb_any (is i).v1 (is i).v2 (ts i).pri _ hk0.1 hk0.2 HKI.out).mono ?_
            rintro e w1 ⟨t1, rfl, b1⟩
            have b2 := hb.trans (b1.mono hb.size)
            have k6 : w1.cell? ⟨kb, 6, none⟩ = some (.slice (is i).ua (ts i).nu (is i).uc) := by rw [b2.cell (p := ⟨kb, 6, none⟩) lkb]; exact HRG.out 6 _ rfl
            clear b1 hb k3 k4 k5 HKI hk0
            go_wp2
            clear k6
            go_loopg [3, 7] (ts i).nu (fun gg s t wx => ∃ (u : Nat) (x : Int), u ≤ (ts i).nu ∧ gg = (ts i).nu - u ∧ s = .int .i64 x ∧ t = .int .i64 u ∧ Below X.heap.size X wx)
            case atStart => exact ⟨0, _, Nat.zero_le _, rfl, rfl, rfl, b2⟩
            case round =>
              clear b2
              obtain ⟨u, x, hu, rfl, rfl, rfl, hb⟩ := hrel
              have k6 : wr.cell? ⟨kb, 6, none⟩ = some (.slice (is i).ua (ts i).nu (is i).uc) := by rw [hb.cell (p := ⟨kb, 6, none⟩) lkb]; exact HRG.out 6 _ rfl
              by_cases hul : u < (ts i).nu
              · have huz : (u : Int) < ((ts i).nu : Int) := by omega
                have hI := HIX.out.below hb
                obtain ⟨eu, lu⟩ := hI.ua (by omega)
                obtain ⟨q1, q2, hkin⟩ := hI.uni u hul
                have HKI : Hid (KeyIn wr ((is i).x1 u) ((is i).x2 u) ((ts i).uni u)) := hkin
                rw [eu] at k6
                have hk := HKB.out (u + 1) (by omega)
                clear hI eu hkin
                by_cases hx : 1048576 < x
                · go_wp2
                  go_ret
                  exact ⟨_, rfl, hbX.trans (hb.mono hbX.size)⟩
                · go_wp2_with fail
                  refine (kkb_any ((is i).x1 u) ((is i).x2 u) ((ts i).uni u) wr hk.1 hk.2 HKI.out).mono ?_
                  rintro e w1 ⟨t1, rfl, b1⟩
                  have b2 := hb.trans (b1.mono hb.size)
                  clear b1 hb k6 q1 q2 HKI hk
                  go_wp2
                  go_roundg ((ts i).nu - (u + 1))
                  case measure => go_light; omega
                  case rel =>
                    go_light
                    exact ⟨u + 1, _, by omega, rfl, rfl, by go_num, b2⟩
              · obtain rfl : u = (ts i).nu := by omega
                have hbw := hbX.trans (hb.mono hbX.size)
                clear hu hul
                go_wp2
                go_roundg (N - (i + 1))
                case measure => go_light; omega
                case rel =>
                  go_light
                  exact ⟨i + 1, _, by omega, rfl, rfl, by go_num, hbw⟩
    · obtain rfl : i = N := by omega
      go_wp2
      go_ret
      exact ⟨_, rfl, hb⟩

end Go.Proofs.Qxb6000463a
