/-
  THE WALK of 'okKTables'.
-/
import Derived.Test.Qxb6000463aKBs
namespace Go.Proofs.Qxb6000463a
open Go.RowKit

/-- What 'okKTables' tells of a table. -/
structure Od (t : Td) : Prop where
  nc : t.nc ≤ 4096
  nu : t.nu ≤ 4096
  key : ∀ u, u < 1 + t.nu → (t.key u).m = (t.key u).n

/-- What 'okKTables' gives. -/
def RetOK (w : World) (N : Nat) (ts : Nat → Td) (e : Ending) (w' : World) : Prop :=
  ∃ b : Bool, e = .returned (.bool b) ∧ Below w.heap.size w w' ∧ (b = true → N ≤ 4096 ∧ ∀ i, i < N → Od (ts i))

set_option maxRecDepth 100000 in
set_option maxHeartbeats 16000000 in
theorem ok_any (a : Option Addr) (N c b0 o0 : Nat) (ts : Nat → Td) (is : Nat → Ti) (w : World) (hN : N ≤ 1048576) (ha : 0 < N → a = some ⟨b0, o0, none⟩) (hin : ∀ i, i < N → TIn w b0 (o0 + i * 7) (ts i) (is i)) (hz : ∀ i, i < N → Zd (ts i)) :
    Calls Try.prog 17 #[.slice a N c] w (RetOK w N ts) := by
  have HKBS : Hid (Calls Try.prog 37 #[.slice a N c] w (RetNum w)) := kbs_any a N c b0 o0 ts is w hN ha hin hz
  have HIN : Hid (∀ i, i < N → TIn w b0 (o0 + i * 7) (ts i) (is i)) := hin
  have HZ : Hid (∀ i, i < N → Zd (ts i)) := hz
  clear hin hz
  by_cases h4 : (4096 : Int) < (N : Int)
  · go_enter Try.func17, Try.ntmps17
    go_wp2
    go_ret
    exact ⟨false, rfl, Below.refl _ _, fun h => by cases h⟩
  have hN4 : N ≤ 4096 := by omega
  go_enter Try.func17, Try.ntmps17
  go_wp2_with fail
  refine HKBS.out.mono ?_
  rintro e w1 ⟨t1, rfl, b1⟩
  clear HKBS
  by_cases ht : 1048576 < t1
  · go_wp2
    go_ret
    exact ⟨false, rfl, b1, fun h => by cases h⟩
  go_wp2
  go_loopg [3] N (fun gg s wx => ∃ i : Nat, i ≤ N ∧ gg = N - i ∧ s = .int .i64 i ∧ Below w.heap.size w wx ∧ ∀ x, x < i → Od (ts x))
  case atStart => exact ⟨0, Nat.zero_le _, rfl, rfl, b1, fun x hx => by omega⟩
  case round =>
    clear b1 ht h4
    obtain ⟨i, hi, rfl, rfl, hb, hod⟩ := hrel
    have HOD : Hid (∀ x, x < i → Od (ts x)) := hod
    clear hod
    by_cases hlt : i < N
    · obtain rfl := ha (by omega)
      have hltz : (i : Int) < (N : Int) := by omega
      have hI := (HIN.out i hlt).below hb
      have HI : Hid (TIn wr b0 (o0 + i * 7) (ts i) (is i)) := hI
      have HCELLS : Hid (wr.rangeAt b0 (o0 + i * 7) (icells (ts i) (is i))) := hI.cells
      have HONE : Hid (∀ v ∈ icells (ts i) (is i), v.oneCell' = true) := one_icells hI
      obtain ⟨bnc, bnu, bkey⟩ := HZ.out i hlt
      have HKB : Hid (∀ u, u < 1 + (ts i).nu → ((ts i).key u).n ≤ 1048576 ∧ ((ts i).key u).m ≤ 1048576) := bkey
      clear hI bkey
      go_upto_region 7 with (first
        | (refine wpList_load_mid rfl 62 _ rfl b0 (o0 + i * 7) rfl (icells (ts i) (is i)) _ HCELLS.out Try.underlying62 rfl sz62 ?_)
        | (refine wpList_store_new rfl 62 _ _ rfl wr _ (icells (ts i) (is i)).toArray rfl rfl rfl sz62 (all_oneCell_toArray HONE.out) ?_)
        | fail)
      simp only [Act.put]
      obtain ⟨X, hX⟩ : ∃ X, X = wr.alloc (.cells (icells (ts i) (is i)).toArray 62) := ⟨_, rfl⟩
      have bX : Below wr.heap.size wr X := by rw [hX]; exact (Below.refl _ _).alloc (Nat.le_refl _) _
      have lkb : wr.heap.size < X.heap.size := by rw [hX]; simp
      have HRG : Hid (X.rangeAt wr.heap.size 0 (icells (ts i) (is i))) := by rw [hX]; exact range_new wr 62 _
      have k3 : X.cell? ⟨wr.heap.size, 3, none⟩ = some (.slice (is i).ca (ts i).nc (is i).cc) := HRG.out 3 _ rfl
      have k4 : X.cell? ⟨wr.heap.size, 4, none⟩ = some (is i).v1 := HRG.out 4 _ rfl
      have k5 : X.cell? ⟨wr.heap.size, 5, none⟩ = some (is i).v2 := HRG.out 5 _ rfl
      have k6 : X.cell? ⟨wr.heap.size, 6, none⟩ = some (.slice (is i).ua (ts i).nu (is i).uc) := HRG.out 6 _ rfl
      have HIX : Hid (TIn X b0 (o0 + i * 7) (ts i) (is i)) := HI.out.below bX
      have hbX : Below w.heap.size w X := hb.trans (bX.mono hb.size)
      obtain ⟨pa, pc, pa', pc', e1, e2, _⟩ := HIX.out.pri
      rw [e1] at k4
      rw [e2] at k5
      rw [← hX]
      clear hX bX HI hb HCELLS HONE e1 e2
      generalize wr.heap.size = kb at *
      by_cases hc1 : (4096 : Int) < ((ts i).nc : Int)
      · go_wp2
        go_ret
        exact ⟨false, rfl, hbX, fun h => by cases h⟩
      by_cases hc2 : (4096 : Int) < ((ts i).nu : Int)
      · go_wp2
        go_ret
        exact ⟨false, rfl, hbX, fun h => by cases h⟩
      by_cases hc3 : ((ts i).pri.m : Int) = ((ts i).pri.n : Int)
      rotate_left
      · go_wp2
        go_ret
        exact ⟨false, rfl, hbX, fun h => by cases h⟩
      go_wp2
      clear k3 k4 k5 k6
      go_loopg [5] (ts i).nu (fun gg s wx => ∃ u : Nat, u ≤ (ts i).nu ∧ gg = (ts i).nu - u ∧ s = .int .i64 u ∧ Below X.heap.size X wx ∧ ∀ x, x < u → ((ts i).uni x).m = ((ts i).uni x).n)
      case atStart => exact ⟨0, Nat.zero_le _, rfl, rfl, Below.refl _ _, fun x hx => by omega⟩
      case round =>
        obtain ⟨u, hu, rfl, rfl, hb, hun⟩ := hrel
        have HUN : Hid (∀ x, x < u → ((ts i).uni x).m = ((ts i).uni x).n) := hun
        have hbw := hbX.trans (hb.mono hbX.size)
        clear hun
        have k6 : wr.cell? ⟨kb, 6, none⟩ = some (.slice (is i).ua (ts i).nu (is i).uc) := by rw [hb.cell (p := ⟨kb, 6, none⟩) lkb]; exact HRG.out 6 _ rfl
        by_cases hul : u < (ts i).nu
        · have huz : (u : Int) < ((ts i).nu : Int) := by omega
          have hI := HIX.out.below hb
          obtain ⟨eu, lu⟩ := hI.ua (by omega)
          obtain ⟨q1, q2, ⟨a1, c1, a2, c2, ex1, ex2, _⟩⟩ := hI.uni u hul
          rw [ex1] at q1
          rw [ex2] at q2
          rw [eu] at k6
          clear hI eu ex1 ex2
          have bD := fun n => hbw.trans ((below_drewN' wr n).mono hbw.size)
          have bE := fun n => hb.trans ((below_drewN' wr n).mono hb.size)
          by_cases hne : (((ts i).uni u).m : Int) = (((ts i).uni u).n : Int)
          · go_wp2
            go_quiet (fail)
            go_wp2
            go_roundg ((ts i).nu - (u + 1))
            case measure => go_light; omega
            case rel =>
              go_light
              refine ⟨u + 1, by omega, rfl, by go_num, bE _, fun x hx => ?_⟩
              by_cases e : x = u
              · subst e; omega
              · exact HUN.out x (by omega)
          · go_wp2
            go_quiet (fail)
            go_wp2
            go_ret
            exact ⟨false, rfl, bD _, fun h => by cases h⟩
        · obtain rfl : u = (ts i).nu := by omega
          have HO : Hid (∀ x, x < i + 1 → Od (ts x)) := fun x hx => by
            by_cases e : x = i
            · subst e
              refine ⟨by omega, by omega, fun u hu => ?_⟩
              cases u with
              | zero => show (ts x).pri.m = (ts x).pri.n; omega
              | succ u => exact HUN.out u (by omega)
            · exact HOD.out x (by omega)
          clear hu hul hc1 hc2 hc3
          go_wp2
          go_roundg (N - (i + 1))
          case measure => go_light; omega
          case rel =>
            go_light
            exact ⟨i + 1, by omega, rfl, by go_num, hbw, HO.out⟩
    · obtain rfl : i = N := by omega
      go_wp2
      go_ret
      exact ⟨true, rfl, hb, fun _ => ⟨hN4, HOD.out⟩⟩

end Go.Proofs.Qxb6000463a
