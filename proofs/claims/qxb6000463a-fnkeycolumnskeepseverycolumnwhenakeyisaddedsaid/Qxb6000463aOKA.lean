/-
  THE WALK of 'okKeyAdded'.
-/
import Derived.Test.Qxb6000463aOK
import Derived.Deep.RegionHeld3
namespace Go.Proofs.Qxb6000463a
open Go.RowKit

/-- What 'okKeyAdded' gives. -/
def RetAdd (w : World) (N : Nat) (ts : Nat → Td) (kk : Int) (k : Kd) (e : Ending) (w' : World) : Prop :=
  ∃ b : Bool, e = .returned (.bool b) ∧ Below w.heap.size w w' ∧ (b = true → N ≤ 4096 ∧ (∀ i, i < N → Od (ts i)) ∧ k.n ≤ 4096 ∧ k.m = k.n ∧ 0 ≤ kk ∧ kk < N)

set_option maxRecDepth 100000 in
set_option maxHeartbeats 16000000 in
theorem oka_any (a : Option Addr) (N c b0 o0 : Nat) (ts : Nat → Td) (is : Nat → Ti) (kk : Int) (v1 v2 : Value) (k : Kd) (w : World) (hN : N ≤ 1048576) (ha : 0 < N → a = some ⟨b0, o0, none⟩) (hin : ∀ i, i < N → TIn w b0 (o0 + i * 7) (ts i) (is i)) (hz : ∀ i, i < N → Zd (ts i))
    (hkn : k.n ≤ 1048576) (hkm : k.m ≤ 1048576) (hk : KeyIn w v1 v2 k) :
    Calls Try.prog 22 #[.slice a N c, .int .i64 kk, .agg #[v1, v2]] w (RetAdd w N ts kk k) := by
  have HK : Hid (KeyIn w v1 v2 k) := hk
  obtain ⟨ka, kc, ka', kc', rfl, rfl, _⟩ := hk
  obtain ⟨W, hW⟩ : ∃ W, W = w.alloc (.cells #[.slice ka k.n kc, .slice ka' k.m kc'] 59) := ⟨_, rfl⟩
  have bW : Below w.heap.size w W := by rw [hW]; exact (Below.refl _ _).alloc (Nat.le_refl _) _
  have lW : w.heap.size < W.heap.size := by rw [hW]; simp
  have HG : Hid (W.rangeAt w.heap.size 0 [.slice ka k.n kc, .slice ka' k.m kc']) := by rw [hW]; exact range_new w 59 _
  have HW : Hid (W = w.alloc (.cells #[.slice ka k.n kc, .slice ka' k.m kc'] 59)) := hW
  have HIN : Hid (∀ i, i < N → TIn W b0 (o0 + i * 7) (ts i) (is i)) := fun i hi => (hin i hi).below bW
  have HZ : Hid (∀ i, i < N → Zd (ts i)) := hz
  clear hin hz hW
  go_enter Try.func22, Try.ntmps22
  go_upto_region 1 with fail
  rw [← HW.out]
  go_wp2_with fail
  refine (ok_any a N c b0 o0 ts is W hN ha HIN.out HZ.out).mono ?_
  rintro e w1 ⟨b, rfl, b1, hb⟩
  have bw1 := bW.trans (b1.mono bW.size)
  cases b with
  | false =>
    go_wp2
    go_ret
    exact ⟨false, rfl, bw1, fun h => by cases h⟩
  | true =>
  obtain ⟨hN4, ho⟩ := hb rfl
  have HO : Hid (∀ i, i < N → Od (ts i)) := ho
  have g0 : w1.cell? ⟨w.heap.size, 0, none⟩ = some (.slice ka k.n kc) := by rw [b1.cell (p := ⟨w.heap.size, 0, none⟩) lW]; exact HG.out 0 _ rfl
  have g1 : w1.cell? ⟨w.heap.size, 1, none⟩ = some (.slice ka' k.m kc') := by rw [b1.cell (p := ⟨w.heap.size, 1, none⟩) lW]; exact HG.out 1 _ rfl
  have HIN1 : Hid (∀ i, i < N → TIn w1 b0 (o0 + i * 7) (ts i) (is i)) := fun i hi => (HIN.out i hi).below b1
  have HK1 : Hid (KeyIn w1 (.slice ka k.n kc) (.slice ka' k.m kc') k) := HK.out.below bw1
  have l1 : w.heap.size < w1.heap.size := Nat.lt_of_lt_of_le lW b1.size
  clear hb ho HW HG HIN HK b1
  by_cases h1 : (4096 : Int) < (k.n : Int)
  · go_wp2
    go_ret
    exact ⟨false, rfl, bw1, fun h => by cases h⟩
  have d1 : decide ((4096 : Int) < (k.n : Int)) = false := decide_eq_false h1
  by_cases h2 : (k.m : Int) = (k.n : Int)
  rotate_left
  · have d2 : ((k.m : Int) != (k.n : Int)) = true := by simp [h2]
    go_wp2
    go_ret
    exact ⟨false, rfl, bw1, fun h => by cases h⟩
  have d2 : ((k.m : Int) != (k.n : Int)) = false := by simp [h2]
  have hm : k.m = k.n := by omega
  have hn4 : k.n ≤ 4096 := by omega
  have HM : Hid (k.m = k.n ∧ k.n ≤ 4096) := ⟨hm, hn4⟩
  clear hm hn4
  go_upto_region 5 with fail
  clear h1 h2 d1 d2
  go_region_held3 (fun w' => w'.cell? ⟨w.heap.size, 0, none⟩ = some (.slice ka k.n kc) ∧ w'.cell? ⟨w.heap.size, 1, none⟩ = some (.slice ka' k.m kc'))
    (go_keep)
    ((first
      | (go_at_call 37; refine (kbs_any a N c b0 o0 ts is _ hN ha (fun i hi => (HIN1.out i hi).below (Below.drew (Below.refl _ _))) HZ.out).mono ?_; rintro e w2 ⟨t2, rfl, b2⟩; have y0 : w2.cell? ⟨w.heap.size, 0, none⟩ = some (.slice ka k.n kc) := (by rw [b2.cell (p := ⟨w.heap.size, 0, none⟩) l1]; exact g0); have y1 : w2.cell? ⟨w.heap.size, 1, none⟩ = some (.slice ka' k.m kc') := (by rw [b2.cell (p := ⟨w.heap.size, 1, none⟩) l1]; exact g1))
      | (go_at_call 39; refine (kkb_any _ _ k _ hkn hkm (HK1.out.below (Below.drew (Below.refl _ _)))).mono ?_; rintro e w2 ⟨t2, rfl, b2⟩; have y0 : w2.cell? ⟨w.heap.size, 0, none⟩ = some (.slice ka k.n kc) := (by rw [b2.cell (p := ⟨w.heap.size, 0, none⟩) l1]; exact g0); have y1 : w2.cell? ⟨w.heap.size, 1, none⟩ = some (.slice ka' k.m kc') := (by rw [b2.cell (p := ⟨w.heap.size, 1, none⟩) l1]; exact g1))
      | (go_at_call 39; refine (kkb_any _ _ k _ hkn hkm ((HK1.out.below (Below.drew (Below.refl _ _))).below b2)).mono ?_; rintro e w3 ⟨t3, rfl, b3⟩; have y2 : w3.cell? ⟨w.heap.size, 0, none⟩ = some (.slice ka k.n kc) := (by rw [b3.cell (p := ⟨w.heap.size, 0, none⟩) (Nat.lt_of_lt_of_le l1 b2.size)]; exact y0); have y3 : w3.cell? ⟨w.heap.size, 1, none⟩ = some (.slice ka' k.m kc') := (by rw [b3.cell (p := ⟨w.heap.size, 1, none⟩) (Nat.lt_of_lt_of_le l1 b2.size)]; exact y1))
      | (go_at_call 37; refine (kbs_any a N c b0 o0 ts is _ hN ha (fun i hi => ((HIN1.out i hi).below (Below.drew (Below.refl _ _))).below b2) HZ.out).mono ?_; rintro e w3 ⟨t3, rfl, b3⟩; have y2 : w3.cell? ⟨w.heap.size, 0, none⟩ = some (.slice ka k.n kc) := (by rw [b3.cell (p := ⟨w.heap.size, 0, none⟩) (Nat.lt_of_lt_of_le l1 b2.size)]; exact y0); have y3 : w3.cell? ⟨w.heap.size, 1, none⟩ = some (.slice ka' k.m kc') := (by rw [b3.cell (p := ⟨w.heap.size, 1, none⟩) (Nat.lt_of_lt_of_le l1 b2.size)]; exact y1))))
  all_goals
    have bw3 : Below w.heap.size w w3 := (Below.drew bw1).trans ((b2.trans (b3.mono b2.size)).mono bw1.size)
    clear y0 y1 y2 y3 b2 b3 g0 g1
    generalize IntKind.i64.wrap _ = x
    by_cases hx : 1048576 < x
    · go_wp2
      go_ret
      exact ⟨false, rfl, bw3, fun h => by cases h⟩
    by_cases hk0 : 0 ≤ kk
    · by_cases hk1 : kk < (N : Int)
      · go_wp2
        go_ret
        exact ⟨_, rfl, bw3, fun _ => ⟨hN4, HO.out, HM.out.2, HM.out.1, hk0, hk1⟩⟩
      · have d1 : decide (kk < (N : Int)) = false := decide_eq_false hk1
        go_wp2
        go_ret
        exact ⟨false, by simp, bw3, fun h => by cases h⟩
    · have d0 : decide (0 ≤ kk) = false := decide_eq_false hk0
      go_wp2
      go_ret
      exact ⟨false, rfl, bw3, fun h => by cases h⟩

end Go.Proofs.Qxb6000463a
