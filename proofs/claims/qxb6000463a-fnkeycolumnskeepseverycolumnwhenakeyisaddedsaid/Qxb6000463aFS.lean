/-
  THE WALK of 'kFirstSole'.
-/
import Derived.Test.Qxb6000463aKBs
namespace Go.Proofs.Qxb6000463a
open Go.RowKit

theorem fsTo_le {K : Nat → Kd} {s : ByteArray} {i : Nat} {c : ByteArray} (h : fsTo K s i = some c) : ∀ {j}, i ≤ j → fsTo K s j = some c
  | 0, hj => by obtain rfl : i = 0 := by omega
                exact h
  | j + 1, hj => by
    by_cases e : i = j + 1
    · subst e; exact h
    · exact fsTo_some (fsTo_le h (by omega))

theorem str_eq {a b : ByteArray} (h : a = b) : (a.toList == b.toList) = true := by subst h; simp
theorem str_ne {a b : ByteArray} (h : ¬ a = b) : (a.toList == b.toList) = false := by
  rw [ByteArray.toList_eq, ByteArray.toList_eq]
  apply Bool.eq_false_iff.2
  intro e
  exact h (Go.WideShapes.bytes_inj (by simpa using e))

/-- What 'kFirstSole' gives. -/
def RetFS (w : World) (r : Option ByteArray) (e : Ending) (w' : World) : Prop :=
  e = .returned (.tuple #[.string (r.getD ⟨#[]⟩), .bool r.isSome]) ∧ Below w.heap.size w w'

set_option maxRecDepth 100000 in
set_option maxHeartbeats 16000000 in
theorem fs_any (t : Td) (m : Ti) (s : ByteArray) (w : World) (b o : Nat) (h : TIn w b o t m) (hnu : t.nu ≤ 4096) (hk : ∀ u, u < 1 + t.nu → (t.key u).m = (t.key u).n) :
    Calls Try.prog 20 #[.agg (icells t m).toArray, .string s] w (RetFS w (t.fs s)) := by
  obtain ⟨pa, pc, pa', pc', e1, e2, ⟨b1, o1, q1, r1⟩, ⟨b2, o2, q2, r2⟩, hsz⟩ := h.pri
  obtain ⟨W, hW⟩ : ∃ W, W = w.alloc (.cells #[.string t.sch, .string t.nm, .int .u32 t.oid, .slice m.ca t.nc m.cc, .slice pa t.pri.n pc, .slice pa' t.pri.m pc', .slice m.ua t.nu m.uc] 62) := ⟨_, rfl⟩
  have bW : Below w.heap.size w W := by rw [hW]; exact (Below.refl _ _).alloc (Nat.le_refl _) _
  have lW : w.heap.size < W.heap.size := by rw [hW]; simp
  have f4 : W.cell? ⟨w.heap.size, 4, none⟩ = some (.slice pa t.pri.n pc) := by rw [hW, World.cell?_alloc_at _ _ _ _ rfl]; rfl
  have f5 : W.cell? ⟨w.heap.size, 5, none⟩ = some (.slice pa' t.pri.m pc') := by rw [hW, World.cell?_alloc_at _ _ _ _ rfl]; rfl
  have f6 : W.cell? ⟨w.heap.size, 6, none⟩ = some (.slice m.ua t.nu m.uc) := by rw [hW, World.cell?_alloc_at _ _ _ _ rfl]; rfl
  have HW : Hid (W = w.alloc (.cells #[.string t.sch, .string t.nm, .int .u32 t.oid, .slice m.ca t.nc m.cc, .slice pa t.pri.n pc, .slice pa' t.pri.m pc', .slice m.ua t.nu m.uc] 62)) := hW
  have HI : Hid (TIn W b o t m) := h.below bW
  have HK : Hid (∀ u, u < 1 + t.nu → (t.key u).m = (t.key u).n) := hk
  have hm0 : t.pri.m = t.pri.n := hk 0 (by omega)
  have HFS : Hid (t.fs s = fsTo t.key s (1 + t.nu)) := rfl
  have hic : icells t m = [.string t.sch, .string t.nm, .int .u32 t.oid, .slice m.ca t.nc m.cc, .slice pa t.pri.n pc, .slice pa' t.pri.m pc', .slice m.ua t.nu m.uc] := by unfold icells; rw [e1, e2]
  rw [hic]
  clear hW h hk e1 e2 hsz hic
  rw [hm0] at f5 q2
  have HM0 : Hid (t.pri.m = t.pri.n) := hm0
  have HF : Hid (∀ u c, u ≤ t.nu → fsTo t.key s u = none → sole1 (t.key u) s = true → c = (t.key u).co 0 → t.fs s = some c) := fun u c hu h1 h2 hc => by
    subst hc; exact fsTo_le (fsTo_first h1 h2) (by omega)
  clear hm0
  have hor : (t.pri.n = 1 ∧ t.pri.col 0 = s) ∨ (t.pri.n = 1 ∧ ¬ t.pri.col 0 = s) ∨ ¬ t.pri.n = 1 := by
    by_cases hn : t.pri.n = 1
    · by_cases hs : t.pri.col 0 = s
      · exact Or.inl ⟨hn, hs⟩
      · exact Or.inr (Or.inl ⟨hn, hs⟩)
    · exact Or.inr (Or.inr hn)
  rcases hor with ⟨hn, hs⟩ | ⟨hn, hs⟩ | hn
  · obtain ⟨rfl, l1⟩ := q1 (by omega)
    obtain ⟨rfl, l2⟩ := q2 (by omega)
    have x1 : W.cell? ⟨b1, o1, none⟩ = some (.string (t.pri.col 0)) := by rw [bW.cell (p := ⟨b1, o1, none⟩) l1]; exact r1 0 (by omega)
    have x2 : W.cell? ⟨b2, o2, none⟩ = some (.string (t.pri.co 0)) := by rw [bW.cell (p := ⟨b2, o2, none⟩) l2]; exact r2 0 (by rw [HM0.out]; omega)
    have HNZ : Hid ((t.pri.n : Int) = 1) := by show (t.pri.n : Int) = 1; omega
    have HR : Hid (t.fs s = some (t.pri.co 0)) := HF.out 0 _ (by omega) rfl (by show sole1 t.pri s = true; simp [sole1, hn, hs]) rfl
    have hse := str_eq hs
    clear q1 q2 r1 r2 hn hs
    go_enter Try.func20, Try.ntmps20
    go_upto_region 1 with fail
    rw [← HW.out]
    have hnz : (t.pri.n : Int) = 1 := HNZ.out
    go_wp2
    go_ret2
    refine ⟨?_, bW⟩
    rw [HR.out]
    rfl
  case' inr.inl =>
    obtain ⟨rfl, l1⟩ := q1 (by omega)
    have x1 : W.cell? ⟨b1, o1, none⟩ = some (.string (t.pri.col 0)) := by rw [bW.cell (p := ⟨b1, o1, none⟩) l1]; exact r1 0 (by omega)
    have HNZ : Hid ((t.pri.n : Int) = 1) := by show (t.pri.n : Int) = 1; omega
    have H0 : Hid (fsTo t.key s 1 = none) := fsTo_skip (K := t.key) (i := 0) (by show sole1 t.pri s = false; simp [sole1, hn, hs])
    have hse := str_ne hs
    clear q1 q2 r1 r2 hn hs
    go_enter Try.func20, Try.ntmps20
    go_upto_region 1 with fail
    rw [← HW.out]
    have hnz : (t.pri.n : Int) = 1 := HNZ.out
    go_wp2
    clear hse hnz x1 l1 HNZ
  case' inr.inr =>
    have hnz : ¬ (t.pri.n : Int) = 1 := by omega
    have H0 : Hid (fsTo t.key s 1 = none) := fsTo_skip (K := t.key) (i := 0) (by show sole1 t.pri s = false; simp [sole1, hn])
    clear q1 q2 r1 r2 hn
    go_enter Try.func20, Try.ntmps20
    go_upto_region 1 with fail
    rw [← HW.out]
    go_wp2
    clear hnz
  all_goals
    clear f4 f5
    go_loopg [6] t.nu (fun gg s' wx => ∃ u : Nat, u ≤ t.nu ∧ gg = t.nu - u ∧ s' = .int .i64 u ∧ Below W.heap.size W wx ∧ fsTo t.key s (1 + u) = none)
    case atStart => exact ⟨0, Nat.zero_le _, rfl, rfl, Below.refl _ _, H0.out⟩
    case round =>
      clear H0
      obtain ⟨u, hu, rfl, rfl, hb, h0⟩ := hrel
      have H0 : Hid (fsTo t.key s (1 + u) = none) := h0
      have g6 : wr.cell? ⟨w.heap.size, 6, none⟩ = some (.slice m.ua t.nu m.uc) := by rw [hb.cell (p := ⟨w.heap.size, 6, none⟩) lW]; exact f6
      clear h0
      have hbw : Below w.heap.size w wr := bW.trans (hb.mono bW.size)
      by_cases hul : u < t.nu
      · have huz : (u : Int) < (t.nu : Int) := by omega
        have hI := HI.out.below hb
        obtain ⟨eu, lu⟩ := hI.ua (by omega)
        obtain ⟨y1, y2, ⟨a1, c1, a2, c2, ex1, ex2, ⟨b3, o3, q3, r3⟩, ⟨b4, o4, q4, r4⟩, _⟩⟩ := hI.uni u hul
        have hm : (t.uni u).m = (t.uni u).n := HK.out (u + 1) (by omega)
        rw [ex1] at y1
        rw [ex2, hm] at y2
        rw [eu] at g6
        rw [hm] at q4 r4
        have HKU : Hid (t.key (1 + u) = t.uni u) := by show t.key (1 + u) = t.uni u; rw [Nat.add_comm]; rfl
        generalize t.uni u = K at *
        have bA : Below wr.heap.size wr (wr.alloc (.cells #[.slice a1 K.n c1, .slice a2 K.n c2] 59)) := (Below.refl _ _).alloc (Nat.le_refl _) _
        have hbA := hb.trans (bA.mono hb.size)
        have hbwA := hbw.trans (bA.mono hbw.size)
        clear hI eu ex1 ex2 hm f6
        by_cases hn : K.n = 1
        · obtain ⟨rfl, l3⟩ := q3 (by omega)
          obtain ⟨rfl, l4⟩ := q4 (by omega)
          have x3 : wr.cell? ⟨b3, o3, none⟩ = some (.string (K.col 0)) := r3 0 (by omega)
          have x4 : wr.cell? ⟨b4, o4, none⟩ = some (.string (K.co 0)) := r4 0 (by omega)
          have hnz : (K.n : Int) = 1 := by omega
          by_cases hs : K.col 0 = s
          · have HR : Hid (t.fs s = some (K.co 0)) := HF.out (1 + u) _ (by omega) H0.out (by rw [HKU.out]; simp [sole1, hn, hs]) (by rw [HKU.out])
            have hse := str_eq hs
            clear q3 q4 r3 r4 hn hs
            go_wp2
            go_ret2
            refine ⟨?_, hbwA⟩
            rw [HR.out]
            rfl
          · have HN : Hid (fsTo t.key s (1 + (u + 1)) = none) := by
              show fsTo t.key s (1 + (u + 1)) = none
              rw [← Nat.add_assoc, fsTo_skip (by rw [HKU.out]; simp [sole1, hn, hs])]; exact H0.out
            have hse := str_ne hs
            clear q3 q4 r3 r4 hn hs
            go_wp2
            go_roundg (t.nu - (u + 1))
            case measure => go_light; omega
            case rel =>
              go_light
              exact ⟨u + 1, by omega, rfl, by go_num, hbA, HN.out⟩
        · have HN : Hid (fsTo t.key s (1 + (u + 1)) = none) := by
            show fsTo t.key s (1 + (u + 1)) = none
            rw [← Nat.add_assoc, fsTo_skip (by rw [HKU.out]; simp [sole1, hn])]; exact H0.out
          have hnz : ¬ (K.n : Int) = 1 := by omega
          clear q3 q4 r3 r4 hn
          go_wp2
          go_roundg (t.nu - (u + 1))
          case measure => go_light; omega
          case rel =>
            go_light
            exact ⟨u + 1, by omega, rfl, by go_num, hbA, HN.out⟩
      · obtain rfl : u = t.nu := by omega
        have HR : Hid (t.fs s = none) := H0.out
        go_wp2
        go_ret2
        refine ⟨?_, hbw⟩
        rw [HR.out]
        rfl

end Go.Proofs.Qxb6000463a
