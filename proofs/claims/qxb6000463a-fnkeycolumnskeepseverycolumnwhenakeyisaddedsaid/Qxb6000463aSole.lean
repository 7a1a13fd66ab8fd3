/-
  THE WALK of '(Table).SoleKeys'.
-/
import Derived.Test.Qxb6000463aData
import Derived.Deep.RegionHeld3
import Derived.Deep.DrawnRows
namespace Go.Proofs.Qxb6000463a
open Go.RowKit
attribute [local go_sem ↓] Go.wp_at_zero Go.wp_at_succ

theorem Try.info76 : (Try.prog.info? 76).map (fun i => (i.zero, i.size, i.bytes)) = some (some (.agg #[.string ⟨#[]⟩, .string ⟨#[]⟩, .string ⟨#[]⟩, .bool false]), 4, 56) := by kernel_rfl
theorem Try.info69 : (Try.prog.info? 69).map (fun i => (i.zero, i.size, i.bytes)) = some (some (.agg #[.slice none 0 0, .slice none 0 0]), 2, 48) := by kernel_rfl

/-- The cells of a row of keys. -/
def keyCells (cv dv : Nat → Value) (n : Nat) : List Value := (List.range (n * 2)).map fun j => if j % 2 = 0 then cv (j / 2) else dv (j / 2)

theorem keyCells_length (cv dv : Nat → Value) (n : Nat) : (keyCells cv dv n).length = n * 2 := by simp [keyCells]
theorem keyCells_at0 (cv dv : Nat → Value) {n u : Nat} (h : u < n) : (keyCells cv dv n)[u * 2]? = some (cv u) := by
  simp [keyCells, show u * 2 < n * 2 from by omega]
theorem keyCells_at1 (cv dv : Nat → Value) {n u : Nat} (h : u < n) : (keyCells cv dv n)[u * 2 + 1]? = some (dv u) := by
  simp [keyCells, show u * 2 + 1 < n * 2 from by omega, show (u * 2 + 1) % 2 = 1 from by omega, show (u * 2 + 1) / 2 = u from by omega]
theorem keyCells_cons (cv dv : Nat → Value) (n : Nat) : keyCells cv dv (1 + n) = [cv 0, dv 0] ++ keyCells (fun u => cv (u + 1)) (fun u => dv (u + 1)) n := by
  apply List.ext_getElem?
  intro j
  unfold keyCells
  by_cases h0 : j = 0
  · subst h0; simp [show 0 < (1 + n) * 2 from by omega]
  by_cases h1 : j = 1
  · subst h1; simp [show 1 < (1 + n) * 2 from by omega]
  obtain ⟨k, rfl⟩ : ∃ k, j = k + 2 := ⟨j - 2, by omega⟩
  by_cases hk : k < n * 2
  · simp [show k + 2 < (1 + n) * 2 from by omega, hk, show (k + 2) / 2 = k / 2 + 1 from by omega]
  · simp [show ¬ k + 2 < (1 + n) * 2 from by omega, hk]

theorem grown_none {w w' : World} (h : Below w.heap.size w w') : w.grownBy w' none := ⟨h.os, h.tape, h.output, h.size, fun k hk _ => h.block k hk⟩

/-- What 'SoleKeys' leaves: a map in a new block. -/
def RetSole (w : World) (K : Nat → Kd) (nk : Nat) (e : Ending) (w' : World) : Prop :=
  ∃ B F n, e = .returned (.map (some B)) ∧ Below w.heap.size w w' ∧ MapIs w' B n F ∧ Sole w' w.heap.size K nk F

set_option maxRecDepth 100000 in
set_option maxHeartbeats 16000000 in
theorem sole_any (K : Nat → Kd) (cv dv : Nat → Value) (nu ub uc : Nat) (v0 v1 v2 v3 v4 v5 v6 v7 v11 v12 v13 v14 : Value) (w : World) (hnu : nu ≤ 1048576) (lu : ub < w.heap.size)
    (hu : ∀ u, u < nu → w.cell? ⟨ub, u * 2, none⟩ = some (cv (u + 1)) ∧ w.cell? ⟨ub, u * 2 + 1, none⟩ = some (dv (u + 1))) (hk : ∀ u, u < 1 + nu → KeyAt w (cv u) (dv u) (K u) ∧ (K u).m = (K u).n) :
    Calls Try.prog 38 #[.agg #[v0, v1, v2, v3, v4, v5, v6, v7, cv 0, dv 0, .slice (some ⟨ub, 0, none⟩) nu uc, v11, v12, v13, v14]] w (RetSole w K (1 + nu)) := by
  obtain ⟨i69, hi, hz0, hz1, hz2⟩ := info_parts Try.info69
  obtain ⟨i76, ji, jz0, jz1, jz2⟩ := info_parts Try.info76
  have hmm := @run_makeMap Try.prog
  have HK : Hid (∀ u, u < 1 + nu → KeyAt w (cv u) (dv u) (K u) ∧ (K u).m = (K u).n) := hk
  obtain ⟨bc0, bd0, cc0, cd0, e1, e2, _⟩ := (hk 0 (by omega)).1
  obtain ⟨x0, hx0⟩ : ∃ x, x = cv 0 := ⟨_, rfl⟩
  obtain ⟨y0, hy0⟩ : ∃ x, x = dv 0 := ⟨_, rfl⟩
  have o0 : x0.oneCell' = true := by rw [hx0, e1]; rfl
  have o1 : y0.oneCell' = true := by rw [hy0, e2]; rfl
  rw [← hx0, ← hy0]
  clear hk e1 e2
  obtain ⟨W, hW⟩ : ∃ W, W = ((w.alloc (.cells #[v0, v1, v2, v3, v4, v5, v6, v7, x0, y0, .slice (some ⟨ub, 0, none⟩) nu uc, v11, v12, v13, v14] 72)).alloc (.map #[] 0)).alloc (.cells #[x0, y0] 69) := ⟨_, rfl⟩
  have bW : Below w.heap.size w W := by rw [hW]; exact (((Below.refl _ _).alloc (Nat.le_refl _) _).alloc (by simp) _).alloc (by simp; omega) _
  have sW : W.heap.size = w.heap.size + 1 + 1 + 1 := by rw [hW]; simp
  have HOWN : Hid (W.ownsRow w.heap.size 69 2 (.slice (some ⟨w.heap.size + 1 + 1, 0, none⟩) 1 1) 1 [x0, y0]) := by
    rw [hW]
    refine ⟨rfl, Or.inr ⟨_, 1, #[x0, y0], rfl, by omega, ?_, Nat.le_refl _, by decide, rfl, rfl⟩⟩
    have := Go.Deep.blk_alloc_new ((w.alloc (.cells #[v0, v1, v2, v3, v4, v5, v6, v7, x0, y0, .slice (some ⟨ub, 0, none⟩) nu uc, v11, v12, v13, v14] 72)).alloc (.map #[] 0)) (.cells #[x0, y0] 69)
    simpa using this
  have HMAP : Hid (MapIs W (w.heap.size + 1) 0 (fun _ => none)) := by
    rw [hW]
    show MapIs _ _ _ _
    have := (MapIs.made (w.alloc (.cells #[v0, v1, v2, v3, v4, v5, v6, v7, x0, y0, .slice (some ⟨ub, 0, none⟩) nu uc, v11, v12, v13, v14] 72))).alloc (.cells #[x0, y0] 69)
    simpa using this
  have HNEW : Hid (∀ j u, (keyCells (fun u => cv (u + 1)) (fun u => dv (u + 1)) nu)[j]? = some u → W.cell? ((⟨ub, 0, none⟩ : Addr).add j) = some u) := by
    intro j u hj
    have hl : j < nu * 2 := by have := (List.getElem?_eq_some_iff.1 hj).1; rwa [keyCells_length] at this
    rw [Addr.add_mid, Nat.zero_add, bW.cell (p := ⟨ub, j, none⟩) lu]
    have hm : j = j / 2 * 2 ∨ j = j / 2 * 2 + 1 := by omega
    rcases hm with e | e
    · rw [e, keyCells_at0 _ _ (by omega)] at hj
      rw [e, (hu (j / 2) (by omega)).1]; exact hj
    · rw [e, keyCells_at1 _ _ (by omega)] at hj
      rw [e, (hu (j / 2) (by omega)).2]; exact hj
  have HONE : Hid (∀ u ∈ keyCells (fun u => cv (u + 1)) (fun u => dv (u + 1)) nu, u.oneCell' = true) := by
    intro u hm
    obtain ⟨j, hj, rfl⟩ := List.mem_map.1 hm
    have hj' : j < nu * 2 := List.mem_range.1 hj
    obtain ⟨bc, bd, cc, cd, e1, e2, _⟩ := (HK.out (j / 2 + 1) (by omega)).1
    by_cases e : j % 2 = 0
    · rw [if_pos e]; show (cv (j / 2 + 1)).oneCell' = true; rw [e1]; rfl
    · rw [if_neg e]; show (dv (j / 2 + 1)).oneCell' = true; rw [e2]; rfl
  have HW : Hid (W = ((w.alloc (.cells #[v0, v1, v2, v3, v4, v5, v6, v7, x0, y0, .slice (some ⟨ub, 0, none⟩) nu uc, v11, v12, v13, v14] 72)).alloc (.map #[] 0)).alloc (.cells #[x0, y0] 69)) := hW
  have HX0 : Hid (x0 = cv 0) := hx0
  have HY0 : Hid (y0 = dv 0) := hy0
  clear hu hW hx0 hy0
  go_enter Try.func38, Try.ntmps38
  go_wp2_with (first | (at_builtin; rw [← HW.out]; refine wpList_append_own_at _ rfl _ _ 70 rfl w.heap.size 69 i69 _ 2 48 Try.underlying70 hi hz0 hz1 hz2 rfl (by decide) (.slice (some ⟨w.heap.size + 1 + 1, 0, none⟩) 1 1) 1 [x0, y0] rfl HOWN.out ⟨ub, 0, none⟩ nu uc _ rfl (keyCells_length _ _ _) HNEW.out HONE.out (by unfold maxLen; omega) (by omega) (by rw [sW]; omega) ?_; intro v' w1 hown hgrow _ hloc; obtain ⟨g, cap, rfl, hgb, hgl⟩ := hown.form (by omega)) | go_in)
  have hown1 : w1.ownsRow w.heap.size 69 2 (.slice (some ⟨g, 0, none⟩) (1 + nu) cap) (1 + nu) (keyCells cv dv (1 + nu)) := by
    rw [keyCells_cons, ← HX0.out, ← HY0.out]; exact hown
  have HROW : Hid (w1.ownsRow w.heap.size 69 2 (.slice (some ⟨g, 0, none⟩) (1 + nu) cap) (1 + nu) (keyCells cv dv (1 + nu))) := hown1
  have hgr : W.grownBy w1 (some (w.heap.size + 1 + 1)) := hgrow
  have b1 : Below w.heap.size w w1 := bW.grown hgr (by rw [sW]; omega) (fun j hj => by injection hj with hj; omega)
  have HM1 : Hid (MapIs w1 (w.heap.size + 1) 0 (fun _ => none)) := HMAP.out.kept hgr (by intro h; injection h with h; omega)
  have s1 : w.heap.size + 1 + 1 + 1 ≤ w1.heap.size := by rw [← sW]; exact hgrow.size
  clear hown hown1 hgrow hgr hloc HOWN HMAP HNEW HONE HW HX0 HY0 bW sW o0 o1
  go_wp2
  go_loopg [14] (1 + nu) (fun gg s wx => ∃ (i : Nat) (F : ByteArray → Option Value), i ≤ 1 + nu ∧ gg = 1 + nu - i ∧ s = .int .i64 i ∧ Below w.heap.size w wx ∧ wx.ownsRow w.heap.size 69 2 (.slice (some ⟨g, 0, none⟩) (1 + nu) cap) (1 + nu) (keyCells cv dv (1 + nu)) ∧ MapIs wx (w.heap.size + 1) i F ∧ Sole wx w.heap.size K i F)
  case atStart => exact ⟨0, fun _ => none, Nat.zero_le _, rfl, rfl, b1, HROW.out, HM1.out, Sole.start _ _ _⟩
  case round =>
    obtain ⟨i, F, hi', rfl, rfl, hb, hrow, hM, hS⟩ := hrel
    clear HROW HM1 b1 hmm
    by_cases hlt : i < 1 + nu
    · have hltz : (i : Int) < 1 + (nu : Int) := by omega
      have HKY := (HK.out i hlt).1
      have hmn := (HK.out i hlt).2
      have x0 := hrow.cellAt (i * 2) (by omega)
      have x1 := hrow.cellAt (i * 2 + 1) (by omega)
      rw [keyCells_at0 _ _ hlt] at x0
      rw [keyCells_at1 _ _ hlt] at x1
      obtain ⟨bc, bd, cc, cd, ec, ed, lcw, ldw, hcol, hco⟩ := HKY
      have lc := Nat.lt_of_lt_of_le lcw hb.size
      have ld := Nat.lt_of_lt_of_le ldw hb.size
      replace hcol : 0 < (K i).n → wr.cell? ⟨bc, 0, none⟩ = some (.string ((K i).col 0)) ∧ ((K i).col 0).size ≤ maxLen := fun h => ⟨by rw [hb.cell (p := ⟨bc, 0, none⟩) lcw]; exact (hcol h).1, (hcol h).2⟩
      replace hco : 0 < (K i).m → ∀ (j : Nat) (v : Value), (collCells ((K i).co 0))[j]? = some v → wr.cell? ⟨bd, j, none⟩ = some v := fun h j v hv => by rw [hb.cell (p := ⟨bd, j, none⟩) ldw]; exact hco h j v hv
      rw [ec] at x0
      rw [ed] at x1
      rw [hmn] at x1 hco
      have HM : Hid (MapIs wr (w.heap.size + 1) i F) := hM
      have HS : Hid (Sole wr w.heap.size K i F) := hS
      have HR : Hid (wr.ownsRow w.heap.size 69 2 (.slice (some ⟨g, 0, none⟩) (1 + nu) cap) (1 + nu) (keyCells cv dv (1 + nu))) := hrow
      have HCOL : Hid (0 < (K i).n → wr.cell? ⟨bc, 0, none⟩ = some (.string ((K i).col 0)) ∧ ((K i).col 0).size ≤ maxLen) := hcol
      have HCO : Hid (0 < (K i).n → ∀ (j : Nat) (v : Value), (collCells ((K i).co 0))[j]? = some v → wr.cell? ⟨bd, j, none⟩ = some v) := hco
      have lg : g < wr.heap.size := (hrow.lt g rfl).2
      clear hM hS hrow hcol hco ec ed hmn
      by_cases hn1 : (K i).n = 1
      · rw [hn1] at x0 x1
        obtain ⟨xs, hsz⟩ := HCOL.out (by omega)
        have hco := HCO.out (by omega)
        have HN : Hid ((K i).n = 1) := hn1
        obtain ⟨s0, hs0⟩ : ∃ s, s = (K i).col 0 := ⟨_, rfl⟩
        obtain ⟨c0, hc0⟩ : ∃ s, s = (K i).co 0 := ⟨_, rfl⟩
        have HS0 : Hid (s0 = (K i).col 0) := hs0
        have HC0 : Hid (c0 = (K i).co 0) := hc0
        rw [← hs0] at xs hsz
        rw [← hc0] at hco
        have d0 := hco 0 _ rfl
        have d1 := hco 1 _ rfl
        have d2 := hco 2 _ rfl
        have d3 := hco 3 _ rfl
        obtain ⟨n0, xs0, hn0, hown0, hzero, hrest⟩ := HS.out.own (s := s0) hsz
        have HX0 : Hid ((F s0 = none → n0 = 0) ∧ ∀ c, fsTo K s0 i = some c → ∃ rest, xs0 = collCells c ++ rest) := ⟨hzero, hrest⟩
        clear hco HCOL HCO hn1 hs0 hc0 hzero hrest
        have fk : ∀ k, ((F s0).getD nilS).ownBlock = some k → w.heap.size ≤ k ∧ k < wr.heap.size := fun k hk => hown0.lt k hk
        obtain ⟨fv, hfv⟩ : ∃ v, v = (F s0).getD nilS := ⟨_, rfl⟩
        have HFV : Hid (fv = (F s0).getD nilS) := hfv
        rw [← hfv] at hown0 fk
        clear hfv
        go_upto_region 6 with fail
        obtain ⟨V, hV⟩ : ∃ V, V = wr.alloc (.cells #[.slice (some ⟨bc, 0, none⟩) 1 cc, .slice (some ⟨bd, 0, none⟩) 1 cd] 69) := ⟨_, rfl⟩
        have sV : V.heap.size = wr.heap.size + 1 := by rw [hV]; simp
        have bV : Below wr.heap.size wr V := by rw [hV]; exact (Below.refl _ _).alloc (Nat.le_refl _) _
        have k0 : V.cell? ⟨wr.heap.size, 0, none⟩ = some (.slice (some ⟨bc, 0, none⟩) 1 cc) := by rw [hV, World.cell?_alloc_at _ _ _ _ rfl]; rfl
        have k1 : V.cell? ⟨wr.heap.size, 1, none⟩ = some (.slice (some ⟨bd, 0, none⟩) 1 cd) := by rw [hV, World.cell?_alloc_at _ _ _ _ rfl]; rfl
        have HMV : Hid (MapIs V (w.heap.size + 1) i F) := by rw [hV]; exact HM.out.alloc _
        have HSV : Hid (Sole V w.heap.size K i F) := by rw [hV]; exact HS.out.alloc _
        have HRV : Hid (V.ownsRow w.heap.size 69 2 (.slice (some ⟨g, 0, none⟩) (1 + nu) cap) (1 + nu) (keyCells cv dv (1 + nu))) := by rw [hV]; exact HR.out.alloc _
        have hownV : V.ownsRow w.heap.size 76 4 fv n0 xs0 := by rw [hV]; exact hown0.alloc _
        have hbV : Below w.heap.size w V := by rw [hV]; exact hb.alloc hb.size _
        rw [← hV]
        rw [← bV.cell (p := ⟨bc, 0, none⟩) lc] at xs
        rw [← bV.cell (p := ⟨bd, 0, none⟩) ld] at d0
        rw [← bV.cell (p := ⟨bd, 1, none⟩) ld] at d1
        rw [← bV.cell (p := ⟨bd, 2, none⟩) ld] at d2
        rw [← bV.cell (p := ⟨bd, 3, none⟩) ld] at d3
        have lkV : wr.heap.size < V.heap.size := by omega
        have lcV : bc < V.heap.size := by omega
        have ldV : bd < V.heap.size := by omega
        have hL1 : (Instr.lookup 107 (.map (some (w.heap.size + 1))) (.string s0) false).run Try.prog V.drew = .ok fv V.drew := by rw [HFV.out]; exact HMV.out.drew.look hsz
        have hL2 : (Instr.lookup 107 (.map (some (w.heap.size + 1))) (.string s0) false).run Try.prog (V.alloc (.cells #[.string ⟨#[]⟩, .string c0, .string c0, .bool false] 76)).drew = .ok fv (V.alloc (.cells #[.string ⟨#[]⟩, .string c0, .string c0, .bool false] 76)).drew := by rw [HFV.out]; exact (HMV.out.alloc _).drew.look hsz
        have f1 : fv.ownBlock ≠ some wr.heap.size := fun h => by have := (fk _ h).2; omega
        have f2 : fv.ownBlock ≠ some bc := fun h => by have := (fk _ h).1; omega
        have f3 : fv.ownBlock ≠ some bd := fun h => by have := (fk _ h).1; omega
        have HNE : Hid (some (w.heap.size + 1) ≠ fv.ownBlock) := fun h => own_not_map hownV HMV.out h.symm
        have lB := HM.out.lt
        have HSV' : Hid (V.heap.size = wr.heap.size + 1) := sV
        clear hV bV HM HS HR hown0 x0 x1 lc ld hb fk sV
        generalize wr.heap.size = kb at *
        go_region_held3 (fun w' => w'.cell? ⟨kb, 0, none⟩ = some (.slice (some ⟨bc, 0, none⟩) 1 cc) ∧ w'.cell? ⟨kb, 1, none⟩ = some (.slice (some ⟨bd, 0, none⟩) 1 cd) ∧ w'.cell? ⟨bc, 0, none⟩ = some (.string s0) ∧
            w'.cell? ⟨bd, 0, none⟩ = some (.string ⟨#[]⟩) ∧ w'.cell? ⟨bd, 1, none⟩ = some (.string c0) ∧ w'.cell? ⟨bd, 2, none⟩ = some (.string c0) ∧ w'.cell? ⟨bd, 3, none⟩ = some (.bool false))
          (first
            | go_keep
            | (go_split_ands
               have q1 : some kb ≠ some (w.heap.size + 1) := (by intro h; injection h with h; omega)
               have q2 : some bc ≠ some (w.heap.size + 1) := (by intro h; injection h with h; omega)
               have q3 : some bd ≠ some (w.heap.size + 1) := (by intro h; injection h with h; omega)
               have q4 := hgrow.size
               simp at q4
               refine ⟨?_, ?_, ?_, ?_, ?_, ?_, ?_⟩
               · (rw [hg2.cell_far _ (by simp; omega) q1]; assumption)
               · (rw [hg2.cell_far _ (by simp; omega) q1]; assumption)
               · (rw [hg2.cell_far _ (by simp; omega) q2]; assumption)
               · (rw [hg2.cell_far _ (by simp; omega) q3]; assumption)
               · (rw [hg2.cell_far _ (by simp; omega) q3]; assumption)
               · (rw [hg2.cell_far _ (by simp; omega) q3]; assumption)
               · (rw [hg2.cell_far _ (by simp; omega) q3]; assumption))
            | (go_split_ands
               refine ⟨?_, ?_, ?_, ?_, ?_, ?_, ?_⟩
               · (rw [hgrow.cell_far _ (by simp; omega) (Ne.symm f1)]; assumption)
               · (rw [hgrow.cell_far _ (by simp; omega) (Ne.symm f1)]; assumption)
               · (rw [hgrow.cell_far _ (by simp; omega) (Ne.symm f2)]; assumption)
               · (rw [hgrow.cell_far _ (by simp; omega) (Ne.symm f3)]; assumption)
               · (rw [hgrow.cell_far _ (by simp; omega) (Ne.symm f3)]; assumption)
               · (rw [hgrow.cell_far _ (by simp; omega) (Ne.symm f3)]; assumption)
               · (rw [hgrow.cell_far _ (by simp; omega) (Ne.symm f3)]; assumption)))
          ((refine step_append_lies _ (by rfl) _ _ _ (by rfl) w.heap.size 76 i76 _ 4 56 Try.underlying67 ji jz0 jz1 jz2 rfl (by omega) fv n0 xs0 (by rfl) ((hownV.alloc _).drew)
              ⟨V.heap.size, 0, none⟩ 1 1 (collCells c0) (by rfl) (by rfl) (World.news_of_block (cs := #[.string ⟨#[]⟩, .string c0, .string c0, .bool false]) (t := 76) (fr := (0, 0)) (heap_alloc_new V _)) (by simp [collCells, Value.oneCell'])
              (by omega) (by unfold maxLen; omega) (by omega) (by simp; omega) (V.heap.size + 1) (by simp) ?_; intro g' cap' w1' hown1 hgrow hat hlt'
            obtain ⟨w2, hup, hM2, hg2⟩ := (((HMV.out.alloc _).drew).kept hgrow HNE.out).update hsz (by unfold maxLen; omega) (.slice (some ⟨g', 0, none⟩) (n0 + 1) cap')))
        all_goals
          have A1 : V.grownBy (V.alloc (.cells #[.string ⟨#[]⟩, .string c0, .string c0, .bool false] 76)).drew none := grown_none (((Below.refl _ _).alloc (Nat.le_refl _) _).drew)
          have M1 : MapIs w1' (w.heap.size + 1) i F := ((HMV.out.alloc _).drew).kept hgrow HNE.out
          have R1 := ((HRV.out.alloc (.cells #[.string ⟨#[]⟩, .string c0, .string c0, .bool false] 76)).drew).kept hgrow (Or.inr (fun h => own_apart HRV.out hownV (by decide) rfl h.symm))
          have R2 : Hid (w2.ownsRow w.heap.size 69 2 (.slice (some ⟨g, 0, none⟩) (1 + nu) cap) (1 + nu) (keyCells cv dv (1 + nu))) := R1.kept hg2 (Or.inr (own_not_map R1 M1))
          have B1 : Below w.heap.size w (V.alloc (.cells #[.string ⟨#[]⟩, .string c0, .string c0, .bool false] 76)).drew := (hbV.alloc hbV.size _).drew
          have B2 : Below w.heap.size w w1' := B1.grown hgrow B1.size (fun k hk => (hownV.lt k hk).1)
          have B3 : Below w.heap.size w w2 := B2.grown hg2 B2.size (fun k hk => by injection hk with hk; omega)
          have S2 : Hid (Sole w2 w.heap.size K (i + 1) (upd F s0 (some (.slice (some ⟨g', 0, none⟩) (n0 + 1) cap')))) := by
            have h1 := HS0.out
            have h2 := HC0.out
            have h3 := HFV.out
            subst h1 h2 h3
            exact HSV.out.step HN.out hsz A1 hgrow hat (by simp) hown1 hn0 ⟨fun h => ⟨HX0.out.1 h, by have e := HX0.out.1 h; subst e; exact List.eq_nil_of_length_eq_zero (by simpa using hownV.1)⟩, HX0.out.2⟩ hg2 M1
          have M2 : Hid (MapIs w2 (w.heap.size + 1) (i + 1) (upd F s0 (some (.slice (some ⟨g', 0, none⟩) (n0 + 1) cap')))) := hM2
          clear A1 M1 R1 B1 B2 hM2 hg2 hgrow hat hown1 hup hL1 hL2 hownV hbV HMV HSV HRV HNE HFV HX0 HS0 HC0 HN k0 k1 xs d0 d1 d2 d3
          go_wp2
          go_roundg (1 + nu - (i + 1))
          case measure => go_light; omega
          case rel =>
            go_light
            exact ⟨i + 1, _, by omega, rfl, by go_num, B3, R2.out, M2.out, S2.out⟩
      · have hn1' : (((K i).n : Int) == 1) = false := by rw [beq_eq_false_iff_ne]; omega
        have HN : Hid (¬ (K i).n = 1) := hn1
        clear hn1 HCOL HCO
        obtain ⟨kn, hkn⟩ : ∃ k, k = (K i).n := ⟨_, rfl⟩
        rw [← hkn] at hn1' x0 x1
        clear hkn
        go_wp2
        go_roundg (1 + nu - (i + 1))
        case measure => go_light; omega
        case rel =>
          go_light
          exact ⟨i + 1, F, by omega, rfl, by go_num, hb.alloc hb.size _, HR.out.alloc _, (HM.out.alloc _).mono (Nat.le_succ _), (HS.out.skip HN.out).alloc _⟩
    · obtain rfl : i = 1 + nu := by omega
      have HM : Hid (MapIs wr (w.heap.size + 1) (1 + nu) F) := hM
      have HS : Hid (Sole wr w.heap.size K (1 + nu) F) := hS
      clear hM hS hrow
      go_wp2
      go_ret
      exact ⟨_, F, _, rfl, hb, HM.out, HS.out⟩

end Go.Proofs.Qxb6000463a
