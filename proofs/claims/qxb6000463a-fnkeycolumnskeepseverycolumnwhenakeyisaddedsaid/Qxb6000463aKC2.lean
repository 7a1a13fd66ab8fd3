/-
  THE WALK of '(*Catalog).KeyColumns', for tables with some more unique keys.
-/
import Derived.Test.Qxb6000463aKC
namespace Go.Proofs.Qxb6000463a
open Go.RowKit
attribute [local go_sem ↓] Go.wp_at_zero Go.wp_at_succ

set_option maxRecDepth 100000 in
set_option maxHeartbeats 16000000 in
theorem kc2_any (p TB N NC : Nat) (ts : Nat → Td) (ms : Nat → Tm) (w : World) (hN : N ≤ 4096) (hnc : ∀ i, i < N → (ts i).nc ≤ 4096 ∧ (ts i).nu ≤ 8192) (h : CatAt w p TB N NC ts ms) :
    Calls Try.prog 19 #[.pointer (some ⟨p, 0, none⟩)] w (RetKC w N ts ms) := by
  obtain ⟨i80, ji, jz0, jz1, jz2⟩ := info_parts Try.info80
  have HC : Hid (CatAt w p TB N NC ts ms) := h
  have HNC : Hid (∀ i, i < N → (ts i).nc ≤ 4096 ∧ (ts i).nu ≤ 8192) := hnc
  have x0 := h.top
  have lp := h.lp
  clear h hnc
  go_enter Try.func19, Try.ntmps19
  go_wp2
  go_loopg [3, 16] N (fun gg s t wx => ∃ (i : Nat) (v : Value), i ≤ N ∧ gg = N - i ∧ s = v ∧ t = .int .i64 i ∧ Below w.heap.size w wx ∧ wx.ownsRow w.heap.size 80 35 v (nT ts i) (outT ts ms i))
  case atStart => exact ⟨0, _, Nat.zero_le _, rfl, rfl, rfl, Below.refl _ _, ⟨rfl, Or.inl ⟨rfl, rfl⟩⟩⟩
  case round =>
    obtain ⟨i, v, hi, rfl, rfl, rfl, hb, hown⟩ := hrel
    have HOWN : Hid (wr.ownsRow w.heap.size 80 35 u3 (nT ts i) (outT ts ms i)) := hown
    clear hown x0
    by_cases hlt : i < N
    · have hltz : (i : Int) < (N : Int) := by omega
      obtain ⟨hcells, lb, lc, lu, hcols, huni, hkey⟩ := (HC.out.tab i hlt).below hb
      obtain ⟨pb, qb, pc, qc, ep, eq, _⟩ := (hkey 0 (by omega)).1
      have HONE : Hid (∀ v ∈ tcells (ts i) (ms i), v.oneCell' = true) := by
        show ∀ v ∈ tcells (ts i) (ms i), v.oneCell' = true
        unfold tcells
        rw [ep, eq]
        simp [Value.oneCell']
      have hnu := (HNC.out i hlt).2
      have hsole := sole_any (ts i).key (ms i).cv (ms i).dv (ts i).nu (ms i).ub (ms i).uc (.string (ts i).sch) (.string (ts i).nm) (.string (ts i).nm) (.int .u32 (ts i).oid) (.string ⟨#[]⟩) (.string ⟨#[]⟩) (.string ⟨#[]⟩) (.slice (some ⟨(ms i).cb, 0, none⟩) (ts i).nc (ms i).cc) (.slice none 0 0) (.bool false) (.bool false) (.bool false)
        (wr.alloc (.cells (tcells (ts i) (ms i)).toArray 72)) (by omega) (by simp; omega) (fun u hu => ⟨by rw [World.cell?_alloc_past _ _ _ lu]; exact (huni u hu).1, by rw [World.cell?_alloc_past _ _ _ lu]; exact (huni u hu).2⟩)
        (fun u hu => ⟨(hkey u hu).1.below ((Below.refl _ _).alloc (Nat.le_refl _) _), (hkey u hu).2⟩)
      have HSOLE : Hid (Calls Try.prog 38 #[.agg (tcells (ts i) (ms i)).toArray] (wr.alloc (.cells (tcells (ts i) (ms i)).toArray 72)) (RetSole (wr.alloc (.cells (tcells (ts i) (ms i)).toArray 72)) (ts i).key (1 + (ts i).nu))) := hsole
      have HCOLS : Hid (∀ j, j < (ts i).nc → wr.rangeAt (ms i).cb (j * 16) (ccells ((ts i).col j)) ∧ ((ts i).col j).nm.size ≤ maxLen) := hcols
      have HCELLS : Hid (wr.rangeAt TB (i * 15) (tcells (ts i) (ms i))) := hcells
      have ta7 : (tcells (ts i) (ms i))[7]? = some (.slice (some ⟨(ms i).cb, 0, none⟩) (ts i).nc (ms i).cc) := rfl
      clear hcells hcols huni hkey ep eq hsole
      go_wp2_with (first
        | (refine wpList_load_mid rfl 72 _ rfl TB (i * 15) rfl (tcells (ts i) (ms i)) _ HCELLS.out Try.underlying72 rfl size72 ?_)
        | (refine wpList_store_new rfl 72 _ _ rfl wr _ (tcells (ts i) (ms i)).toArray rfl rfl rfl size72 (all_oneCell_toArray HONE.out) ?_)
        | (refine wpList_load_mid rfl 72 _ rfl wr.heap.size 0 rfl (tcells (ts i) (ms i)) _ (range_new wr 72 _) Try.underlying72 rfl size72 ?_)
        | fail)
      refine HSOLE.out.mono ?_
      rintro e w1 ⟨B, F, nm, rfl, b1, hM, hS⟩
      have bA : Below wr.heap.size wr (wr.alloc (.cells (tcells (ts i) (ms i)).toArray 72)) := (Below.refl _ _).alloc (Nat.le_refl _) _
      have bA1 : Below wr.heap.size wr w1 := bA.trans (b1.mono bA.size)
      have hb1 : Below w.heap.size w w1 := hb.trans (bA1.mono hb.size)
      have HOWN1 : Hid (w1.ownsRow w.heap.size 80 35 u3 (nT ts i) (outT ts ms i)) := own_keep HOWN.out bA1
      have HTAB : Hid (w1.ownsRow w.heap.size 72 15 (.slice (some ⟨wr.heap.size, 0, none⟩) 1 1) 1 (tcells (ts i) (ms i))) := own_keep (own_new wr w.heap.size 72 15 (tcells (ts i) (ms i)) hb.size rfl) b1
      have c7 : w1.cell? ⟨wr.heap.size, 7, none⟩ = some (.slice (some ⟨(ms i).cb, 0, none⟩) (ts i).nc (ms i).cc) := by rw [HTAB.out.cellAt 7 (by omega)]; exact ta7
      have HM : Hid (MapIs w1 B nm F) := hM
      have HS : Hid (Sole w1 (wr.alloc (.cells (tcells (ts i) (ms i)).toArray 72)).heap.size (ts i).key (1 + (ts i).nu) F) := hS
      have lcb := (HC.out.tab i hlt).lc
      have hnc := (HNC.out i hlt).1
      have l1 : wr.heap.size < w1.heap.size := Nat.lt_of_lt_of_le (by simp) b1.size
      generalize (wr.alloc (.cells (tcells (ts i) (ms i)).toArray 72)).heap.size = base1 at HS
      clear hM hS b1 bA bA1 HOWN HSOLE HCOLS HCELLS HONE lb lc lu hb ta7
      generalize wr.heap.size = tb at *
      go_wp2
      go_loopg [3, 25] (ts i).nc (fun gg s t wx => ∃ (j : Nat) (v : Value), j ≤ (ts i).nc ∧ gg = (ts i).nc - j ∧ s = v ∧ t = .int .i64 j ∧ Below w.heap.size w wx ∧ wx.ownsRow w.heap.size 80 35 v (nT ts i + nC (ts i) j) (outT ts ms i ++ outC (ts i) (ms i) j) ∧
        wx.ownsRow w.heap.size 72 15 (.slice (some ⟨tb, 0, none⟩) 1 1) 1 (tcells (ts i) (ms i)) ∧ MapIs wx B nm F ∧ Sole wx base1 (ts i).key (1 + (ts i).nu) F)
      case atStart => exact ⟨0, _, Nat.zero_le _, rfl, rfl, rfl, hb1, by simpa [nC, outC] using HOWN1.out, HTAB.out, HM.out, HS.out⟩
      case round =>
        clear HOWN1 HTAB c7 HM HS hb1 l1
        obtain ⟨j, v, hj, rfl, rfl, rfl, hb, hown, htab, hM, hS⟩ := hrel
        have HOWN : Hid (wr.ownsRow w.heap.size 80 35 u3 (nT ts i + nC (ts i) j) (outT ts ms i ++ outC (ts i) (ms i) j)) := hown
        have HTAB : Hid (wr.ownsRow w.heap.size 72 15 (.slice (some ⟨tb, 0, none⟩) 1 1) 1 (tcells (ts i) (ms i))) := htab
        have HM : Hid (MapIs wr B nm F) := hM
        have HS : Hid (Sole wr base1 (ts i).key (1 + (ts i).nu) F) := hS
        clear hown htab hM hS
        by_cases hjl : j < (ts i).nc
        · have hjz : (j : Int) < ((ts i).nc : Int) := by omega
          obtain ⟨hcol, hsz⟩ := ((HC.out.tab i hlt).below hb).cols j hjl
          have HCOL : Hid (wr.rangeAt (ms i).cb (j * 16) (ccells ((ts i).col j))) := hcol
          have HONE : Hid (∀ v ∈ ccells ((ts i).col j), v.oneCell' = true) := by
            show ∀ v ∈ ccells ((ts i).col j), v.oneCell' = true
            simp [ccells, Value.oneCell']
          have HT : Hid ((ts i).fs ((ts i).col j).nm = fsTo (ts i).key ((ts i).col j).nm (1 + (ts i).nu)) := rfl
          obtain ⟨c, hc⟩ : ∃ c, c = (ts i).col j := ⟨_, rfl⟩
          have HCC : Hid (c = (ts i).col j) := hc
          rw [← hc] at hsz HCOL HONE HT
          clear hcol hc
          have c0 : (ccells c)[0]? = some (.string c.nm) := rfl
          cases efs : (ts i).fs c.nm with
          | none =>
            have hF := HS.out.no c.nm hsz (by rw [← HT.out]; exact efs)
            have hlk := (HM.out.alloc (.cells (ccells c).toArray 78)).look_ok hsz
            rw [hF] at hlk
            simp only [Option.getD_none, Option.isSome_none] at hlk
            have HEFS : Hid ((ts i).fs c.nm = none) := efs
            clear efs hF
            go_wp2_with (first
              | (refine wpList_load_mid rfl 78 _ rfl (ms i).cb (j * 16) rfl (ccells c) _ HCOL.out Try.underlying78 rfl size78 ?_)
              | (refine wpList_store_new rfl 78 _ _ rfl wr _ (ccells c).toArray rfl rfl rfl size78 (all_oneCell_toArray HONE.out) ?_)
              | fail)
            have hE : outC (ts i) (ms i) (j + 1) = outC (ts i) (ms i) j ∧ nC (ts i) (j + 1) = nC (ts i) j := by
              have e := HEFS.out
              have e2 := HCC.out
              subst e2
              simp [outC, nC, out1, n1, e]
            have HE : Hid (outC (ts i) (ms i) (j + 1) = outC (ts i) (ms i) j ∧ nC (ts i) (j + 1) = nC (ts i) j) := hE
            clear hE
            go_roundg ((ts i).nc - (j + 1))
            case measure => go_light; omega
            case rel =>
              go_light
              refine ⟨j + 1, _, by omega, rfl, rfl, by go_num, hb.alloc hb.size _, ?_, HTAB.out.alloc _, HM.out.alloc _, HS.out.alloc _⟩
              rw [HE.out.1, HE.out.2]
              exact HOWN.out.alloc _
          | some co =>
            obtain ⟨g, n, cap, rest, hF, hn0, _, hcoll⟩ := HS.out.yes c.nm hsz co (by rw [← HT.out]; exact efs)
            have hlk := (HM.out.alloc (.cells (ccells c).toArray 78)).look_ok hsz
            rw [hF] at hlk
            simp only [Option.getD_some, Option.isSome_some] at hlk
            have HEFS : Hid ((ts i).fs c.nm = some co) := efs
            have HCOLL : Hid (wr.ownsRow base1 76 4 (.slice (some ⟨g, 0, none⟩) n cap) n (collCells co ++ rest)) := hcoll
            have hnz : (0 : Int) < (n : Int) := by omega
            clear efs hF hcoll
            go_wp2_with (first
              | (refine wpList_load_mid rfl 78 _ rfl (ms i).cb (j * 16) rfl (ccells c) _ HCOL.out Try.underlying78 rfl size78 ?_)
              | (refine wpList_store_new rfl 78 _ _ rfl wr _ (ccells c).toArray rfl rfl rfl size78 (all_oneCell_toArray HONE.out) ?_)
              | fail)
            obtain ⟨V, hV⟩ : ∃ V, V = wr.alloc (.cells (ccells c).toArray 78) := ⟨_, rfl⟩
            have sV : V.heap.size = wr.heap.size + 1 := by rw [hV]; simp
            have hbV : Below w.heap.size w V := by rw [hV]; exact hb.alloc hb.size _
            have rOWN : V.ownsRow w.heap.size 80 35 u3 (nT ts i + nC (ts i) j) (outT ts ms i ++ outC (ts i) (ms i) j) := by rw [hV]; exact HOWN.out.alloc _
            have rTAB : V.ownsRow w.heap.size 72 15 (.slice (some ⟨tb, 0, none⟩) 1 1) 1 (tcells (ts i) (ms i)) := by rw [hV]; exact HTAB.out.alloc _
            have rCOL : V.ownsRow w.heap.size 78 16 (.slice (some ⟨wr.heap.size, 0, none⟩) 1 1) 1 (ccells c) := by rw [hV]; exact own_new wr w.heap.size 78 16 (ccells c) hb.size rfl
            have rCO : V.ownsRow base1 76 4 (.slice (some ⟨g, 0, none⟩) n cap) n (collCells co ++ rest) := by rw [hV]; exact HCOLL.out.alloc _
            have HMV : Hid (MapIs V B nm F) := by rw [hV]; exact HM.out.alloc _
            have HSV : Hid (Sole V base1 (ts i).key (1 + (ts i).nu) F) := by rw [hV]; exact HS.out.alloc _
            rw [← hV]
            have q1 : V.rangeAt tb 0 (tcells (ts i) (ms i)) := own_range (ys := []) (by simpa using rTAB)
            have q2 : V.rangeAt wr.heap.size 0 (ccells c) := own_range (ys := []) (by simpa using rCOL)
            have q3 : V.rangeAt g 0 (collCells co) := own_range rCO
            obtain ⟨pv, hpv⟩ : ∃ v, v = (ms i).cv 0 := ⟨_, rfl⟩
            obtain ⟨qv, hqv⟩ : ∃ v, v = (ms i).dv 0 := ⟨_, rfl⟩
            have HPV : Hid (pv = (ms i).cv 0) := hpv
            have HQV : Hid (qv = (ms i).dv 0) := hqv
            clear hpv hqv
            have z0 : V.cell? ⟨tb, 0, none⟩ = some (.string (ts i).sch) := by have := q1 0 _ rfl; rwa [Nat.zero_add] at this
            have z1 : V.cell? ⟨tb, 1, none⟩ = some (.string (ts i).nm) := by have := q1 1 _ rfl; rwa [Nat.zero_add] at this
            have z2 : V.cell? ⟨tb, 2, none⟩ = some (.string (ts i).nm) := by have := q1 2 _ rfl; rwa [Nat.zero_add] at this
            have z3 : V.cell? ⟨tb, 3, none⟩ = some (.int .u32 (ts i).oid) := by have := q1 3 _ rfl; rwa [Nat.zero_add] at this
            have z4 : V.cell? ⟨tb, 4, none⟩ = some (.string ⟨#[]⟩) := by have := q1 4 _ rfl; rwa [Nat.zero_add] at this
            have z5 : V.cell? ⟨tb, 5, none⟩ = some (.string ⟨#[]⟩) := by have := q1 5 _ rfl; rwa [Nat.zero_add] at this
            have z6 : V.cell? ⟨tb, 6, none⟩ = some (.string ⟨#[]⟩) := by have := q1 6 _ rfl; rwa [Nat.zero_add] at this
            have z7 : V.cell? ⟨tb, 7, none⟩ = some (.slice (some ⟨(ms i).cb, 0, none⟩) (ts i).nc (ms i).cc) := by have := q1 7 _ rfl; rwa [Nat.zero_add] at this
            have z8 : V.cell? ⟨tb, 8, none⟩ = some (pv) := by have := q1 8 _ rfl; simpa [HPV.out, HQV.out] using this
            have z9 : V.cell? ⟨tb, 9, none⟩ = some (qv) := by have := q1 9 _ rfl; simpa [HPV.out, HQV.out] using this
            have z10 : V.cell? ⟨tb, 10, none⟩ = some (.slice (some ⟨(ms i).ub, 0, none⟩) (ts i).nu (ms i).uc) := by have := q1 10 _ rfl; rwa [Nat.zero_add] at this
            have z11 : V.cell? ⟨tb, 11, none⟩ = some (.slice none 0 0) := by have := q1 11 _ rfl; rwa [Nat.zero_add] at this
            have z12 : V.cell? ⟨tb, 12, none⟩ = some (.bool false) := by have := q1 12 _ rfl; rwa [Nat.zero_add] at this
            have z13 : V.cell? ⟨tb, 13, none⟩ = some (.bool false) := by have := q1 13 _ rfl; rwa [Nat.zero_add] at this
            have z14 : V.cell? ⟨tb, 14, none⟩ = some (.bool false) := by have := q1 14 _ rfl; rwa [Nat.zero_add] at this
            have y0 : V.cell? ⟨wr.heap.size, 0, none⟩ = some (.string c.nm) := by have := q2 0 _ rfl; rwa [Nat.zero_add] at this
            have y1 : V.cell? ⟨wr.heap.size, 1, none⟩ = some (.string c.nm) := by have := q2 1 _ rfl; rwa [Nat.zero_add] at this
            have y2 : V.cell? ⟨wr.heap.size, 2, none⟩ = some (.int .i64 c.pos) := by have := q2 2 _ rfl; rwa [Nat.zero_add] at this
            have y3 : V.cell? ⟨wr.heap.size, 3, none⟩ = some (.string ⟨#[]⟩) := by have := q2 3 _ rfl; rwa [Nat.zero_add] at this
            have y4 : V.cell? ⟨wr.heap.size, 4, none⟩ = some (.string ⟨#[]⟩) := by have := q2 4 _ rfl; rwa [Nat.zero_add] at this
            have y5 : V.cell? ⟨wr.heap.size, 5, none⟩ = some (.bool false) := by have := q2 5 _ rfl; rwa [Nat.zero_add] at this
            have y6 : V.cell? ⟨wr.heap.size, 6, none⟩ = some (.bool false) := by have := q2 6 _ rfl; rwa [Nat.zero_add] at this
            have y7 : V.cell? ⟨wr.heap.size, 7, none⟩ = some (.string ⟨#[]⟩) := by have := q2 7 _ rfl; rwa [Nat.zero_add] at this
            have y8 : V.cell? ⟨wr.heap.size, 8, none⟩ = some (.bool false) := by have := q2 8 _ rfl; rwa [Nat.zero_add] at this
            have y9 : V.cell? ⟨wr.heap.size, 9, none⟩ = some (.string ⟨#[]⟩) := by have := q2 9 _ rfl; rwa [Nat.zero_add] at this
            have y10 : V.cell? ⟨wr.heap.size, 10, none⟩ = some (.string c.co) := by have := q2 10 _ rfl; rwa [Nat.zero_add] at this
            have y11 : V.cell? ⟨wr.heap.size, 11, none⟩ = some (.string c.co) := by have := q2 11 _ rfl; rwa [Nat.zero_add] at this
            have y12 : V.cell? ⟨wr.heap.size, 12, none⟩ = some (.bool false) := by have := q2 12 _ rfl; rwa [Nat.zero_add] at this
            have y13 : V.cell? ⟨wr.heap.size, 13, none⟩ = some (.bool false) := by have := q2 13 _ rfl; rwa [Nat.zero_add] at this
            have y14 : V.cell? ⟨wr.heap.size, 14, none⟩ = some (.slice none 0 0) := by have := q2 14 _ rfl; rwa [Nat.zero_add] at this
            have y15 : V.cell? ⟨wr.heap.size, 15, none⟩ = some (.string ⟨#[]⟩) := by have := q2 15 _ rfl; rwa [Nat.zero_add] at this
            have x0 : V.cell? ⟨g, 0, none⟩ = some (.string ⟨#[]⟩) := by have := q3 0 _ rfl; rwa [Nat.zero_add] at this
            have x1 : V.cell? ⟨g, 1, none⟩ = some (.string co) := by have := q3 1 _ rfl; rwa [Nat.zero_add] at this
            have x2 : V.cell? ⟨g, 2, none⟩ = some (.string co) := by have := q3 2 _ rfl; rwa [Nat.zero_add] at this
            have x3 : V.cell? ⟨g, 3, none⟩ = some (.bool false) := by have := q3 3 _ rfl; rwa [Nat.zero_add] at this
            have hcount : nT ts i + nC (ts i) j + 1 ≤ 20000000 := by
              have h1 := nT_le ts (N := N) (fun i hi => (HNC.out i hi).1) i hi
              have h2 := nC_le (ts i) j
              omega
            have hbw := hbV.size
            have HONEK : Hid (∀ u ∈ ([.string (ts i).sch, .string (ts i).nm, .string (ts i).nm, .int .u32 (ts i).oid, .string ⟨#[]⟩, .string ⟨#[]⟩, .string ⟨#[]⟩, .slice (some ⟨(ms i).cb, 0, none⟩) (ts i).nc (ms i).cc, pv, qv, .slice (some ⟨(ms i).ub, 0, none⟩) (ts i).nu (ms i).uc, .slice none 0 0, .bool false, .bool false, .bool false, .string c.nm, .string c.nm, .int .i64 c.pos, .string ⟨#[]⟩, .string ⟨#[]⟩, .bool false, .bool false, .string ⟨#[]⟩, .bool false, .string ⟨#[]⟩, .string c.co, .string c.co, .bool false, .bool false, .slice none 0 0, .string ⟨#[]⟩, .string ⟨#[]⟩, .string co, .string co, .bool false] : List Value), u.oneCell' = true) := by
              obtain ⟨_, _, _, _, ep, eq, _⟩ := ((HC.out.tab i hlt).key 0 (by omega)).1
              have e1 := HPV.out
              have e2 := HQV.out
              rw [ep] at e1
              rw [eq] at e2
              rw [e1, e2]
              intro u hu
              simp only [List.mem_cons, List.not_mem_nil, or_false] at hu
              rcases hu with h | h | h | h | h | h | h | h | h | h | h | h | h | h | h | h | h | h | h | h | h | h | h | h | h | h | h | h | h | h | h | h | h | h | h <;> (rw [h]; rfl)
            have HSIZE : Hid (V.heap.size = wr.heap.size + 1) := sV
            have hAP : u3.ownBlock ≠ some tb ∧ u3.ownBlock ≠ some wr.heap.size ∧ u3.ownBlock ≠ some g := ⟨own_apart rTAB rOWN (by decide) rfl, own_apart rCOL rOWN (by decide) rfl, own_apart rCO rOWN (by decide) rfl⟩
            have HAP : Hid (u3.ownBlock ≠ some tb ∧ u3.ownBlock ≠ some wr.heap.size ∧ u3.ownBlock ≠ some g) := hAP
            have lt1 : tb < V.heap.size := (rTAB.lt tb rfl).2
            have lt2 : wr.heap.size < V.heap.size := (rCOL.lt _ rfl).2
            have lt3 : g < V.heap.size := (rCO.lt g rfl).2
            have HOWNV : Hid (V.ownsRow w.heap.size 80 35 u3 (nT ts i + nC (ts i) j) (outT ts ms i ++ outC (ts i) (ms i) j)) := rOWN
            have HTABV : Hid (V.ownsRow w.heap.size 72 15 (.slice (some ⟨tb, 0, none⟩) 1 1) 1 (tcells (ts i) (ms i))) := rTAB
            clear hV sV hb HOWN HTAB HCOLL HM HS hlk c0 HCOL hAP rOWN rTAB rCOL rCO q1 q2 q3
            generalize wr.heap.size = kb at *
            go_region_held3 (fun w' => w'.cell? ⟨tb, 0, none⟩ = some (.string (ts i).sch) ∧ w'.cell? ⟨tb, 1, none⟩ = some (.string (ts i).nm) ∧ w'.cell? ⟨tb, 2, none⟩ = some (.string (ts i).nm) ∧ w'.cell? ⟨tb, 3, none⟩ = some (.int .u32 (ts i).oid) ∧ w'.cell? ⟨tb, 4, none⟩ = some (.string ⟨#[]⟩) ∧ w'.cell? ⟨tb, 5, none⟩ = some (.string ⟨#[]⟩) ∧ w'.cell? ⟨tb, 6, none⟩ = some (.string ⟨#[]⟩) ∧ w'.cell? ⟨tb, 7, none⟩ = some (.slice (some ⟨(ms i).cb, 0, none⟩) (ts i).nc (ms i).cc) ∧ w'.cell? ⟨tb, 8, none⟩ = some (pv) ∧ w'.cell? ⟨tb, 9, none⟩ = some (qv) ∧ w'.cell? ⟨tb, 10, none⟩ = some (.slice (some ⟨(ms i).ub, 0, none⟩) (ts i).nu (ms i).uc) ∧ w'.cell? ⟨tb, 11, none⟩ = some (.slice none 0 0) ∧ w'.cell? ⟨tb, 12, none⟩ = some (.bool false) ∧ w'.cell? ⟨tb, 13, none⟩ = some (.bool false) ∧ w'.cell? ⟨tb, 14, none⟩ = some (.bool false) ∧ w'.cell? ⟨kb, 0, none⟩ = some (.string c.nm) ∧ w'.cell? ⟨kb, 1, none⟩ = some (.string c.nm) ∧ w'.cell? ⟨kb, 2, none⟩ = some (.int .i64 c.pos) ∧ w'.cell? ⟨kb, 3, none⟩ = some (.string ⟨#[]⟩) ∧ w'.cell? ⟨kb, 4, none⟩ = some (.string ⟨#[]⟩) ∧ w'.cell? ⟨kb, 5, none⟩ = some (.bool false) ∧ w'.cell? ⟨kb, 6, none⟩ = some (.bool false) ∧ w'.cell? ⟨kb, 7, none⟩ = some (.string ⟨#[]⟩) ∧ w'.cell? ⟨kb, 8, none⟩ = some (.bool false) ∧ w'.cell? ⟨kb, 9, none⟩ = some (.string ⟨#[]⟩) ∧ w'.cell? ⟨kb, 10, none⟩ = some (.string c.co) ∧ w'.cell? ⟨kb, 11, none⟩ = some (.string c.co) ∧ w'.cell? ⟨kb, 12, none⟩ = some (.bool false) ∧ w'.cell? ⟨kb, 13, none⟩ = some (.bool false) ∧ w'.cell? ⟨kb, 14, none⟩ = some (.slice none 0 0) ∧ w'.cell? ⟨kb, 15, none⟩ = some (.string ⟨#[]⟩) ∧ w'.cell? ⟨g, 0, none⟩ = some (.string ⟨#[]⟩) ∧ w'.cell? ⟨g, 1, none⟩ = some (.string co) ∧ w'.cell? ⟨g, 2, none⟩ = some (.string co) ∧ w'.cell? ⟨g, 3, none⟩ = some (.bool false))
              (first
                | go_keep
                | (go_split_ands
                   refine ⟨?_, ?_, ?_, ?_, ?_, ?_, ?_, ?_, ?_, ?_, ?_, ?_, ?_, ?_, ?_, ?_, ?_, ?_, ?_, ?_, ?_, ?_, ?_, ?_, ?_, ?_, ?_, ?_, ?_, ?_, ?_, ?_, ?_, ?_, ?_⟩ <;> (first
                     | (rw [hgrow.cell_far _ (by simp; omega) (Ne.symm HAP.out.1)]; assumption)
                     | (rw [hgrow.cell_far _ (by simp; omega) (Ne.symm HAP.out.2.1)]; assumption)
                     | (rw [hgrow.cell_far _ (by simp; omega) (Ne.symm HAP.out.2.2)]; assumption))))
              ((refine step_append_lies _ (by rfl) _ _ _ (by rfl) w.heap.size 80 i80 _ 35 496 Try.underlying53 ji jz0 jz1 jz2 rfl (by omega) u3 (nT ts i + nC (ts i) j) (outT ts ms i ++ outC (ts i) (ms i) j) (by rfl) ((HOWNV.out.alloc _).drew)
                  ⟨V.heap.size, 0, none⟩ 1 1 [.string (ts i).sch, .string (ts i).nm, .string (ts i).nm, .int .u32 (ts i).oid, .string ⟨#[]⟩, .string ⟨#[]⟩, .string ⟨#[]⟩, .slice (some ⟨(ms i).cb, 0, none⟩) (ts i).nc (ms i).cc, pv, qv, .slice (some ⟨(ms i).ub, 0, none⟩) (ts i).nu (ms i).uc, .slice none 0 0, .bool false, .bool false, .bool false, .string c.nm, .string c.nm, .int .i64 c.pos, .string ⟨#[]⟩, .string ⟨#[]⟩, .bool false, .bool false, .string ⟨#[]⟩, .bool false, .string ⟨#[]⟩, .string c.co, .string c.co, .bool false, .bool false, .slice none 0 0, .string ⟨#[]⟩, .string ⟨#[]⟩, .string co, .string co, .bool false] (by rfl) (by rfl) (World.news_of_block (cs := #[.string (ts i).sch, .string (ts i).nm, .string (ts i).nm, .int .u32 (ts i).oid, .string ⟨#[]⟩, .string ⟨#[]⟩, .string ⟨#[]⟩, .slice (some ⟨(ms i).cb, 0, none⟩) (ts i).nc (ms i).cc, pv, qv, .slice (some ⟨(ms i).ub, 0, none⟩) (ts i).nu (ms i).uc, .slice none 0 0, .bool false, .bool false, .bool false, .string c.nm, .string c.nm, .int .i64 c.pos, .string ⟨#[]⟩, .string ⟨#[]⟩, .bool false, .bool false, .string ⟨#[]⟩, .bool false, .string ⟨#[]⟩, .string c.co, .string c.co, .bool false, .bool false, .slice none 0 0, .string ⟨#[]⟩, .string ⟨#[]⟩, .string co, .string co, .bool false]) (t := 80) (fr := (0, 0)) (heap_alloc_new V _)) HONEK.out
                  (by omega) (by unfold maxLen; omega) (by omega) (by simp; omega) (V.heap.size + 1) (by simp) ?_; intro g' cap' w1' hown1 hgrow hat hlt'))
            have hE : outC (ts i) (ms i) (j + 1) = outC (ts i) (ms i) j ++ [.string (ts i).sch, .string (ts i).nm, .string (ts i).nm, .int .u32 (ts i).oid, .string ⟨#[]⟩, .string ⟨#[]⟩, .string ⟨#[]⟩, .slice (some ⟨(ms i).cb, 0, none⟩) (ts i).nc (ms i).cc, pv, qv, .slice (some ⟨(ms i).ub, 0, none⟩) (ts i).nu (ms i).uc, .slice none 0 0, .bool false, .bool false, .bool false, .string c.nm, .string c.nm, .int .i64 c.pos, .string ⟨#[]⟩, .string ⟨#[]⟩, .bool false, .bool false, .string ⟨#[]⟩, .bool false, .string ⟨#[]⟩, .string c.co, .string c.co, .bool false, .bool false, .slice none 0 0, .string ⟨#[]⟩, .string ⟨#[]⟩, .string co, .string co, .bool false] ∧ nC (ts i) (j + 1) = nC (ts i) j + 1 := by
              have e := HEFS.out
              have e2 := HCC.out
              have e3 := HPV.out
              have e4 := HQV.out
              subst e2 e3 e4
              refine ⟨?_, ?_⟩
              · show outC (ts i) (ms i) j ++ out1 (ts i) (ms i) j = _
                unfold out1
                rw [e]; rfl
              · show nC (ts i) j + n1 (ts i) j = _
                unfold n1
                rw [e]; rfl
            have B1 : Below w.heap.size w (V.alloc (.cells #[.string (ts i).sch, .string (ts i).nm, .string (ts i).nm, .int .u32 (ts i).oid, .string ⟨#[]⟩, .string ⟨#[]⟩, .string ⟨#[]⟩, .slice (some ⟨(ms i).cb, 0, none⟩) (ts i).nc (ms i).cc, pv, qv, .slice (some ⟨(ms i).ub, 0, none⟩) (ts i).nu (ms i).uc, .slice none 0 0, .bool false, .bool false, .bool false, .string c.nm, .string c.nm, .int .i64 c.pos, .string ⟨#[]⟩, .string ⟨#[]⟩, .bool false, .bool false, .string ⟨#[]⟩, .bool false, .string ⟨#[]⟩, .string c.co, .string c.co, .bool false, .bool false, .slice none 0 0, .string ⟨#[]⟩, .string ⟨#[]⟩, .string co, .string co, .bool false] 80)).drew := (hbV.alloc hbV.size _).drew
            have B2 : Below w.heap.size w w1' := B1.grown hgrow B1.size (fun k hk => (HOWNV.out.lt k hk).1)
            have R1 : Hid (w1'.ownsRow w.heap.size 80 35 (.slice (some ⟨g', 0, none⟩) (nT ts i + nC (ts i) j + 1) cap') (nT ts i + nC (ts i) (j + 1)) (outT ts ms i ++ outC (ts i) (ms i) (j + 1))) := by
              rw [hE.1, hE.2, ← List.append_assoc]
              exact hown1
            have R2 : Hid (w1'.ownsRow w.heap.size 72 15 (.slice (some ⟨tb, 0, none⟩) 1 1) 1 (tcells (ts i) (ms i))) := ((HTABV.out.alloc (.cells #[.string (ts i).sch, .string (ts i).nm, .string (ts i).nm, .int .u32 (ts i).oid, .string ⟨#[]⟩, .string ⟨#[]⟩, .string ⟨#[]⟩, .slice (some ⟨(ms i).cb, 0, none⟩) (ts i).nc (ms i).cc, pv, qv, .slice (some ⟨(ms i).ub, 0, none⟩) (ts i).nu (ms i).uc, .slice none 0 0, .bool false, .bool false, .bool false, .string c.nm, .string c.nm, .int .i64 c.pos, .string ⟨#[]⟩, .string ⟨#[]⟩, .bool false, .bool false, .string ⟨#[]⟩, .bool false, .string ⟨#[]⟩, .string c.co, .string c.co, .bool false, .bool false, .slice none 0 0, .string ⟨#[]⟩, .string ⟨#[]⟩, .string co, .string co, .bool false] 80)).drew).kept hgrow (Or.inr (fun h => HAP.out.1 h.symm))
            have R3 : Hid (MapIs w1' B nm F) := ((HMV.out.alloc (.cells #[.string (ts i).sch, .string (ts i).nm, .string (ts i).nm, .int .u32 (ts i).oid, .string ⟨#[]⟩, .string ⟨#[]⟩, .string ⟨#[]⟩, .slice (some ⟨(ms i).cb, 0, none⟩) (ts i).nc (ms i).cc, pv, qv, .slice (some ⟨(ms i).ub, 0, none⟩) (ts i).nu (ms i).uc, .slice none 0 0, .bool false, .bool false, .bool false, .string c.nm, .string c.nm, .int .i64 c.pos, .string ⟨#[]⟩, .string ⟨#[]⟩, .bool false, .bool false, .string ⟨#[]⟩, .bool false, .string ⟨#[]⟩, .string c.co, .string c.co, .bool false, .bool false, .slice none 0 0, .string ⟨#[]⟩, .string ⟨#[]⟩, .string co, .string co, .bool false] 80)).drew).kept hgrow (fun h => own_not_map HOWNV.out HMV.out h.symm)
            have R4 : Hid (Sole w1' base1 (ts i).key (1 + (ts i).nu) F) := (Sole.drew (HSV.out.alloc _)).kept hgrow (HSV.out.far HOWNV.out (by decide))
            clear B1 hE hown1 hgrow hat hlt' z0 z1 z2 z3 z4 z5 z6 z7 z8 z9 z10 z11 z12 z13 z14 y0 y1 y2 y3 y4 y5 y6 y7 y8 y9 y10 y11 y12 y13 y14 y15 x0 x1 x2 x3 HONEK HAP HOWNV HTABV HMV HSV HPV HQV
            go_wp2
            go_roundg ((ts i).nc - (j + 1))
            case measure => go_light; omega
            case rel =>
              go_light
              exact ⟨j + 1, _, by omega, rfl, rfl, by go_num, B2, R1.out, R2.out, R3.out, R4.out⟩
        · obtain rfl : j = (ts i).nc := by omega
          go_wp2
          go_roundg (N - (i + 1))
          case measure => go_light; omega
          case rel =>
            go_light
            exact ⟨i + 1, _, by omega, rfl, rfl, by go_num, hb, HOWN.out⟩
    · obtain rfl : i = N := by omega
      go_wp2
      go_ret
      exact ⟨u3, rfl, hb, HOWN.out⟩

end Go.Proofs.Qxb6000463a
