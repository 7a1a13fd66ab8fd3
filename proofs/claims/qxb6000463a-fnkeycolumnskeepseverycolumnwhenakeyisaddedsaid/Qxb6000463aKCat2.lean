/-
  THE WALK of 'kCatalog', telling more of the catalog that it lays (for a catalog that is then turned).
-/
import Derived.Test.Qxb6000463aIn
namespace Go.Proofs.Qxb6000463a
open Go.RowKit
attribute [local go_sem ↓] Go.wp_at_zero Go.wp_at_succ

def zT : List Value := [.string ⟨#[]⟩, .string ⟨#[]⟩, .string ⟨#[]⟩, .int .u32 0, .string ⟨#[]⟩, .string ⟨#[]⟩, .string ⟨#[]⟩, .slice none 0 0, .slice none 0 0, .slice none 0 0, .slice none 0 0, .slice none 0 0, .bool false, .bool false, .bool false]
def zC : List Value := [.string ⟨#[]⟩, .string ⟨#[]⟩, .int .i64 0, .string ⟨#[]⟩, .string ⟨#[]⟩, .bool false, .bool false, .string ⟨#[]⟩, .bool false, .string ⟨#[]⟩, .string ⟨#[]⟩, .string ⟨#[]⟩, .bool false, .bool false, .slice none 0 0, .string ⟨#[]⟩]
def zK : List Value := [.slice none 0 0, .slice none 0 0]

theorem Try.info72 : (Try.prog.info? 72).map (fun i => (i.zero, i.size, i.bytes)) = some (some (.agg zT.toArray), 15, 232) := by kernel_rfl
theorem Try.info78 : (Try.prog.info? 78).map (fun i => (i.zero, i.size, i.bytes)) = some (some (.agg zC.toArray), 16, 208) := by kernel_rfl
theorem Try.info69' : (Try.prog.info? 69).map (fun i => (i.zero, i.size, i.bytes)) = some (some (.agg zK.toArray), 2, 48) := by kernel_rfl
theorem size62 : (Try.prog.info? 62).map (·.size) = some 7 := by kernel_rfl
theorem size64 : (Try.prog.info? 64).map (·.size) = some 3 := by kernel_rfl

/-- 'make([]T, n)' of structs. -/
theorem make_rows (t e : TypeId) (z : List Value) (size bytes : Nat) (ht : Try.prog.underlying t = some (.slice e)) (hinfo : (Try.prog.info? e).map (fun i => (i.zero, i.size, i.bytes)) = some (some (.agg z.toArray), size, bytes))
    (n : Nat) (hbytes : bytes * n ≤ 281474976710656) (h63 : n ≤ 9223372036854775807) (w : World) :
    (Instr.makeSlice t (.int .i64 (n : Int)) (.int .i64 (n : Int))).run Try.prog w = .ok (.slice (some ⟨w.heap.size, 0, none⟩) n n) (w.alloc (.cells (madeCells z.toArray (n * size)) e)) := run_make_wide t e _ size bytes ht hinfo n hbytes h63 w

/-- The parts of a table in a catalog; its unique keys' row has no room. -/
structure TRest2 (w : World) (lo : Nat) (t : Td) (m : Tm) : Prop extends TRest w lo t m where
  uc : m.uc = t.nu
theorem TRest2.kept {w w' : World} {lo : Nat} {t : Td} {m : Tm} {row : Option Nat} (h : TRest2 w lo t m) (hg : w.grownBy w' row) (hr : ∀ b, row = some b → b < lo) : TRest2 w' lo t m := ⟨h.toTRest.kept hg hr, h.uc⟩
theorem TRest2.below {w w' : World} {lo : Nat} {t : Td} {m : Tm} (h : TRest2 w lo t m) (hb : Below w.heap.size w w') : TRest2 w' lo t m := ⟨h.toTRest.below hb, h.uc⟩

/-- What 'kCatalog' leaves. -/
def RetCat2 (w : World) (N : Nat) (ts : Nat → Td) (e : Ending) (w' : World) : Prop :=
  ∃ p TB ms, e = .returned (.pointer (some ⟨p, 0, none⟩)) ∧ Below w.heap.size w w' ∧ CatAt w' p TB N N ts ms ∧ SRow w' TB 72 15 N (fun x => tcells (ts x) (ms x)) ∧ (∀ x, x < N → TRest2 w' (TB + 1) (ts x) (ms x)) ∧ TB < p ∧ w.heap.size ≤ TB

set_option maxRecDepth 100000 in
set_option maxHeartbeats 16000000 in
theorem kcat2_any (a : Option Addr) (N c b0 o0 : Nat) (ts : Nat → Td) (is : Nat → Ti) (w : World) (hN : N ≤ 4096) (ha : 0 < N → a = some ⟨b0, o0, none⟩) (hin : ∀ i, i < N → TIn w b0 (o0 + i * 7) (ts i) (is i)) (hbd : ∀ i, i < N → Bd (ts i)) :
    Calls Try.prog 18 #[.slice a N c] w (RetCat2 w N ts) := by
  have hmk1 := make_rows 82 72 zT 15 232 Try.underlying82 Try.info72 N (by omega) (by omega)
  have HIN : Hid (∀ i, i < N → TIn w b0 (o0 + i * 7) (ts i) (is i)) := hin
  have HBD : Hid (∀ i, i < N → Bd (ts i)) := hbd
  have hrow0 := SRow_made w zT 72 N
  clear hin hbd
  go_enter Try.func18, Try.ntmps18
  go_wp2
  go_loopg [4] N (fun gg s wx => ∃ (i : Nat) (ms : Nat → Tm), i ≤ N ∧ gg = N - i ∧ s = .int .i64 i ∧ Below w.heap.size w wx ∧ SRow wx w.heap.size 72 15 N (fun x => if x < i then tcells (ts x) (ms x) else zT) ∧ ∀ x, x < i → TRest2 wx (w.heap.size + 1) (ts x) (ms x))
  case atStart => exact ⟨0, fun _ => ⟨0, 0, 0, 0, fun _ => undef, fun _ => undef⟩, Nat.zero_le _, rfl, rfl, (Below.refl _ _).alloc (Nat.le_refl _) _, hrow0.congr (fun i _ => by simp), fun x hx => by omega⟩
  case round =>
    obtain ⟨i, ms, hi, rfl, rfl, hb, hr, hrest⟩ := hrel
    clear hmk1 hrow0
    by_cases hlt : i < N
    · obtain rfl := ha (by omega)
      have hltz : (i : Int) < (N : Int) := by omega
      have hI := (HIN.out i hlt).below hb
      have HI : Hid (TIn wr b0 (o0 + i * 7) (ts i) (is i)) := hI
      have HR : Hid (SRow wr w.heap.size 72 15 N (fun x => if x < i then tcells (ts x) (ms x) else zT)) := hr
      have HT : Hid (∀ x, x < i → TRest2 wr (w.heap.size + 1) (ts x) (ms x)) := hrest
      obtain ⟨bnc, bnu, bkey⟩ := HBD.out i hlt
      have HKB : Hid (∀ u, u < 1 + (ts i).nu → ((ts i).key u).n ≤ 1048576 ∧ ((ts i).key u).m = ((ts i).key u).n) := bkey
      have HCELLS : Hid (wr.rangeAt b0 (o0 + i * 7) (icells (ts i) (is i))) := hI.cells
      have HONE : Hid (∀ v ∈ icells (ts i) (is i), v.oneCell' = true) := by
        obtain ⟨_, _, _, _, e1, e2, _⟩ := hI.pri
        show ∀ v ∈ icells (ts i) (is i), v.oneCell' = true
        unfold icells
        rw [e1, e2]
        simp [Value.oneCell']
      have i3 : (icells (ts i) (is i))[3]? = some (.slice (is i).ca (ts i).nc (is i).cc) := rfl
      have lT : w.heap.size < wr.heap.size := HR.out.lt
      have hmk2 := make_rows 66 78 zC 16 208 Try.underlying66 Try.info78 (ts i).nc (by omega) (by omega)
      have hmk3 := make_rows 70 69 zK 2 48 Try.underlying70 Try.info69' (ts i).nu (by omega) (by omega)
      clear hI hr hrest bkey
      go_upto_region 6 with (first
        | (refine wpList_load_mid rfl 62 _ rfl b0 (o0 + i * 7) rfl (icells (ts i) (is i)) _ HCELLS.out Try.underlying62 rfl size62 ?_)
        | (refine wpList_store_new rfl 62 _ _ rfl wr _ (icells (ts i) (is i)).toArray rfl rfl rfl size62 (all_oneCell_toArray HONE.out) ?_)
        | fail)
      simp only [Act.put]
      obtain ⟨X, hX⟩ : ∃ X, X = wr.alloc (.cells (icells (ts i) (is i)).toArray 62) := ⟨_, rfl⟩
      have bX : Below wr.heap.size wr X := by rw [hX]; exact (Below.refl _ _).alloc (Nat.le_refl _) _
      have sX : X.heap.size = wr.heap.size + 1 := by rw [hX]; simp
      have HRG : Hid (X.rangeAt wr.heap.size 0 (icells (ts i) (is i))) := by rw [hX]; exact range_new wr 62 _
      have k3 : X.cell? ⟨wr.heap.size, 3, none⟩ = some (.slice (is i).ca (ts i).nc (is i).cc) := HRG.out 3 _ rfl
      have HIX : Hid (TIn X b0 (o0 + i * 7) (ts i) (is i)) := HI.out.below bX
      have HRX : Hid (SRow X w.heap.size 72 15 N (fun x => if x < i then tcells (ts x) (ms x) else zT)) := HR.out.below bX
      have HTX : Hid (∀ x, x < i → TRest2 X (w.heap.size + 1) (ts x) (ms x)) := fun x hx => (HT.out x hx).below bX
      have hbX : Below w.heap.size w X := hb.trans (bX.mono hb.size)
      have lkb : wr.heap.size < X.heap.size := by omega
      have HSX : Hid (X.heap.size = wr.heap.size + 1) := sX
      have hrowC := SRow_made X zC 78 (ts i).nc
      rw [← hX]
      clear hX bX HI HR HT hb HCELLS HONE i3 sX
      generalize wr.heap.size = kb at *
      go_wp2
      go_loopg [7] (ts i).nc (fun gg s wx => ∃ j : Nat, j ≤ (ts i).nc ∧ gg = (ts i).nc - j ∧ s = .int .i64 j ∧ Below X.heap.size X wx ∧ SRow wx X.heap.size 78 16 (ts i).nc (fun x => if x < j then ccells ((ts i).col x) else zC))
      case atStart => exact ⟨0, Nat.zero_le _, rfl, rfl, (Below.refl _ _).alloc (Nat.le_refl _) _, hrowC.congr (fun i _ => by simp)⟩
      case round =>
        obtain ⟨j, hj, rfl, rfl, hb, hr⟩ := hrel
        clear hrowC hmk2
        have k3' : wr.cell? ⟨kb, 3, none⟩ = some (.slice (is i).ca (ts i).nc (is i).cc) := by rw [hb.cell (p := ⟨kb, 3, none⟩) lkb]; exact k3
        by_cases hjl : j < (ts i).nc
        · have hjz : (j : Int) < ((ts i).nc : Int) := by omega
          have hI := HIX.out.below hb
          obtain ⟨ec, lc⟩ := hI.ca (by omega)
          have hcol := (hI.cols j hjl).1
          have q0 : wr.cell? ⟨(is i).bc, (is i).oc + j * 3, none⟩ = some (.string ((ts i).col j).nm) := hcol 0 _ rfl
          have q1 : wr.cell? ⟨(is i).bc, (is i).oc + j * 3 + 1, none⟩ = some (.int .i64 ((ts i).col j).pos) := hcol 1 _ rfl
          have q2 : wr.cell? ⟨(is i).bc, (is i).oc + j * 3 + 2, none⟩ = some (.string ((ts i).col j).co) := hcol 2 _ rfl
          rw [ec] at k3'
          have HS : Hid (SRow wr X.heap.size 78 16 (ts i).nc (fun x => if x < j then ccells ((ts i).col x) else zC)) := hr
          obtain ⟨cc, hc⟩ : ∃ c, c = (ts i).col j := ⟨_, rfl⟩
          rw [← hc] at q0 q1 q2
          have HC : Hid (cc = (ts i).col j) := hc
          have lcb := HS.out.lt
          have HTH : Hid ((wr.alloc (.cells #[.string cc.nm, .int .i64 cc.pos, .string cc.co] 64)).there X.heap.size (j * 16) (ccells cc).toArray.size) := World.there_alloc (HS.out.there hjl) _
          have HON : Hid (∀ v ∈ ccells cc, v.oneCell' = true) := by
            show ∀ v ∈ ccells cc, v.oneCell' = true
            simp [ccells, Value.oneCell']
          clear hI ec hcol hr k3 hmk3 hc
          go_upto_region 11 with fail
          go_wp2_with (first
            | (refine wpList_store_mid rfl 78 _ _ rfl X.heap.size (j * 16) (ccells cc).toArray (by rfl) (by rfl) HTH.out size78 (all_oneCell_toArray HON.out) ?_; generalize HQ : World.setCells _ _ _ _ = V)
            | fail)
          have bA : Below wr.heap.size wr (wr.alloc (.cells #[.string cc.nm, .int .i64 cc.pos, .string cc.co] 64)) := (Below.refl _ _).alloc (Nat.le_refl _) _
          have bV : Below X.heap.size X V := by rw [← HQ]; exact Go.below_setCells (Nat.le_refl _) _ _ _ (hb.alloc hb.size _)
          have HV : Hid (SRow V X.heap.size 78 16 (ts i).nc (fun x => if x < j + 1 then ccells ((ts i).col x) else zC)) := by
            rw [← HQ]
            refine ((HS.out.below bA).put (i := j) (cs := ccells cc) rfl (by decide)).congr (fun x hx => ?_)
            by_cases e : x = j
            · subst e; rw [upd_same, if_pos (by omega), HC.out]
            · rw [upd_other _ _ _ e]
              by_cases hl : x < j
              · rw [if_pos hl, if_pos (by omega)]
              · rw [if_neg hl, if_neg (by omega)]
          clear HQ bA HS HTH HON q0 q1 q2 k3'
          go_roundg ((ts i).nc - (j + 1))
          case measure => go_light; omega
          case rel =>
            go_light
            exact ⟨j + 1, by omega, rfl, by go_num, bV, HV.out⟩
        · obtain rfl : j = (ts i).nc := by omega
          have HCR : Hid (SRow wr X.heap.size 78 16 (ts i).nc (fun x => ccells ((ts i).col x))) := hr.congr (fun x hx => by rw [if_pos hx])
          clear hr hjl hj
          obtain ⟨Y, hY⟩ : ∃ Y, Y = wr := ⟨_, rfl⟩
          rw [← hY] at hb HCR k3' ⊢
          clear hY
          have lXY := hb.size
          have k6 : Y.cell? ⟨kb, 6, none⟩ = some (.slice (is i).ua (ts i).nu (is i).uc) := by rw [hb.cell (p := ⟨kb, 6, none⟩) lkb]; exact HRG.out 6 _ rfl
          have hrowU := SRow_made Y zK 69 (ts i).nu
          have HIY : Hid (TIn Y b0 (o0 + i * 7) (ts i) (is i)) := HIX.out.below hb
          have lkY : kb < Y.heap.size := by omega
          go_wp2
          go_loopg [10] (ts i).nu (fun gg s wx => ∃ (u : Nat) (cv dv : Nat → Value), u ≤ (ts i).nu ∧ gg = (ts i).nu - u ∧ s = .int .i64 u ∧ Below Y.heap.size Y wx ∧ SRow wx Y.heap.size 69 2 (ts i).nu (fun x => if x < u then [cv (x + 1), dv (x + 1)] else zK) ∧ ∀ x, x < u → KeyAtB wx (Y.heap.size + 1) (cv (x + 1)) (dv (x + 1)) ((ts i).uni x))
          case atStart => exact ⟨0, fun _ => undef, fun _ => undef, Nat.zero_le _, rfl, rfl, (Below.refl _ _).alloc (Nat.le_refl _) _, hrowU.congr (fun i _ => by simp), fun x hx => by omega⟩
          case round =>
            clear hrowU hmk3
            obtain ⟨u, cv, dv, hu, rfl, rfl, hbu, hr, hkeys⟩ := hrel
            have k6' : wr.cell? ⟨kb, 6, none⟩ = some (.slice (is i).ua (ts i).nu (is i).uc) := by rw [hbu.cell (p := ⟨kb, 6, none⟩) lkY]; exact k6
            by_cases hul : u < (ts i).nu
            · have huz : (u : Int) < ((ts i).nu : Int) := by omega
              have hI := HIY.out.below hbu
              obtain ⟨eu, lu⟩ := hI.ua (by omega)
              obtain ⟨q1, q2, hkin⟩ := hI.uni u hul
              rw [eu] at k6'
              have hkb := HKB.out (u + 1) (by omega)
              have HKIN : Hid (KeyIn wr ((is i).x1 u) ((is i).x2 u) ((ts i).uni u)) := hkin
              have HSR : Hid (SRow wr Y.heap.size 69 2 (ts i).nu (fun x => if x < u then [cv (x + 1), dv (x + 1)] else zK)) := hr
              have HKS : Hid (∀ x, x < u → KeyAtB wr (Y.heap.size + 1) (cv (x + 1)) (dv (x + 1)) ((ts i).uni x)) := hkeys
              obtain ⟨hkn, hkm⟩ := hkb
              clear hI eu hkin hr hkeys k6 k3'
              go_wp2_with fail
              refine (kkey_any ((is i).x1 u) ((is i).x2 u) ((ts i).uni u) wr hkn (by have : ((ts i).uni u).m = ((ts i).uni u).n := hkm; rw [this]; exact hkn) HKIN.out).mono ?_
              rintro e w1 ⟨c1, d1, rfl, b1, hk1⟩
              have HS1 : Hid (SRow w1 Y.heap.size 69 2 (ts i).nu (fun x => if x < u then [cv (x + 1), dv (x + 1)] else zK)) := HSR.out.below b1
              have lY : Y.heap.size < wr.heap.size := HSR.out.lt
              have HK1 : Hid (KeyAtB w1 (Y.heap.size + 1) c1 d1 ((ts i).uni u)) := hk1.mono (by omega)
              have HKS1 : Hid (∀ x, x < u → KeyAtB w1 (Y.heap.size + 1) (cv (x + 1)) (dv (x + 1)) ((ts i).uni x)) := fun x hx => (HKS.out x hx).kept (grown_none b1) (fun _ e => by cases e)
              have bb1 : Below Y.heap.size Y w1 := hbu.trans (b1.mono hbu.size)
              have r0 := World.rowIs.cell HS1.out (i := u * 2) (by omega)
              have r1 := World.rowIs.cell HS1.out (i := u * 2 + 1) (by omega)
              have f0 := World.rowIs.frozen HS1.out (u * 2)
              have f1 := World.rowIs.frozen HS1.out (u * 2 + 1)
              have l1 : Y.heap.size < w1.heap.size := HS1.out.lt
              obtain ⟨kb1, kb2, kc1, kc2, _, _, ek1, ek2, _⟩ := hk1
              subst ek1 ek2
              generalize wcell 2 (fun x => if x < u then [cv (x + 1), dv (x + 1)] else zK) = wc at r0 r1
              clear HSR HKS b1 hbu q1 q2 k6' lu HKIN
              go_wp2
              go_roundg ((ts i).nu - (u + 1))
              case measure => go_light; omega
              case rel =>
                go_light
                have hgr := grown_setCells w1 Y.heap.size (u * 2) [.slice (some ⟨kb1, 0, none⟩) ((ts i).uni u).n kc1, .slice (some ⟨kb2, 0, none⟩) ((ts i).uni u).m kc2] l1
                refine ⟨u + 1, upd cv (u + 1) (.slice (some ⟨kb1, 0, none⟩) ((ts i).uni u).n kc1), upd dv (u + 1) (.slice (some ⟨kb2, 0, none⟩) ((ts i).uni u).m kc2), by omega, rfl, by go_num, (bb1.setCell (Nat.le_refl _) _).setCell (Nat.le_refl _) _, ?_, fun x hx => ?_⟩
                · refine (HS1.out.put (i := u) (cs := [.slice (some ⟨kb1, 0, none⟩) ((ts i).uni u).n kc1, .slice (some ⟨kb2, 0, none⟩) ((ts i).uni u).m kc2]) rfl (by decide)).congr (fun x hx => ?_)
                  by_cases e : x = u
                  · subst e; rw [upd_same, if_pos (by omega), upd_same, upd_same]
                  · rw [upd_other _ _ _ e, upd_other _ _ _ (by omega), upd_other _ _ _ (by omega)]
                    by_cases hl : x < u
                    · rw [if_pos hl, if_pos (by omega)]
                    · rw [if_neg hl, if_neg (by omega)]
                · by_cases e : x = u
                  · subst e; rw [upd_same, upd_same]
                    exact HK1.out.kept hgr (fun b e => by injection e with e; omega)
                  · rw [upd_other _ _ _ (by omega), upd_other _ _ _ (by omega)]
                    exact (HKS1.out x (by omega)).kept hgr (fun b e => by injection e with e; omega)
            · obtain rfl : u = (ts i).nu := by omega
              go_upto_region 17 with fail
              have HKR : Hid (SRow wr Y.heap.size 69 2 (ts i).nu (fun x => [cv (x + 1), dv (x + 1)])) := hr.congr (fun x hx => by rw [if_pos hx])
              have HKS : Hid (∀ x, x < (ts i).nu → KeyAtB wr (Y.heap.size + 1) (cv (x + 1)) (dv (x + 1)) ((ts i).uni x)) := hkeys
              have bXw : Below X.heap.size X wr := hb.trans (hbu.mono hb.size)
              have HRw : Hid (SRow wr w.heap.size 72 15 N (fun x => if x < i then tcells (ts x) (ms x) else zT)) := HRX.out.below bXw
              have HTw : Hid (∀ x, x < i → TRest2 wr (w.heap.size + 1) (ts x) (ms x)) := fun x hx => (HTX.out x hx).below bXw
              have HCw : Hid (SRow wr X.heap.size 78 16 (ts i).nc (fun x => ccells ((ts i).col x))) := HCR.out.below hbu
              have hbw : Below w.heap.size w wr := hbX.trans (bXw.mono hbX.size)
              have lkw : kb < wr.heap.size := Nat.lt_of_lt_of_le lkY hbu.size
              have z0 : wr.cell? ⟨kb, 0, none⟩ = some (.string (ts i).sch) := by rw [bXw.cell (p := ⟨kb, 0, none⟩) lkb]; exact HRG.out 0 _ rfl
              have z1 : wr.cell? ⟨kb, 1, none⟩ = some (.string (ts i).nm) := by rw [bXw.cell (p := ⟨kb, 1, none⟩) lkb]; exact HRG.out 1 _ rfl
              have z2 : wr.cell? ⟨kb, 2, none⟩ = some (.int .u32 (ts i).oid) := by rw [bXw.cell (p := ⟨kb, 2, none⟩) lkb]; exact HRG.out 2 _ rfl
              have z4 : wr.cell? ⟨kb, 4, none⟩ = some (is i).v1 := by rw [bXw.cell (p := ⟨kb, 4, none⟩) lkb]; exact HRG.out 4 _ rfl
              have z5 : wr.cell? ⟨kb, 5, none⟩ = some (is i).v2 := by rw [bXw.cell (p := ⟨kb, 5, none⟩) lkb]; exact HRG.out 5 _ rfl
              have HPR : Hid (KeyIn wr (is i).v1 (is i).v2 (ts i).pri) := (HIY.out.below hbu).pri
              obtain ⟨pn, pm⟩ := HKB.out 0 (by omega)
              have hne1 : ¬ kb = w.heap.size := by omega
              have hne2 : ¬ w.heap.size = kb := by omega
              have pn' : (ts i).pri.n ≤ 1048576 := pn
              have pm' : (ts i).pri.m ≤ 1048576 := by have : (ts i).pri.m = (ts i).pri.n := pm; omega
              clear hr hkeys HRX HTX HCR HIX HIY HRG k3 k6 k6' k3' hbX pn pm
              go_region_held3 (fun w' => w'.cell? ⟨kb, 0, none⟩ = some (.string (ts i).sch) ∧ w'.cell? ⟨kb, 1, none⟩ = some (.string (ts i).nm) ∧ w'.cell? ⟨kb, 2, none⟩ = some (.int .u32 (ts i).oid) ∧ w'.cell? ⟨kb, 4, none⟩ = some (is i).v1 ∧ w'.cell? ⟨kb, 5, none⟩ = some (is i).v2)
                (first
                  | go_keep
                  | (go_split_ands
                     refine ⟨?_, ?_, ?_, ?_, ?_⟩ <;> (rw [b1.cell (by simp; omega)]; assumption))
                  | (go_split_ands
                     refine ⟨?_, ?_, ?_, ?_, ?_⟩ <;> (simp only [World.cell?_setCell_other _ _ _ _ (fun e : (⟨w.heap.size, _, none⟩ : Addr) = ⟨kb, _, none⟩ => hne2 (congrArg Addr.block e))]; rw [b1.cell (by simp; omega)]; assumption)))
                ((go_at_call 23; refine (kkey_any (is i).v1 (is i).v2 (ts i).pri _ pn' pm' (HPR.out.below (Below.drew (Below.refl _ _)))).mono ?_; rintro e w1 ⟨c1, d1, rfl, b1, hk1⟩; have hS1 := (SRow.drew HRw.out).below b1; have HS1 : Hid (SRow w1 w.heap.size 72 15 N (fun x => if x < i then tcells (ts x) (ms x) else zT)) := hS1; have HK1 : Hid (KeyAtB w1 wr.heap.size c1 d1 (ts i).pri) := hk1; obtain ⟨kb1, kb2, kc1, kc2, _, _, ek1, ek2, _⟩ := hk1; subst ek1 ek2; have t0 := World.rowIs.cell hS1 (i := i * 15) (by omega); have f0 := World.rowIs.frozen hS1 (i * 15); have t1 := World.rowIs.cell hS1 (i := i * 15 + 1) (by omega); have f1 := World.rowIs.frozen hS1 (i * 15 + 1); have t2 := World.rowIs.cell hS1 (i := i * 15 + 2) (by omega); have f2 := World.rowIs.frozen hS1 (i * 15 + 2); have t3 := World.rowIs.cell hS1 (i := i * 15 + 3) (by omega); have f3 := World.rowIs.frozen hS1 (i * 15 + 3); have t4 := World.rowIs.cell hS1 (i := i * 15 + 4) (by omega); have f4 := World.rowIs.frozen hS1 (i * 15 + 4); have t5 := World.rowIs.cell hS1 (i := i * 15 + 5) (by omega); have f5 := World.rowIs.frozen hS1 (i * 15 + 5); have t6 := World.rowIs.cell hS1 (i := i * 15 + 6) (by omega); have f6 := World.rowIs.frozen hS1 (i * 15 + 6); have t7 := World.rowIs.cell hS1 (i := i * 15 + 7) (by omega); have f7 := World.rowIs.frozen hS1 (i * 15 + 7); have t8 := World.rowIs.cell hS1 (i := i * 15 + 8) (by omega); have f8 := World.rowIs.frozen hS1 (i * 15 + 8); have t9 := World.rowIs.cell hS1 (i := i * 15 + 9) (by omega); have f9 := World.rowIs.frozen hS1 (i * 15 + 9); have t10 := World.rowIs.cell hS1 (i := i * 15 + 10) (by omega); have f10 := World.rowIs.frozen hS1 (i * 15 + 10); have t11 := World.rowIs.cell hS1 (i := i * 15 + 11) (by omega); have f11 := World.rowIs.frozen hS1 (i * 15 + 11); have t12 := World.rowIs.cell hS1 (i := i * 15 + 12) (by omega); have f12 := World.rowIs.frozen hS1 (i * 15 + 12); have t13 := World.rowIs.cell hS1 (i := i * 15 + 13) (by omega); have f13 := World.rowIs.frozen hS1 (i * 15 + 13); have t14 := World.rowIs.cell hS1 (i := i * 15 + 14) (by omega); have f14 := World.rowIs.frozen hS1 (i * 15 + 14); generalize wcell 15 (fun x => if x < i then tcells (ts x) (ms x) else zT) = wc at t0 t1 t2 t3 t4 t5 t6 t7 t8 t9 t10 t11 t12 t13 t14; clear hS1))
              obtain ⟨M, hM⟩ : ∃ M : Tm, M = ⟨X.heap.size, (ts i).nc, Y.heap.size, (ts i).nu, upd cv 0 (.slice (some ⟨kb1, 0, none⟩) (ts i).pri.n kc1), upd dv 0 (.slice (some ⟨kb2, 0, none⟩) (ts i).pri.m kc2)⟩ := ⟨_, rfl⟩
              have hgr := grown_setCells w1 w.heap.size (i * 15) (tcells (ts i) M) HS1.out.lt
              have bw1 : Below wr.heap.size wr w1 := (Below.refl _ _).trans ((Below.drew (Below.refl _ _)).trans b1)
              have lXw : X.heap.size < wr.heap.size := HCw.out.lt
              have lYw : Y.heap.size < wr.heap.size := HKR.out.lt
              have HTi : Hid (TRest2 w1 (w.heap.size + 1) (ts i) M) := by
                have c1 := HCw.out.below bw1
                have c2 := HKR.out.below bw1
                subst hM
                refine ⟨⟨⟨by show w.heap.size + 1 ≤ X.heap.size; omega, c1.lt⟩, ⟨by show w.heap.size + 1 ≤ Y.heap.size; omega, c2.lt⟩, fun j hj => c1.range hj rfl, fun u hu => ?_, fun u hu => ?_⟩, rfl⟩
                · have c3 := c2.range hu rfl
                  exact ⟨c3 0 _ rfl, c3 1 _ rfl⟩
                · cases u with
                  | zero => exact HK1.out.mono (by omega)
                  | succ u => exact ((HKS.out u (by omega)).kept (grown_none bw1) (fun _ e => by cases e)).mono (by omega)
              have HTo : Hid (∀ x, x < i → TRest2 w1 (w.heap.size + 1) (ts x) (ms x)) := fun x hx => (HTw.out x hx).below bw1
              have HQ : Hid (SRow (w1.setCells w.heap.size (i * 15) (tcells (ts i) M)) w.heap.size 72 15 N (fun x => if x < i + 1 then tcells (ts x) (upd ms i M x) else zT)) := by
                refine (HS1.out.put (i := i) (cs := tcells (ts i) M) rfl (by decide)).congr (fun x hx => ?_)
                by_cases e : x = i
                · subst e; rw [upd_same, if_pos (by omega), upd_same]
                · rw [upd_other _ _ _ e, upd_other _ _ _ e]
                  by_cases hl : x < i
                  · rw [if_pos hl, if_pos (by omega)]
                  · rw [if_neg hl, if_neg (by omega)]
              have HTn : Hid (∀ x, x < i + 1 → TRest2 (w1.setCells w.heap.size (i * 15) (tcells (ts i) M)) (w.heap.size + 1) (ts x) (upd ms i M x)) := by
                intro x hx
                by_cases e : x = i
                · subst e; rw [upd_same]; exact HTi.out.kept hgr (fun b e => by injection e with e; omega)
                · rw [upd_other _ _ _ e]; exact (HTo.out x (by omega)).kept hgr (fun b e => by injection e with e; omega)
              have bV : Below w.heap.size w (w1.setCells w.heap.size (i * 15) (tcells (ts i) M)) := Go.below_setCells (Nat.le_refl _) _ _ _ (hbw.trans (bw1.mono hbw.size))
              have HM : Hid (M = ⟨X.heap.size, (ts i).nc, Y.heap.size, (ts i).nu, upd cv 0 (.slice (some ⟨kb1, 0, none⟩) (ts i).pri.n kc1), upd dv 0 (.slice (some ⟨kb2, 0, none⟩) (ts i).pri.m kc2)⟩) := hM
              obtain ⟨Z, hZ⟩ : ∃ Z, Z = w1.setCells w.heap.size (i * 15) (tcells (ts i) M) := ⟨_, rfl⟩
              rw [← hZ] at HQ HTn bV
              have hZ2 : Z = w1.setCells w.heap.size (i * 15) (tcells (ts i) ⟨X.heap.size, (ts i).nc, Y.heap.size, (ts i).nu, upd cv 0 (.slice (some ⟨kb1, 0, none⟩) (ts i).pri.n kc1), upd dv 0 (.slice (some ⟨kb2, 0, none⟩) (ts i).pri.m kc2)⟩) := by rw [hZ, hM]
              clear hZ hM hgr HTi HTo HS1 HK1 t0 f0 t1 f1 t2 f2 t3 f3 t4 f4 t5 f5 t6 f6 t7 f7 t8 f8 t9 f9 t10 f10 t11 f11 t12 f12 t13 f13 t14 f14
              generalize hG : World.setCell _ _ _ = G
              have hGZ : G = Z := by rw [← hG, hZ2]; rfl
              subst hGZ
              clear hG hZ2
              go_wp2
              go_roundg (N - (i + 1))
              case measure => go_light; omega
              case rel =>
                go_light
                exact ⟨i + 1, upd ms i M, by omega, rfl, by go_num, bV, HQ.out, HTn.out⟩
    · obtain rfl : i = N := by omega
      have HR : Hid (SRow wr w.heap.size 72 15 i (fun x => if x < i then tcells (ts x) (ms x) else zT)) := hr
      have HT : Hid (∀ x, x < i → TRest2 wr (w.heap.size + 1) (ts x) (ms x)) := hrest
      clear hr hrest
      go_wp2
      go_ret
      have bA : Below wr.heap.size wr (wr.alloc (.cells #[.slice (some ⟨w.heap.size, 0, none⟩) i i, .slice none 0 0, .string ⟨#[]⟩, .int .i64 0] 85)) := (Below.refl _ _).alloc (Nat.le_refl _) _
      refine ⟨wr.heap.size, w.heap.size, ms, rfl, hb.alloc hb.size _, ⟨?_, by simp, fun x hx => ?_⟩, (HR.out.below bA).congr (fun x hx => by rw [if_pos hx]), fun x hx => (HT.out x hx).below bA, HR.out.lt, Nat.le_refl _⟩
      · rw [World.cell?_alloc_at _ _ _ _ rfl]; rfl
      · have h1 := (HT.out x hx).below bA
        have h2 := (HR.out.below bA).congr (f' := fun x => tcells (ts x) (ms x)) (fun x hx => by rw [if_pos hx])
        have h3 := HBD.out x hx
        exact ⟨h2.range hx rfl, h2.lt, h1.l1.2, h1.l2.2, fun j hj => ⟨h1.cols j hj, ((HIN.out x hx).cols j hj).2⟩, h1.uni, fun u hu => ⟨(h1.key u hu).keyAt, (h3.key u hu).2⟩⟩

end Go.Proofs.Qxb6000463a
