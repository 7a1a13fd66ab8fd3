/-
  A CATALOG WHOSE TABLE q HAS GAINED A UNIQUE KEY.
-/
import Derived.Test.Qxb6000463aKCat2
import Derived.Test.Qxb6000463aPlain2
namespace Go.Proofs.Qxb6000463a
open Go.RowKit

def addM (m : Tm) (nu g cap : Nat) (c1 d1 : Value) : Tm := ⟨m.cb, m.cc, g, cap, upd m.cv (nu + 1) c1, upd m.dv (nu + 1) d1⟩

theorem tcells_add (t : Td) (m : Tm) (k : Kd) (g cap : Nat) (c1 d1 : Value) (x : Nat) (hx : x < 15) :
    (tcells (addKey t k) (addM m t.nu g cap c1 d1))[x]? = if x = 10 then some (.slice (some ⟨g, 0, none⟩) (t.nu + 1) cap) else (tcells t m)[x]? := by
  have e1 : (addM m t.nu g cap c1 d1).cv 0 = m.cv 0 := by show upd m.cv (t.nu + 1) c1 0 = m.cv 0; exact upd_other _ _ _ (by omega)
  have e2 : (addM m t.nu g cap c1 d1).dv 0 = m.dv 0 := by show upd m.dv (t.nu + 1) d1 0 = m.dv 0; exact upd_other _ _ _ (by omega)
  unfold tcells
  rw [e1, e2]
  have hm : x = 0 ∨ x = 1 ∨ x = 2 ∨ x = 3 ∨ x = 4 ∨ x = 5 ∨ x = 6 ∨ x = 7 ∨ x = 8 ∨ x = 9 ∨ x = 10 ∨ x = 11 ∨ x = 12 ∨ x = 13 ∨ x = 14 := by omega
  rcases hm with rfl | rfl | rfl | rfl | rfl | rfl | rfl | rfl | rfl | rfl | rfl | rfl | rfl | rfl | rfl <;> rfl

theorem SRow.set10 {w : World} {g t n : Nat} {f : Nat → List Value} (h : SRow w g t 15 n f) (k : Nat) (v : Value) (cs : List Value) (hcs : ∀ x, x < 15 → cs[x]? = if x = 10 then some v else (f k)[x]?) :
    SRow (w.setCell ⟨g, k * 15 + 10, none⟩ v) g t 15 n (upd f k cs) := by
  refine World.rowIs.congr (World.rowIs.set h (k * 15 + 10) v) fun j hj => ?_
  have hm : j % 15 < 15 := Nat.mod_lt _ (by decide)
  unfold wcell
  by_cases e : j / 15 = k
  · rw [e, upd_same, hcs _ hm]
    by_cases e2 : j % 15 = 10
    · rw [if_pos (by omega), if_pos e2]; rfl
    · rw [if_neg (by omega), if_neg e2]
  · rw [upd_other _ _ _ e, if_neg (by omega)]

set_option maxRecDepth 10000 in
theorem cat_added {w w1 w2 : World} {p TB N : Nat} {ts : Nat → Td} {ms : Nat → Tm} {q : Nat} (hq : q < N) {kd : Kd} {c1 d1 : Value} {g cap : Nat}
    (hcat : CatAt w p TB N N ts ms) (hS : SRow w TB 72 15 N (fun x => tcells (ts x) (ms x))) (hT : ∀ x, x < N → TRest2 w (TB + 1) (ts x) (ms x)) (hp : TB < p)
    (b1 : Below w.heap.size w w1) (hk : KeyAtB w1 w.heap.size c1 d1 kd) (hm : kd.m = kd.n)
    (b2 : Below w1.heap.size w1 w2) (hown : w2.ownsRow w1.heap.size 69 2 (.slice (some ⟨g, 0, none⟩) ((ts q).nu + 1) cap) ((ts q).nu + 1) (keyCells (fun u => (ms q).cv (u + 1)) (fun u => (ms q).dv (u + 1)) (ts q).nu ++ [c1, d1])) :
    CatAt (w2.setCell ⟨TB, q * 15 + 10, none⟩ (.slice (some ⟨g, 0, none⟩) ((ts q).nu + 1) cap)) p TB N N (upd ts q (addKey (ts q) kd)) (upd ms q (addM (ms q) (ts q).nu g cap c1 d1)) := by
  have lTB := hS.lt
  have s1 := b1.size
  have s2 := b2.size
  have b12 := b1.trans (b2.mono b1.size)
  have hgr : w2.grownBy (w2.setCell ⟨TB, q * 15 + 10, none⟩ (.slice (some ⟨g, 0, none⟩) ((ts q).nu + 1) cap)) (some TB) := grown_setCells w2 TB (q * 15 + 10) [.slice (some ⟨g, 0, none⟩) ((ts q).nu + 1) cap] (by omega)
  have Sf := (hS.below b12).set10 q (.slice (some ⟨g, 0, none⟩) ((ts q).nu + 1) cap) (tcells (addKey (ts q) kd) (addM (ms q) (ts q).nu g cap c1 d1)) (fun x hx => tcells_add _ _ _ _ _ _ _ x hx)
  have hl := hown.lt g rfl
  have hcell := fun j hj => hown.cellAt (g := g) j hj
  generalize w2.setCell ⟨TB, q * 15 + 10, none⟩ (.slice (some ⟨g, 0, none⟩) ((ts q).nu + 1) cap) = wf at hgr Sf ⊢
  have sf := hgr.size
  have Tf : ∀ x, x < N → TRest wf (TB + 1) (ts x) (ms x) := fun x hx => ((hT x hx).toTRest.below b12).kept hgr (fun b e => by injection e with e; omega)
  have ne (b : Nat) (hb : TB < b) : some b ≠ some TB := fun e => by injection e with e; omega
  have lp := hcat.lp
  refine ⟨?_, by omega, fun i hi => ?_⟩
  · rw [hgr.cell_far ⟨p, 0, none⟩ (by show p < w2.heap.size; omega) (ne p hp), b12.cell (p := ⟨p, 0, none⟩) lp]; exact hcat.top
  · have hR := Sf.range hi (by by_cases e : i = q; (subst e; rw [upd_same]; rfl); (rw [upd_other _ _ _ e]; rfl))
    by_cases e : i = q
    · subst e
      rw [upd_same] at hR
      rw [upd_same, upd_same]
      have t := Tf i hi
      refine ⟨hR, Sf.lt, t.l1.2, by show g < wf.heap.size; omega, fun j hj => ⟨t.cols j hj, ((hcat.tab i hi).cols j hj).2⟩, fun u hu => ?_, fun u hu => ?_⟩
      · have hu' : u < (ts i).nu + 1 := hu
        show wf.cell? ⟨g, u * 2, none⟩ = some (upd (ms i).cv ((ts i).nu + 1) c1 (u + 1)) ∧ wf.cell? ⟨g, u * 2 + 1, none⟩ = some (upd (ms i).dv ((ts i).nu + 1) d1 (u + 1))
        rw [hgr.cell_far ⟨g, u * 2, none⟩ (by show g < w2.heap.size; omega) (ne g (by omega)), hgr.cell_far ⟨g, u * 2 + 1, none⟩ (by show g < w2.heap.size; omega) (ne g (by omega)), hcell (u * 2) (by omega), hcell (u * 2 + 1) (by omega)]
        have hkl := keyCells_length (fun u => (ms i).cv (u + 1)) (fun u => (ms i).dv (u + 1)) (ts i).nu
        by_cases h : u < (ts i).nu
        · rw [List.getElem?_append_left (by omega), List.getElem?_append_left (by omega), keyCells_at0 _ _ h, keyCells_at1 _ _ h, upd_other _ _ _ (by omega), upd_other _ _ _ (by omega)]
          exact ⟨rfl, rfl⟩
        · obtain rfl : u = (ts i).nu := by omega
          rw [List.getElem?_append_right (by omega), List.getElem?_append_right (by omega), hkl, upd_same, upd_same, Nat.sub_self, show (ts i).nu * 2 + 1 - (ts i).nu * 2 = 1 from by omega]
          exact ⟨rfl, rfl⟩
      · have hu' : u < 1 + ((ts i).nu + 1) := hu
        show KeyAt wf (upd (ms i).cv ((ts i).nu + 1) c1 u) (upd (ms i).dv ((ts i).nu + 1) d1 u) ((addKey (ts i) kd).key u) ∧ ((addKey (ts i) kd).key u).m = ((addKey (ts i) kd).key u).n
        by_cases h : u < 1 + (ts i).nu
        · rw [upd_other _ _ _ (by omega), upd_other _ _ _ (by omega), addKey_old _ _ _ h]
          exact ⟨(t.key u h).keyAt, ((hcat.tab i hi).key u h).2⟩
        · obtain rfl : u = 1 + (ts i).nu := by omega
          rw [addKey_new, Nat.add_comm 1, upd_same, upd_same]
          exact ⟨((hk.kept (grown_none b2) (fun _ e => by cases e)).kept hgr (fun b e => by injection e with e; omega)).keyAt, hm⟩
    · rw [upd_other _ _ _ e] at hR
      rw [upd_other _ _ _ e, upd_other _ _ _ e]
      have t := Tf i hi
      exact ⟨hR, Sf.lt, t.l1.2, t.l2.2, fun j hj => ⟨t.cols j hj, ((hcat.tab i hi).cols j hj).2⟩, t.uni, fun u hu => ⟨(t.key u hu).keyAt, ((hcat.tab i hi).key u hu).2⟩⟩

end Go.Proofs.Qxb6000463a
