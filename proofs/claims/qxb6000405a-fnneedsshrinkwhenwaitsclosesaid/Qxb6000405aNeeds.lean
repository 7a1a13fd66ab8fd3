/-
  THE WALK of '(*fewestSearch).needs'.
-/
import Derived.Test.Qxb6000405aOpen
import Derived.Test.Qxb6000405aMask
namespace Go.Proofs.Qxb6000405a
open Go.RowKit

/-- The search in memory: one process, 0, whose condition is q. -/
structure Srch (w : World) (S R cb bb nb g n n4 c4 : Nat) (a4 : Option Addr) (q : Nat → C3) (nn mem : Nat → Int) : Prop where
  s0 : w.cell? ⟨S, 0, none⟩ = some (.pointer (some ⟨R, 0, none⟩))
  s1 : w.cell? ⟨S, 1, none⟩ = some (.slice (some ⟨cb, 0, none⟩) 1 1)
  s3 : w.cell? ⟨S, 3, none⟩ = some (.slice a4 n4 c4)
  sc : w.cell? ⟨cb, 0, none⟩ = some (.slice (some ⟨g, 0, none⟩) n n)
  row : CRow w g n q
  red : Red w R bb nb n nn
  mem : Reads w a4 n4 (fun i => .int .i32 (mem i))

theorem Srch.below {w w' : World} {S R cb bb nb g n n4 c4 : Nat} {a4 : Option Addr} {q : Nat → C3} {nn mem : Nat → Int} (h : Srch w S R cb bb nb g n n4 c4 a4 q nn mem) (hb : Below w.heap.size w w') : Srch w' S R cb bb nb g n n4 c4 a4 q nn mem :=
  ⟨(hb.cell (p := ⟨S, 0, none⟩) (World.block_lt_of_cell? _ _ h.s0)).trans h.s0, (hb.cell (p := ⟨S, 1, none⟩) (World.block_lt_of_cell? _ _ h.s1)).trans h.s1, (hb.cell (p := ⟨S, 3, none⟩) (World.block_lt_of_cell? _ _ h.s3)).trans h.s3,
    (hb.cell (p := ⟨cb, 0, none⟩) (World.block_lt_of_cell? _ _ h.sc)).trans h.sc, h.row.below hb, h.red.below hb, h.mem.below hb⟩

/-- What 'needs' answers. -/
def RetNeeds (w : World) (n : Nat) (q : Nat → C3) (nn mem : Nat → Int) (e : Ending) (w' : World) : Prop :=
  ∃ f : Nat → Bool, NeedSpec n (fun i => (q i).u) (fun i => (q i).d) f ∧
    e = .returned (.tuple #[.int .u32 ((st (fun i => (q i).p) nn mem f (decide (inner (fun i => (q i).p) n ≤ 1)) n).nd : Nat), .bool (st (fun i => (q i).p) nn mem f (decide (inner (fun i => (q i).p) n ≤ 1)) n).fl]) ∧ Below w.heap.size w w'

theorem flat_start (n : Nat) {p nn mem : Nat → Int} {f : Nat → Bool} : Value.bool (decide ((n : Int) ≤ 1)) = .bool (st p nn mem f (decide (n ≤ 1)) 0).fl := by
  show Value.bool _ = Value.bool (decide (n ≤ 1))
  congr 1
  rw [decide_eq_decide]
  omega

theorem st_skip {p nn mem : Nat → Int} {f : Nat → Bool} {fl0 : Bool} {m : Nat} (h : hit p nn mem m = false) : st p nn mem f fl0 (m + 1) = st p nn mem f fl0 m := by
  rw [st, step, if_neg (by rw [h]; simp)]

theorem st_hit {p nn mem : Nat → Int} {f : Nat → Bool} {fl0 : Bool} {m : Nat} (h : hit p nn mem m = true) :
    st p nn mem f fl0 (m + 1) = ⟨(st p nn mem f fl0 m).nm ||| bitOf p mem m, if f m = true then (st p nn mem f fl0 m).nd ||| bitOf p mem m else (st p nn mem f fl0 m).nd, if (st p nn mem f fl0 m).nm &&& bitOf p mem m = 0 then (st p nn mem f fl0 m).fl else false⟩ := by
  rw [st, step, if_pos h]

theorem pow_small {m : Nat} (h : m < 32) : (2 : Int) ^ m % 4294967296 = ((2 ^ m : Nat) : Int) := by
  have h1 : 2 ^ m < 2 ^ 32 := Nat.pow_lt_pow_right (by decide) h
  have h2 : ((2 ^ m : Nat) : Int) = (2 : Int) ^ m := by simp
  rw [← h2]
  generalize 2 ^ m = b at *
  omega

set_option maxHeartbeats 8000000 in
theorem needs_any (S R cb bb nb g n n4 c4 : Nat) (a4 : Option Addr) (q : Nat → C3) (nn mem : Nat → Int) (w : World) (hn : n ≤ 4096) (h : Srch w S R cb bb nb g n n4 c4 a4 q nn mem)
    (hw : WF n (fun i => (q i).u)) (hp : ∀ i, i < n → (q i).p < (n4 : Int)) (hm : ∀ i, i < n4 → mem i < 32) :
    Calls Try.prog 25 #[.pointer (some ⟨S, 0, none⟩), .int .i32 0] w (RetNeeds w n q nn mem) := by
  have s1 := h.s1
  have sc := h.sc
  go_enter Try.func25, Try.ntmps25
  go_wp2
  clear s1 sc
  go_loopg [7, 24] n (fun gg s t wx => ∃ k : Nat, k ≤ n ∧ gg = n - k ∧ s = .int .i64 (inner (fun i => (q i).p) k : Nat) ∧ t = .int .i64 k ∧ Below w.heap.size w wx)
  case atStart => exact ⟨0, Nat.zero_le _, rfl, rfl, rfl, Below.refl _ _⟩
  case round =>
    obtain ⟨k, hk, rfl, rfl, rfl, hb⟩ := hrel
    have hr : CRow wr g n q := h.row.below hb
    have hle := inner_le (fun i => (q i).p) k
    by_cases hlt : k < n
    · obtain ⟨t0, t1, t2⟩ := hr.cat hlt
      have HI : Hid (inner (fun i => (q i).p) (k + 1) = inner (fun i => (q i).p) k + (if (q k).p < 0 then 1 else 0)) := rfl
      clear hr
      by_cases h0 : (q k).p < 0
      · go_wp2
        go_roundg (n - (k + 1))
        case measure => go_light; omega
        case rel =>
          go_light
          exact ⟨k + 1, by omega, rfl, by rw [HI.out, if_pos h0]; go_num, by go_num, hb.alloc hb.size _⟩
      · go_wp2
        go_roundg (n - (k + 1))
        case measure => go_light; omega
        case rel =>
          go_light
          exact ⟨k + 1, by omega, rfl, by rw [HI.out, if_neg (by omega)]; go_num, by go_num, hb.alloc hb.size _⟩
    · obtain rfl : k = n := by omega
      have h2 := h.below hb
      clear h hlt hk
      go_wp2_with fail
      refine (needed_any g k k q wr hn hr hw).mono ?_
      rintro e w2 ⟨f, hf, xm, cm, rfl, b2, rm⟩
      have h3 := h2.below b2
      have B2 : Below w.heap.size w w2 := hb.trans (b2.mono hb.size)
      have HF : Hid (NeedSpec k (fun i => (q i).u) (fun i => (q i).d) f) := hf
      clear hr h2 b2 hb hf
      have HLT : Hid (∀ m, m ≤ k → (st (fun i => (q i).p) nn mem f (decide (inner (fun i => (q i).p) k ≤ 1)) m).nm < 4294967296 ∧ (st (fun i => (q i).p) nn mem f (decide (inner (fun i => (q i).p) k ≤ 1)) m).nd < 4294967296) :=
        st_lt (n := k) (fun i hi h0 => hm _ (by have := hp i hi; omega))
      obtain ⟨gm, om, qm, vm⟩ := rm
      obtain ⟨g4, o4, q4, v4⟩ := h3.mem
      clear hw hle
      go_wp2
      go_loopg [4, 5, 11, 40] k (fun gg s4 s5 s11 s40 wx => ∃ m : Nat, m ≤ k ∧ gg = k - m ∧ s4 = .int .u32 ((st (fun i => (q i).p) nn mem f (decide (inner (fun i => (q i).p) k ≤ 1)) m).nd : Nat) ∧
        s5 = .bool (st (fun i => (q i).p) nn mem f (decide (inner (fun i => (q i).p) k ≤ 1)) m).fl ∧ s11 = .int .u32 ((st (fun i => (q i).p) nn mem f (decide (inner (fun i => (q i).p) k ≤ 1)) m).nm : Nat) ∧ s40 = .int .i64 m ∧ Below w2.heap.size w2 wx)
      case atStart => exact ⟨0, Nat.zero_le _, rfl, rfl, flat_start _, rfl, rfl, Below.refl _ _⟩
      case round =>
        obtain ⟨m, hmk, rfl, rfl, rfl, rfl, rfl, hb⟩ := hrel
        have HS : Hid (Srch wr S R cb bb nb g k n4 c4 a4 q nn mem) := h3.below hb
        by_cases hlt : m < k
        · obtain ⟨t0, t1, t2⟩ := HS.out.row.cat hlt
          have hmz : (m : Int) < (k : Int) := by omega
          have hs0 := HS.out.s0
          have hs3 := HS.out.s3
          obtain ⟨rfl, lm⟩ := qm (by omega)
          have cm1 : wr.cell? ⟨gm, om + m, none⟩ = some (.bool (f m)) := by rw [hb.cell (p := ⟨gm, om + m, none⟩) lm]; exact vm m hlt
          have hSl : S < wr.heap.size := World.block_lt_of_cell? _ _ hs0
          have hgl : g < wr.heap.size := HS.out.row.lt
          by_cases h0 : (q m).p < 0
          · have h0d : decide ((q m).p < 0) = true := decide_eq_true h0
            have Hst : Hid (st (fun i => (q i).p) nn mem f (decide (inner (fun i => (q i).p) k ≤ 1)) (m + 1) = st (fun i => (q i).p) nn mem f (decide (inner (fun i => (q i).p) k ≤ 1)) m) := st_skip (by simp [hit]; omega)
            clear h3 qm q4 v4 vm hp hm
            go_wp2
            have BW : Below wr.heap.size wr (wr.alloc (.cells #[.int .i32 (q m).p, .int .i32 (q m).d, .int .i32 (q m).u] 55)) := (Below.refl _ _).alloc (Nat.le_refl _) _
            have CW : CAt (wr.alloc (.cells #[.int .i32 (q m).p, .int .i32 (q m).d, .int .i32 (q m).u] 55)) wr.heap.size 0 ⟨(q m).p, (q m).d, (q m).u⟩ := ⟨by simp, by simp, by simp⟩
            have SW := HS.out.below BW
            have hb' := hb.trans (BW.mono hb.size)
            have cmW : (wr.alloc (.cells #[.int .i32 (q m).p, .int .i32 (q m).d, .int .i32 (q m).u] 55)).cell? ⟨gm, om + m, none⟩ = some (.bool (f m)) := (BW.cell (p := ⟨gm, om + m, none⟩) (Nat.lt_of_lt_of_le lm hb.size)).trans cm1
            generalize wr.heap.size = L at *
            generalize wr.alloc (.cells #[.int .i32 (q m).p, .int .i32 (q m).d, .int .i32 (q m).u] 55) = W at *
            clear t0 t1 t2 hs0 hs3 HS cm1 hb BW hSl hgl
            have lL : L < W.heap.size := World.block_lt_of_cell? _ _ CW.c0
            have lS : S < W.heap.size := World.block_lt_of_cell? _ _ SW.s0
            have l0 : ∀ x, (grow W x).cell? ⟨L, 0, none⟩ = some (.int .i32 (q m).p) := fun x => (grow_cell W x lL).trans CW.c0
            have l1 : ∀ x, (grow W x).cell? ⟨L, 1, none⟩ = some (.int .i32 (q m).d) := fun x => (grow_cell W x lL).trans CW.c1
            have l2 : ∀ x, (grow W x).cell? ⟨L, 2, none⟩ = some (.int .i32 (q m).u) := fun x => (grow_cell W x lL).trans CW.c2
            have z0 : ∀ x, (grow W x).cell? ⟨S, 0, none⟩ = some (.pointer (some ⟨R, 0, none⟩)) := fun x => (grow_cell W x lS).trans SW.s0
            have z3 : ∀ x, (grow W x).cell? ⟨S, 3, none⟩ = some (.slice a4 n4 c4) := fun x => (grow_cell W x lS).trans SW.s3
            refine wp_region_grow (by kernel_rfl) (by kernel_rfl) ?_
            repeat (go_big_quiet_step ((go_at_call 27; exact quiet_grow (open_any R bb nb k m _ _ _ nn _ hn hlt (SW.red.below (grow_below W _))))))
            refine wpQuiet_nil ?_
            intro _ hw'
            obtain ⟨x, rfl⟩ := hw'
            have hbx := hb'.trans ((grow_below W x).mono hb'.size)
            have mx : (grow W x).cell? ⟨gm, om + m, none⟩ = some (.bool (f m)) := (grow_cell W x (World.block_lt_of_cell? _ _ cmW)).trans cmW
            have SX := SW.below (grow_below W x)
            have CX0 := l0 x
            clear l0 l1 l2 z0 z3 CW SW hb' cmW lL lS
            clear SX mx CX0
            go_wp2
            go_roundg (k - (m + 1))
            case measure => go_light; omega
            case rel =>
              go_light
              exact ⟨m + 1, by omega, rfl, by rw [Hst.out], by rw [Hst.out], by rw [Hst.out], by go_num, hbx⟩
          · obtain ⟨pm, hpm⟩ : ∃ pm : Nat, (q m).p = (pm : Int) := ⟨((q m).p).toNat, by omega⟩
            have HPM : Hid ((q m).p = (pm : Int)) := hpm
            have hpn : pm < n4 := by have := hp m hlt; omega
            have hpnz : (pm : Int) < (n4 : Int) := by omega
            obtain ⟨rfl, l4⟩ := q4 (by omega)
            have c4v : wr.cell? ⟨g4, o4 + pm, none⟩ = some (.int .i32 (mem pm)) := by rw [hb.cell (p := ⟨g4, o4 + pm, none⟩) l4]; exact v4 pm hpn
            have hm32 := hm pm hpn
            have hpd : decide ((pm : Int) < 0) = false := decide_eq_false (by omega)
            rw [hpm] at t0
            clear h3 qm q4 v4 vm hp hm h0 hpm
            by_cases h1 : nn m = 1
            · have h1d : decide (nn m = 1) = true := decide_eq_true h1
              have H1 : Hid (nn m = 1) := h1
              clear h1
              by_cases h2 : mem pm < 0
              · have h2d : decide (mem pm < 0) = true := decide_eq_true h2
                have Hst : Hid (st (fun i => (q i).p) nn mem f (decide (inner (fun i => (q i).p) k ≤ 1)) (m + 1) = st (fun i => (q i).p) nn mem f (decide (inner (fun i => (q i).p) k ≤ 1)) m) := st_skip (by simp only [hit, HPM.out, Int.toNat_natCast]; rw [decide_eq_false (show ¬ (0 ≤ mem pm) by omega)]; simp)
                go_wp2
                have BW : Below wr.heap.size wr (wr.alloc (.cells #[.int .i32 (pm : Int), .int .i32 (q m).d, .int .i32 (q m).u] 55)) := (Below.refl _ _).alloc (Nat.le_refl _) _
                have CW : CAt (wr.alloc (.cells #[.int .i32 (pm : Int), .int .i32 (q m).d, .int .i32 (q m).u] 55)) wr.heap.size 0 ⟨(pm : Int), (q m).d, (q m).u⟩ := ⟨by simp, by simp, by simp⟩
                have SW := HS.out.below BW
                have c4W : (wr.alloc (.cells #[.int .i32 (pm : Int), .int .i32 (q m).d, .int .i32 (q m).u] 55)).cell? ⟨g4, o4 + pm, none⟩ = some (.int .i32 (mem pm)) := (BW.cell (p := ⟨g4, o4 + pm, none⟩) (Nat.lt_of_lt_of_le l4 hb.size)).trans c4v
                have hb' := hb.trans (BW.mono hb.size)
                have cmW : (wr.alloc (.cells #[.int .i32 (pm : Int), .int .i32 (q m).d, .int .i32 (q m).u] 55)).cell? ⟨gm, om + m, none⟩ = some (.bool (f m)) := (BW.cell (p := ⟨gm, om + m, none⟩) (Nat.lt_of_lt_of_le lm hb.size)).trans cm1
                generalize wr.heap.size = L at *
                generalize wr.alloc (.cells #[.int .i32 (pm : Int), .int .i32 (q m).d, .int .i32 (q m).u] 55) = W at *
                clear t0 t1 t2 hs0 hs3 HS cm1 hb BW hSl hgl c4v
                have lL : L < W.heap.size := World.block_lt_of_cell? _ _ CW.c0
                have lS : S < W.heap.size := World.block_lt_of_cell? _ _ SW.s0
                have l0 : ∀ x, (grow W x).cell? ⟨L, 0, none⟩ = some (.int .i32 (pm : Int)) := fun x => (grow_cell W x lL).trans CW.c0
                have l1 : ∀ x, (grow W x).cell? ⟨L, 1, none⟩ = some (.int .i32 (q m).d) := fun x => (grow_cell W x lL).trans CW.c1
                have l2 : ∀ x, (grow W x).cell? ⟨L, 2, none⟩ = some (.int .i32 (q m).u) := fun x => (grow_cell W x lL).trans CW.c2
                have z0 : ∀ x, (grow W x).cell? ⟨S, 0, none⟩ = some (.pointer (some ⟨R, 0, none⟩)) := fun x => (grow_cell W x lS).trans SW.s0
                have z3 : ∀ x, (grow W x).cell? ⟨S, 3, none⟩ = some (.slice (some ⟨g4, o4, none⟩) n4 c4) := fun x => (grow_cell W x lS).trans SW.s3
                have y4 : ∀ x, (grow W x).cell? ⟨g4, o4 + pm, none⟩ = some (.int .i32 (mem pm)) := fun x => (grow_cell W x (World.block_lt_of_cell? _ _ c4W)).trans c4W
                refine wp_region_grow (by kernel_rfl) (by kernel_rfl) ?_
                repeat (go_big_quiet_step ((go_at_call 27; exact quiet_grow (open_any R bb nb k m _ _ _ nn _ hn hlt (SW.red.below (grow_below W _))))))
                refine wpQuiet_nil ?_
                intro _ hw'
                obtain ⟨x, rfl⟩ := hw'
                have hbx := hb'.trans ((grow_below W x).mono hb'.size)
                have mx : (grow W x).cell? ⟨gm, om + m, none⟩ = some (.bool (f m)) := (grow_cell W x (World.block_lt_of_cell? _ _ cmW)).trans cmW
                have SX := SW.below (grow_below W x)
                have CX0 := l0 x
                have CX4 := y4 x
                clear l0 l1 l2 z0 z3 CW SW hb' cmW lL lS c4W y4
                clear SX mx CX0 CX4
                go_wp2
                go_roundg (k - (m + 1))
                case measure => go_light; omega
                case rel =>
                  go_light
                  exact ⟨m + 1, by omega, rfl, by rw [Hst.out], by rw [Hst.out], by rw [Hst.out], by go_num, hbx⟩
              · obtain ⟨mm, hmm⟩ : ∃ mm : Nat, mem pm = (mm : Int) := ⟨(mem pm).toNat, by omega⟩
                have HMM : Hid (mem pm = (mm : Int)) := hmm
                rw [hmm] at c4v
                have hmm32 : mm < 32 := by omega
                have hmd : decide ((mm : Int) < 0) = false := decide_eq_false (by omega)
                clear hmm h2 hm32
                go_wp2
                have BW : Below wr.heap.size wr (wr.alloc (.cells #[.int .i32 (pm : Int), .int .i32 (q m).d, .int .i32 (q m).u] 55)) := (Below.refl _ _).alloc (Nat.le_refl _) _
                have CW : CAt (wr.alloc (.cells #[.int .i32 (pm : Int), .int .i32 (q m).d, .int .i32 (q m).u] 55)) wr.heap.size 0 ⟨(pm : Int), (q m).d, (q m).u⟩ := ⟨by simp, by simp, by simp⟩
                have SW := HS.out.below BW
                have c4W : (wr.alloc (.cells #[.int .i32 (pm : Int), .int .i32 (q m).d, .int .i32 (q m).u] 55)).cell? ⟨g4, o4 + pm, none⟩ = some (.int .i32 (mm : Int)) := (BW.cell (p := ⟨g4, o4 + pm, none⟩) (Nat.lt_of_lt_of_le l4 hb.size)).trans c4v
                have hb' := hb.trans (BW.mono hb.size)
                have cmW : (wr.alloc (.cells #[.int .i32 (pm : Int), .int .i32 (q m).d, .int .i32 (q m).u] 55)).cell? ⟨gm, om + m, none⟩ = some (.bool (f m)) := (BW.cell (p := ⟨gm, om + m, none⟩) (Nat.lt_of_lt_of_le lm hb.size)).trans cm1
                generalize wr.heap.size = L at *
                generalize wr.alloc (.cells #[.int .i32 (pm : Int), .int .i32 (q m).d, .int .i32 (q m).u] 55) = W at *
                clear t0 t1 t2 hs0 hs3 HS cm1 hb BW hSl hgl c4v
                have lL : L < W.heap.size := World.block_lt_of_cell? _ _ CW.c0
                have lS : S < W.heap.size := World.block_lt_of_cell? _ _ SW.s0
                have l0 : ∀ x, (grow W x).cell? ⟨L, 0, none⟩ = some (.int .i32 (pm : Int)) := fun x => (grow_cell W x lL).trans CW.c0
                have l1 : ∀ x, (grow W x).cell? ⟨L, 1, none⟩ = some (.int .i32 (q m).d) := fun x => (grow_cell W x lL).trans CW.c1
                have l2 : ∀ x, (grow W x).cell? ⟨L, 2, none⟩ = some (.int .i32 (q m).u) := fun x => (grow_cell W x lL).trans CW.c2
                have z0 : ∀ x, (grow W x).cell? ⟨S, 0, none⟩ = some (.pointer (some ⟨R, 0, none⟩)) := fun x => (grow_cell W x lS).trans SW.s0
                have z3 : ∀ x, (grow W x).cell? ⟨S, 3, none⟩ = some (.slice (some ⟨g4, o4, none⟩) n4 c4) := fun x => (grow_cell W x lS).trans SW.s3
                have y4 : ∀ x, (grow W x).cell? ⟨g4, o4 + pm, none⟩ = some (.int .i32 (mm : Int)) := fun x => (grow_cell W x (World.block_lt_of_cell? _ _ c4W)).trans c4W
                refine wp_region_grow (by kernel_rfl) (by kernel_rfl) ?_
                repeat (go_big_quiet_step ((go_at_call 27; exact quiet_grow (open_any R bb nb k m _ _ _ nn _ hn hlt (SW.red.below (grow_below W _))))))
                refine wpQuiet_nil ?_
                intro _ hw'
                obtain ⟨x, rfl⟩ := hw'
                have hbx := hb'.trans ((grow_below W x).mono hb'.size)
                have mx : (grow W x).cell? ⟨gm, om + m, none⟩ = some (.bool (f m)) := (grow_cell W x (World.block_lt_of_cell? _ _ cmW)).trans cmW
                have SX := SW.below (grow_below W x)
                have CX0 := l0 x
                have CX4 := y4 x
                clear l0 l1 l2 z0 z3 CW SW hb' cmW lL lS c4W y4
                have x0 := SX.s0
                have x3 := SX.s3
                clear SX
                generalize grow W x = WX at *
                go_wp2
                go_quiet (fail)
                rw [show ((2 : Int) ^ mm % 4294967296) = ((2 ^ mm : Nat) : Int) from pow_small hmm32]
                have hfit : bitOf (fun i => (q i).p) mem m = 2 ^ mm := by simp only [bitOf, HPM.out, Int.toNat_natCast, HMM.out]
                have HSt := st_hit (fl0 := decide (inner (fun i => (q i).p) k ≤ 1)) (f := f) (show hit (fun i => (q i).p) nn mem m = true by simp only [hit, HPM.out, H1.out, Int.toNat_natCast, HMM.out]; simp)
                rw [hfit] at HSt
                have hbt : 2 ^ mm < 4294967296 := by show 2 ^ mm < 2 ^ 32; exact Nat.pow_lt_pow_right (by decide) hmm32
                obtain ⟨bnm, bnd⟩ := HLT.out m hmk
                have hby := hbx.trans ((below_drewN' WX nq).mono hbx.size)
                have my : (WX.drewN nq).cell? ⟨gm, om + m, none⟩ = some (.bool (f m)) := mx
                clear hfit x0 x3 CX0 CX4 hbx mx
                generalize 2 ^ mm = bt at *
                generalize (st (fun i => (q i).p) nn mem f (decide (inner (fun i => (q i).p) k ≤ 1)) m) = s0 at *
                obtain ⟨nm, nd, fl⟩ := s0
                dsimp only at *
                generalize WX.drewN nq = WY at *
                have HSt' : Hid (st (fun i => (q i).p) nn mem f (decide (inner (fun i => (q i).p) k ≤ 1)) (m + 1) = ⟨nm ||| bt, if f m = true then nd ||| bt else nd, if nm &&& bt = 0 then fl else false⟩) := HSt
                clear HSt
                have hor1 : bits .or .u32 (nm : Int) (bt : Int) = ((nm ||| bt : Nat) : Int) := u32_or_nat nm bt bnm hbt
                have hor2 : bits .or .u32 (nd : Int) (bt : Int) = ((nd ||| bt : Nat) : Int) := u32_or_nat nd bt bnd hbt
                have hand := u32_and_nat nm bt bnm hbt
                clear bnm bnd hbt
                by_cases hz : nm &&& bt = 0
                · rw [hz] at hand
                  have HZ : Hid (nm &&& bt = 0) := hz
                  clear hz
                  cases hfm : f m
                  · rw [hfm] at my
                    go_wp2
                    go_roundg (k - (m + 1))
                    case measure => go_light; omega
                    case rel =>
                      go_light
                      exact ⟨m + 1, by omega, rfl, by rw [HSt'.out]; simp only [hfm, Bool.false_eq_true, if_false], by rw [HSt'.out]; simp only [HZ.out, if_true], by rw [HSt'.out], by go_num, hby⟩
                  · rw [hfm] at my
                    go_wp2
                    go_roundg (k - (m + 1))
                    case measure => go_light; omega
                    case rel =>
                      go_light
                      exact ⟨m + 1, by omega, rfl, by rw [HSt'.out]; simp only [hfm, if_true], by rw [HSt'.out]; simp only [HZ.out, if_true], by rw [HSt'.out], by go_num, hby⟩
                · have hz' : (((nm &&& bt : Nat) : Int) != 0) = true := by rw [bne_iff_ne]; omega
                  have HZ : Hid (¬ nm &&& bt = 0) := hz
                  clear hz
                  cases hfm : f m
                  · rw [hfm] at my
                    go_wp2
                    go_roundg (k - (m + 1))
                    case measure => go_light; omega
                    case rel =>
                      go_light
                      exact ⟨m + 1, by omega, rfl, by rw [HSt'.out]; simp only [hfm, Bool.false_eq_true, if_false], by rw [HSt'.out]; simp only [HZ.out, if_false], by rw [HSt'.out], by go_num, hby⟩
                  · rw [hfm] at my
                    go_wp2
                    go_roundg (k - (m + 1))
                    case measure => go_light; omega
                    case rel =>
                      go_light
                      exact ⟨m + 1, by omega, rfl, by rw [HSt'.out]; simp only [hfm, if_true], by rw [HSt'.out]; simp only [HZ.out, if_false], by rw [HSt'.out], by go_num, hby⟩
            · have h1d : decide (nn m = 1) = false := decide_eq_false h1
              have Hst : Hid (st (fun i => (q i).p) nn mem f (decide (inner (fun i => (q i).p) k ≤ 1)) (m + 1) = st (fun i => (q i).p) nn mem f (decide (inner (fun i => (q i).p) k ≤ 1)) m) := st_skip (by simp only [hit]; rw [h1d]; simp)
              go_wp2
              have BW : Below wr.heap.size wr (wr.alloc (.cells #[.int .i32 (pm : Int), .int .i32 (q m).d, .int .i32 (q m).u] 55)) := (Below.refl _ _).alloc (Nat.le_refl _) _
              have CW : CAt (wr.alloc (.cells #[.int .i32 (pm : Int), .int .i32 (q m).d, .int .i32 (q m).u] 55)) wr.heap.size 0 ⟨(pm : Int), (q m).d, (q m).u⟩ := ⟨by simp, by simp, by simp⟩
              have SW := HS.out.below BW
              have c4W : (wr.alloc (.cells #[.int .i32 (pm : Int), .int .i32 (q m).d, .int .i32 (q m).u] 55)).cell? ⟨g4, o4 + pm, none⟩ = some (.int .i32 (mem pm)) := (BW.cell (p := ⟨g4, o4 + pm, none⟩) (Nat.lt_of_lt_of_le l4 hb.size)).trans c4v
              have hb' := hb.trans (BW.mono hb.size)
              have cmW : (wr.alloc (.cells #[.int .i32 (pm : Int), .int .i32 (q m).d, .int .i32 (q m).u] 55)).cell? ⟨gm, om + m, none⟩ = some (.bool (f m)) := (BW.cell (p := ⟨gm, om + m, none⟩) (Nat.lt_of_lt_of_le lm hb.size)).trans cm1
              generalize wr.heap.size = L at *
              generalize wr.alloc (.cells #[.int .i32 (pm : Int), .int .i32 (q m).d, .int .i32 (q m).u] 55) = W at *
              clear t0 t1 t2 hs0 hs3 HS cm1 hb BW hSl hgl c4v
              have lL : L < W.heap.size := World.block_lt_of_cell? _ _ CW.c0
              have lS : S < W.heap.size := World.block_lt_of_cell? _ _ SW.s0
              have l0 : ∀ x, (grow W x).cell? ⟨L, 0, none⟩ = some (.int .i32 (pm : Int)) := fun x => (grow_cell W x lL).trans CW.c0
              have l1 : ∀ x, (grow W x).cell? ⟨L, 1, none⟩ = some (.int .i32 (q m).d) := fun x => (grow_cell W x lL).trans CW.c1
              have l2 : ∀ x, (grow W x).cell? ⟨L, 2, none⟩ = some (.int .i32 (q m).u) := fun x => (grow_cell W x lL).trans CW.c2
              have z0 : ∀ x, (grow W x).cell? ⟨S, 0, none⟩ = some (.pointer (some ⟨R, 0, none⟩)) := fun x => (grow_cell W x lS).trans SW.s0
              have z3 : ∀ x, (grow W x).cell? ⟨S, 3, none⟩ = some (.slice (some ⟨g4, o4, none⟩) n4 c4) := fun x => (grow_cell W x lS).trans SW.s3
              have y4 : ∀ x, (grow W x).cell? ⟨g4, o4 + pm, none⟩ = some (.int .i32 (mem pm)) := fun x => (grow_cell W x (World.block_lt_of_cell? _ _ c4W)).trans c4W
              refine wp_region_grow (by kernel_rfl) (by kernel_rfl) ?_
              repeat (go_big_quiet_step ((go_at_call 27; exact quiet_grow (open_any R bb nb k m _ _ _ nn _ hn hlt (SW.red.below (grow_below W _))))))
              refine wpQuiet_nil ?_
              intro _ hw'
              obtain ⟨x, rfl⟩ := hw'
              have hbx := hb'.trans ((grow_below W x).mono hb'.size)
              have mx : (grow W x).cell? ⟨gm, om + m, none⟩ = some (.bool (f m)) := (grow_cell W x (World.block_lt_of_cell? _ _ cmW)).trans cmW
              have SX := SW.below (grow_below W x)
              have CX0 := l0 x
              have CX4 := y4 x
              clear l0 l1 l2 z0 z3 CW SW hb' cmW lL lS c4W y4
              clear SX mx CX0 CX4
              go_wp2
              go_roundg (k - (m + 1))
              case measure => go_light; omega
              case rel =>
                go_light
                exact ⟨m + 1, by omega, rfl, by rw [Hst.out], by rw [Hst.out], by rw [Hst.out], by go_num, hbx⟩
        · obtain rfl : m = k := by omega
          clear h3 qm q4 v4 vm hp hm
          go_wp2
          go_ret2
          exact ⟨f, HF.out, rfl, B2.trans (hb.mono B2.size)⟩

end Go.Proofs.Qxb6000405a
