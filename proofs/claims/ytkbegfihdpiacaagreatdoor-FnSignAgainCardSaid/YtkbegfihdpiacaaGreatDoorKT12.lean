/- Part 12 of the proof: what the theorem reaches of the texts KR16. -/
import Derived.IntWalk
import Derived.StillTailTactics
import Derived.Test.YtkbegfihdpiacaaGreatDoorKT4
import Derived.Test.YtkbegfihdpiacaaGreatDoorKT11
set_option linter.unusedVariables false
set_option linter.unusedSimpArgs false
namespace Go.Proofs.YtkbegfihdpiacaaGreatDoor.PX
open Go.RowKit Go.Proofs.YtkbegfihdpiacaaGreatDoorW.PrintWords Go.Proofs.YtkbegfihdpiacaaGreatDoorW.PrintLast Go.Proofs.YtkbegfihdpiacaaGreatDoorW.PrintMore
attribute [local go_sem] max2_int min2_int max_two min_two max_three min_three max_four min_four   -- for this text's walks alone
attribute [local go_sem high] eqA49
def spec_Find.l0 : Nat → ByteArray → Int → List (S66) → Int → Int → Option (Int)
 | 0, _, _, _, _, _ => none
 | k + 1, x1, x2, x9, x10, x11 => if x11 < x10 then (if 0 ≤ x11 then (if x11 < (x9.length : Int) then (if ((rd_T66 x9 x11).f0).toList = x1.toList then (if ((rd_T66 x9 x11).f1) = x2 then (some x11) else (spec_Find.l0 k x1 x2 x9 x10 (wrap64 (x11 + 1)))) else (spec_Find.l0 k x1 x2 x9 x10 (wrap64 (x11 + 1)))) else (none)) else (none)) else (some (-1))
def spec_Find.f (k : Nat) (l0 : List (S66)) (a1 : ByteArray) (a2 : Int) : Option (Int) := spec_Find.l0 k a1 a2 l0 (l0.length : Int) 0
theorem spec_Find.mono_l : ∀ k, (∀ y0 y1 y2 y3 y4, LeO (spec_Find.l0 k y0 y1 y2 y3 y4) (spec_Find.l0 (k + 1) y0 y1 y2 y3 y4))
 | 0 => fun _ _ _ _ _ r h => by simp [spec_Find.l0] at h
 | k + 1 => by
  have ih0 := spec_Find.mono_l k
  ·intro y0 y1 y2 y3 y4
   unfold spec_Find.l0
   repeat' first
   | (with_reducible exact ih0 _ _ _ _ _)
   | (with_reducible exact LeO.refl _)
   | (with_reducible exact LeO.none _)
   | (with_reducible refine LeO.ite ?_ ?_)
   | (with_reducible refine LeO.bind ?_ (fun _ => ?_))
   | exact ih0 _ _ _ _ _
   | exact LeO.none _
   | refine LeO.ite ?_ ?_
   | refine LeO.bind ?_ (fun _ => ?_)
theorem spec_Find.mono : ∀ a0 a1 a2 k, LeO (spec_Find.f k a0 a1 a2) (spec_Find.f (k + 1) a0 a1 a2) := by
 intro a0 a1 a2 k
 have ih0 := spec_Find.mono_l k
 unfold spec_Find.f
 repeat' first
   | (with_reducible exact ih0 _ _ _ _ _)
   | (with_reducible exact LeO.refl _)
   | (with_reducible exact LeO.none _)
   | (with_reducible refine LeO.ite ?_ ?_)
   | (with_reducible refine LeO.bind ?_ (fun _ => ?_))
   | exact ih0 _ _ _ _ _
   | exact LeO.none _
   | refine LeO.ite ?_ ?_
   | refine LeO.bind ?_ (fun _ => ?_)
set_option maxHeartbeats 8000000 in
set_option maxRecDepth 100000 in
theorem spec_Find.calls (k : Nat) (A0 : Option Addr) (c0 : Nat) (l0 : List (S66)) (a1 : ByteArray) (a2 : Int) (r : Int) (w : World) (hr0 : Kd.C k66 w A0 l0.length l0) (hc0 : l0.length ≤ c0) (h : spec_Find.f k l0 a1 a2 = some r) :
  Calls Tryz.prog 20 #[.slice A0 l0.length c0, .string a1, .int .u32 a2] w fun e w' => e = .returned (.int .i64 r) ∧ Below w.heap.size w w' := by
 have hu66 := Tryz.underlying66
 have HR0 := Aside0.mk hr0
 have HC0 := Aside0.mk hc0
 clear hr0 hc0
 have HB := Aside0.mk (Below.refl w.heap.size w)
 have H : (spec_Find.l0 k a1 a2 l0 (l0.length : Int) 0) = some r := h
 clear h
 have H' := Aside0.mk H
 clear H
 go_enter Tryz.func20, Tryz.ntmps20
 go_wp2
 go_loopg [11] k (fun kq v11 w' => ∃ (x11_1 : Int), v11 = .int .i64 x11_1 ∧ Aside0 (spec_Find.l0 kq a1 a2 l0 (l0.length : Int) x11_1 = some r) ∧ Aside0 (kq ≤ k) ∧ Aside0 (Below w.heap.size w w'))
 case atStart => exact ⟨(0), (by first | rfl | (simp; done) | (simp [*]; done)), H', ⟨Nat.le_refl _⟩, ⟨by repeat (first | (with_reducible first | exact HB.out | apply below_alloc | apply pw_below_drewN | apply below_drew1) | exact HB.out)⟩⟩
 case round =>
  clear H'
  try clear c2
  try clear p2
  obtain ⟨x11_1, rfl, HA, HK1, HB⟩ := hrel
  cases gk with
  | zero => exact absurd HA.out (by simp [spec_Find.l0])
  | succ k1 =>
   have H := HA.out
   clear HA
   simp only [spec_Find.l0] at H
   by_cases c4 : x11_1 < (l0.length : Int)
   ·rw [if_pos c4] at H
    have c4b0 : decide (x11_1 < (l0.length : Int)) = true := decide_eq_true c4
    clear c4
    by_cases c5 : 0 ≤ x11_1
    ·rw [if_pos c5] at H
     have c5b0 : decide (0 ≤ x11_1) = true := decide_eq_true c5
     clear c5
     by_cases c6 : x11_1 < (l0.length : Int)
     ·rw [if_pos c6] at H
      have c6b0 : decide (x11_1 < (l0.length : Int)) = true := decide_eq_true c6
      clear c6
      by_cases c7 : ((rd_T66 l0 x11_1).f0).toList = a1.toList
      ·rw [if_pos c7] at H
       have c7b0 : (((rd_T66 l0 x11_1).f0).toList == a1.toList) = true := beq_iff_eq.mpr c7
       have c7b1 : (((rd_T66 l0 x11_1).f0).toList != a1.toList) = false := bne_eq_false_iff_eq.mpr c7
       clear c7
       by_cases c8 : ((rd_T66 l0 x11_1).f1) = a2
       ·rw [if_pos c8] at H
        have c8b0 : (((rd_T66 l0 x11_1).f1) == a2) = true := beq_iff_eq.mpr c8
        have c8b1 : (((rd_T66 l0 x11_1).f1) != a2) = false := bne_eq_false_iff_eq.mpr c8
        clear c8
        obtain rfl := Option.some.inj H
        have p180 : 0 ≤ (x11_1 : Int) := of_decide_eq_true (by first | (with_reducible assumption) | assumption)
        have q180 : x11_1 < (l0.length : Int) := of_decide_eq_true (by first | (with_reducible assumption) | assumption)
        obtain ⟨ad180, A180_2, c180_2, A180_3, c180_3, e180, hx180_0, hx180_1, hx180_2, hx180_3, hl180_2, hi180_2, hl180_3, hi180_3⟩ := at_T66 HR0.out x11_1 p180 q180
        cases e180
        replace hx180_0 := (HB.out.cell (World.block_lt_of_cell? w _ hx180_0)).trans hx180_0
        replace hx180_1 := (HB.out.cell (World.block_lt_of_cell? w _ hx180_1)).trans hx180_1
        replace hx180_2 := (HB.out.cell (World.block_lt_of_cell? w _ hx180_2)).trans hx180_2
        replace hx180_3 := (HB.out.cell (World.block_lt_of_cell? w _ hx180_3)).trans hx180_3
        have HR180_2 := Aside0.mk hi180_2
        have HC180_2 := Aside0.mk hl180_2
        clear hi180_2 hl180_2
        have HR180_3 := Aside0.mk hi180_3
        have HC180_3 := Aside0.mk hl180_3
        clear hi180_3 hl180_3
        replace p180 := eq_true p180
        replace q180 := eq_true q180
        go_wp2_with (first | ((with_reducible refine gate_dst (N := 8) rfl ?_); refine box_event ?hg (N := 8) ?hd (cs := #[.string (⟨#[]⟩ : ByteArray), .int .u32 0, .slice none 0 0, .slice none 0 0]) (t := 66) ?hr ?_; (case hd => rfl); (case hg => rfl); (case hr => first | (go_simp; done) | (go_simp; rfl)); intro gb181 hg w9 hbox hb; have n0_ := Aside0.mk (below_step (by repeat (first | (with_reducible first | exact HB.out | apply below_alloc | apply pw_below_drewN | apply below_drew1) | exact HB.out)) hb); have n1_ := Aside0.mk (hbox); have n2_ := Aside0.mk ((by rw [hg]; exact (below_size (by repeat (first | (with_reducible first | exact HB.out | apply below_alloc | apply pw_below_drewN | apply below_drew1) | exact HB.out))) : w.heap.size ≤ gb181)); have n3_ := Aside0.mk ((by rw [hg]; exact (below_size (by repeat (first | (with_reducible first | exact HB.out | apply below_alloc | apply pw_below_drewN | apply below_drew1) | exact HB.out))) : w.heap.size ≤ gb181)); clear HB; have HB := n0_; have BK181 := n1_; have GW181 := n2_; have GE181 := n3_; clear n0_ n1_ n2_ n3_; clear hb hbox hg; have hcz10_0 : w9.cell? ⟨gb181, 0, none⟩ = some (.string (⟨#[]⟩ : ByteArray)) := (blk_cell BK181.out 0).trans rfl; have hcz10_1 : w9.cell? ⟨gb181, 1, none⟩ = some (.int .u32 0) := (blk_cell BK181.out 1).trans rfl; have hcz10_2 : w9.cell? ⟨gb181, 2, none⟩ = some (.slice none 0 0) := (blk_cell BK181.out 2).trans rfl; have hcz10_3 : w9.cell? ⟨gb181, 3, none⟩ = some (.slice none 0 0) := (blk_cell BK181.out 3).trans rfl; have hfz10_0 := blk_frozen BK181.out 0; have hfz10_1 := blk_frozen BK181.out 1; have hfz10_2 := blk_frozen BK181.out 2; have hfz10_3 := blk_frozen BK181.out 3))
        go_ret
        exact ⟨by first | rfl | (simp [errW_none, errW_some] <;> rfl) | (simp [*, errW_none, errW_some] <;> rfl), by repeat (first | (with_reducible first | exact HB.out | apply below_alloc | apply pw_below_drewN | apply below_drew1 | refine below_set ?_ GE181.out) | exact HB.out)⟩
       ·rw [if_neg c8] at H
        have c8b0 : (((rd_T66 l0 x11_1).f1) == a2) = false := beq_eq_false_iff_ne.mpr c8
        have c8b1 : (((rd_T66 l0 x11_1).f1) != a2) = true := bne_iff_ne.mpr c8
        have H' := Aside0.mk H
        clear H
        have p180 : 0 ≤ (x11_1 : Int) := of_decide_eq_true (by first | (with_reducible assumption) | assumption)
        have q180 : x11_1 < (l0.length : Int) := of_decide_eq_true (by first | (with_reducible assumption) | assumption)
        obtain ⟨ad180, A180_2, c180_2, A180_3, c180_3, e180, hx180_0, hx180_1, hx180_2, hx180_3, hl180_2, hi180_2, hl180_3, hi180_3⟩ := at_T66 HR0.out x11_1 p180 q180
        cases e180
        replace hx180_0 := (HB.out.cell (World.block_lt_of_cell? w _ hx180_0)).trans hx180_0
        replace hx180_1 := (HB.out.cell (World.block_lt_of_cell? w _ hx180_1)).trans hx180_1
        replace hx180_2 := (HB.out.cell (World.block_lt_of_cell? w _ hx180_2)).trans hx180_2
        replace hx180_3 := (HB.out.cell (World.block_lt_of_cell? w _ hx180_3)).trans hx180_3
        have HR180_2 := Aside0.mk hi180_2
        have HC180_2 := Aside0.mk hl180_2
        clear hi180_2 hl180_2
        have HR180_3 := Aside0.mk hi180_3
        have HC180_3 := Aside0.mk hl180_3
        clear hi180_3 hl180_3
        replace p180 := eq_true p180
        replace q180 := eq_true q180
        go_wp2_with (first | ((with_reducible refine gate_dst (N := 8) rfl ?_); refine box_event ?hg (N := 8) ?hd (cs := #[.string (⟨#[]⟩ : ByteArray), .int .u32 0, .slice none 0 0, .slice none 0 0]) (t := 66) ?hr ?_; (case hd => rfl); (case hg => rfl); (case hr => first | (go_simp; done) | (go_simp; rfl)); intro gb181 hg w11 hbox hb; have n0_ := Aside0.mk (below_step (by repeat (first | (with_reducible first | exact HB.out | apply below_alloc | apply pw_below_drewN | apply below_drew1) | exact HB.out)) hb); have n1_ := Aside0.mk (hbox); have n2_ := Aside0.mk ((by rw [hg]; exact (below_size (by repeat (first | (with_reducible first | exact HB.out | apply below_alloc | apply pw_below_drewN | apply below_drew1) | exact HB.out))) : w.heap.size ≤ gb181)); have n3_ := Aside0.mk ((by rw [hg]; exact (below_size (by repeat (first | (with_reducible first | exact HB.out | apply below_alloc | apply pw_below_drewN | apply below_drew1) | exact HB.out))) : w.heap.size ≤ gb181)); clear HB; have HB := n0_; have BK181 := n1_; have GW181 := n2_; have GE181 := n3_; clear n0_ n1_ n2_ n3_; clear hb hbox hg; have hcz12_0 : w11.cell? ⟨gb181, 0, none⟩ = some (.string (⟨#[]⟩ : ByteArray)) := (blk_cell BK181.out 0).trans rfl; have hcz12_1 : w11.cell? ⟨gb181, 1, none⟩ = some (.int .u32 0) := (blk_cell BK181.out 1).trans rfl; have hcz12_2 : w11.cell? ⟨gb181, 2, none⟩ = some (.slice none 0 0) := (blk_cell BK181.out 2).trans rfl; have hcz12_3 : w11.cell? ⟨gb181, 3, none⟩ = some (.slice none 0 0) := (blk_cell BK181.out 3).trans rfl; have hfz12_0 := blk_frozen BK181.out 0; have hfz12_1 := blk_frozen BK181.out 1; have hfz12_2 := blk_frozen BK181.out 2; have hfz12_3 := blk_frozen BK181.out 3))
        go_roundg k1
        case measure => have := HK1.out; omega
        case rel => exact ⟨(wrap64 (x11_1 + 1)), (by first | rfl | (simp; done) | (simp [*]; done)), H', ⟨by have := HK1.out; omega⟩, ⟨by repeat (first | (with_reducible first | exact HB.out | apply below_alloc | apply pw_below_drewN | apply below_drew1 | refine below_set ?_ GE181.out) | exact HB.out)⟩⟩
      ·rw [if_neg c7] at H
       have c7b0 : (((rd_T66 l0 x11_1).f0).toList == a1.toList) = false := beq_eq_false_iff_ne.mpr c7
       have c7b1 : (((rd_T66 l0 x11_1).f0).toList != a1.toList) = true := bne_iff_ne.mpr c7
       have H' := Aside0.mk H
       clear H
       have p180 : 0 ≤ (x11_1 : Int) := of_decide_eq_true (by first | (with_reducible assumption) | assumption)
       have q180 : x11_1 < (l0.length : Int) := of_decide_eq_true (by first | (with_reducible assumption) | assumption)
       obtain ⟨ad180, A180_2, c180_2, A180_3, c180_3, e180, hx180_0, hx180_1, hx180_2, hx180_3, hl180_2, hi180_2, hl180_3, hi180_3⟩ := at_T66 HR0.out x11_1 p180 q180
       cases e180
       replace hx180_0 := (HB.out.cell (World.block_lt_of_cell? w _ hx180_0)).trans hx180_0
       replace hx180_1 := (HB.out.cell (World.block_lt_of_cell? w _ hx180_1)).trans hx180_1
       replace hx180_2 := (HB.out.cell (World.block_lt_of_cell? w _ hx180_2)).trans hx180_2
       replace hx180_3 := (HB.out.cell (World.block_lt_of_cell? w _ hx180_3)).trans hx180_3
       have HR180_2 := Aside0.mk hi180_2
       have HC180_2 := Aside0.mk hl180_2
       clear hi180_2 hl180_2
       have HR180_3 := Aside0.mk hi180_3
       have HC180_3 := Aside0.mk hl180_3
       clear hi180_3 hl180_3
       replace p180 := eq_true p180
       replace q180 := eq_true q180
       go_wp2_with (first | ((with_reducible refine gate_dst (N := 8) rfl ?_); refine box_event ?hg (N := 8) ?hd (cs := #[.string (⟨#[]⟩ : ByteArray), .int .u32 0, .slice none 0 0, .slice none 0 0]) (t := 66) ?hr ?_; (case hd => rfl); (case hg => rfl); (case hr => first | (go_simp; done) | (go_simp; rfl)); intro gb181 hg w13 hbox hb; have n0_ := Aside0.mk (below_step (by repeat (first | (with_reducible first | exact HB.out | apply below_alloc | apply pw_below_drewN | apply below_drew1) | exact HB.out)) hb); have n1_ := Aside0.mk (hbox); have n2_ := Aside0.mk ((by rw [hg]; exact (below_size (by repeat (first | (with_reducible first | exact HB.out | apply below_alloc | apply pw_below_drewN | apply below_drew1) | exact HB.out))) : w.heap.size ≤ gb181)); have n3_ := Aside0.mk ((by rw [hg]; exact (below_size (by repeat (first | (with_reducible first | exact HB.out | apply below_alloc | apply pw_below_drewN | apply below_drew1) | exact HB.out))) : w.heap.size ≤ gb181)); clear HB; have HB := n0_; have BK181 := n1_; have GW181 := n2_; have GE181 := n3_; clear n0_ n1_ n2_ n3_; clear hb hbox hg; have hcz14_0 : w13.cell? ⟨gb181, 0, none⟩ = some (.string (⟨#[]⟩ : ByteArray)) := (blk_cell BK181.out 0).trans rfl; have hcz14_1 : w13.cell? ⟨gb181, 1, none⟩ = some (.int .u32 0) := (blk_cell BK181.out 1).trans rfl; have hcz14_2 : w13.cell? ⟨gb181, 2, none⟩ = some (.slice none 0 0) := (blk_cell BK181.out 2).trans rfl; have hcz14_3 : w13.cell? ⟨gb181, 3, none⟩ = some (.slice none 0 0) := (blk_cell BK181.out 3).trans rfl; have hfz14_0 := blk_frozen BK181.out 0; have hfz14_1 := blk_frozen BK181.out 1; have hfz14_2 := blk_frozen BK181.out 2; have hfz14_3 := blk_frozen BK181.out 3))
       go_roundg k1
       case measure => have := HK1.out; omega
       case rel => exact ⟨(wrap64 (x11_1 + 1)), (by first | rfl | (simp; done) | (simp [*]; done)), H', ⟨by have := HK1.out; omega⟩, ⟨by repeat (first | (with_reducible first | exact HB.out | apply below_alloc | apply pw_below_drewN | apply below_drew1 | refine below_set ?_ GE181.out) | exact HB.out)⟩⟩
     ·rw [if_neg c6] at H
      exact absurd H (by simp)
    ·rw [if_neg c5] at H
     exact absurd H (by simp)
   ·rw [if_neg c4] at H
    have c4b0 : decide (x11_1 < (l0.length : Int)) = false := decide_eq_false c4
    clear c4
    obtain rfl := Option.some.inj H
    go_wp2
    go_ret
    exact ⟨by first | rfl | (simp [errW_none, errW_some] <;> rfl) | (simp [*, errW_none, errW_some] <;> rfl), by repeat (first | (with_reducible first | exact HB.out | apply below_alloc | apply pw_below_drewN | apply below_drew1) | exact HB.out)⟩
def spec_has.l0 : Nat → List (S49) → Int → Int → ByteArray → Int → ByteArray → Option (Bool)
 | 0, _, _, _, _, _, _ => none
 | k + 1, x7, x8, x9, x183000, x183001, x183002 => if x9 < x8 then (if 0 ≤ x9 then (if x9 < (x7.length : Int) then (if ((((rd_T49 x7 x9).f0).toList) == x183000.toList && (((rd_T49 x7 x9).f1) == x183001 && ((((rd_T49 x7 x9).f2).toList) == x183002.toList))) = true then (some true) else (spec_has.l0 k x7 x8 (wrap64 (x9 + 1)) x183000 x183001 x183002)) else (none)) else (none)) else (some false)
def spec_has.f (k : Nat) (l0 : List (S49)) (a1_0 : ByteArray) (a1_1 : Int) (a1_2 : ByteArray) : Option (Bool) := spec_has.l0 k l0 (l0.length : Int) 0 a1_0 a1_1 a1_2
theorem spec_has.mono_l : ∀ k, (∀ y0 y1 y2 y3 y4 y5, LeO (spec_has.l0 k y0 y1 y2 y3 y4 y5) (spec_has.l0 (k + 1) y0 y1 y2 y3 y4 y5))
 | 0 => fun _ _ _ _ _ _ r h => by simp [spec_has.l0] at h
 | k + 1 => by
  have ih0 := spec_has.mono_l k
  ·intro y0 y1 y2 y3 y4 y5
   unfold spec_has.l0
   repeat' first
   | (with_reducible exact ih0 _ _ _ _ _ _)
   | (with_reducible exact LeO.refl _)
   | (with_reducible exact LeO.none _)
   | (with_reducible refine LeO.ite ?_ ?_)
   | (with_reducible refine LeO.bind ?_ (fun _ => ?_))
   | exact ih0 _ _ _ _ _ _
   | exact LeO.none _
   | refine LeO.ite ?_ ?_
   | refine LeO.bind ?_ (fun _ => ?_)
theorem spec_has.mono : ∀ a0 a1 a2 a3 k, LeO (spec_has.f k a0 a1 a2 a3) (spec_has.f (k + 1) a0 a1 a2 a3) := by
 intro a0 a1 a2 a3 k
 have ih0 := spec_has.mono_l k
 unfold spec_has.f
 repeat' first
   | (with_reducible exact ih0 _ _ _ _ _ _)
   | (with_reducible exact LeO.refl _)
   | (with_reducible exact LeO.none _)
   | (with_reducible refine LeO.ite ?_ ?_)
   | (with_reducible refine LeO.bind ?_ (fun _ => ?_))
   | exact ih0 _ _ _ _ _ _
   | exact LeO.none _
   | refine LeO.ite ?_ ?_
   | refine LeO.bind ?_ (fun _ => ?_)
set_option maxHeartbeats 8000000 in
set_option maxRecDepth 100000 in
theorem spec_has.calls (k : Nat) (A0 : Option Addr) (c0 : Nat) (l0 : List (S49)) (a1_0 : ByteArray) (a1_1 : Int) (a1_2 : ByteArray) (r : Bool) (w : World) (hr0 : Kd.C k49 w A0 l0.length l0) (hc0 : l0.length ≤ c0) (h : spec_has.f k l0 a1_0 a1_1 a1_2 = some r) :
  Calls Tryz.prog 21 #[.slice A0 l0.length c0, .agg #[.string a1_0, .int .u32 a1_1, .string a1_2]] w fun e w' => e = .returned (.bool r) ∧ Below w.heap.size w w' := by
 have hu49 := Tryz.underlying49
 have HR0 := Aside0.mk hr0
 have HC0 := Aside0.mk hc0
 clear hr0 hc0
 have HB := Aside0.mk (Below.refl w.heap.size w)
 have H : (spec_has.l0 k l0 (l0.length : Int) 0 a1_0 a1_1 a1_2) = some r := h
 clear h
 have H' := Aside0.mk H
 clear H
 go_enter Tryz.func21, Tryz.ntmps21
 go_wp2_with (first | ((with_reducible refine gate_dst (N := 3) rfl ?_); refine box_event ?hg (N := 3) ?hd (cs := #[.string a1_0, .int .u32 a1_1, .string a1_2]) (t := 49) ?hr ?_; (case hd => rfl); (case hg => rfl); (case hr => first | (go_simp; done) | (go_simp; rfl)); intro gb182 hg w3 hbox hb; have n0_ := Aside0.mk (below_step (by repeat (first | (with_reducible first | exact HB.out | apply below_alloc | apply pw_below_drewN | apply below_drew1) | exact HB.out)) hb); have n1_ := Aside0.mk (hbox); have n2_ := Aside0.mk ((by rw [hg]; exact (below_size (by repeat (first | (with_reducible first | exact HB.out | apply below_alloc | apply pw_below_drewN | apply below_drew1) | exact HB.out))) : w.heap.size ≤ gb182)); have n3_ := Aside0.mk ((by rw [hg]; exact (below_size (by repeat (first | (with_reducible first | exact HB.out | apply below_alloc | apply pw_below_drewN | apply below_drew1) | exact HB.out))) : w.heap.size ≤ gb182)); clear HB; have HB := n0_; have BK182 := n1_; have GW182 := n2_; have GE182 := n3_; clear n0_ n1_ n2_ n3_; clear hb hbox hg))
 go_loopg [9] k (fun kq v9 w' => ∃ (x9_1 : Int), v9 = .int .i64 x9_1 ∧ Aside0 (spec_has.l0 kq l0 (l0.length : Int) x9_1 a1_0 a1_1 a1_2 = some r) ∧ Aside0 (kq ≤ k) ∧ Aside0 (w'.heap[gb182]? = some (.cells #[.string a1_0, .int .u32 a1_1, .string a1_2] 49 (0, 0))) ∧ Aside0 (Below w.heap.size w w'))
 case atStart => exact ⟨(0), (by first | rfl | (simp; done) | (simp [*]; done)), H', ⟨Nat.le_refl _⟩, ⟨by (with_reducible repeat (first | refine blk_drewN ?_ _ | refine blk_drew ?_ | refine blk_alloc ?_ _)); exact BK182.out⟩, ⟨by repeat (first | (with_reducible first | exact HB.out | apply below_alloc | apply pw_below_drewN | apply below_drew1 | refine below_set ?_ GE182.out) | exact HB.out)⟩⟩
 case round =>
  clear H'
  try clear c2
  try clear p2
  obtain ⟨x9_1, rfl, HA, HK1, BK182, HB⟩ := hrel
  cases gk with
  | zero => exact absurd HA.out (by simp [spec_has.l0])
  | succ k1 =>
   have H := HA.out
   clear HA
   simp only [spec_has.l0] at H
   by_cases c4 : x9_1 < (l0.length : Int)
   ·rw [if_pos c4] at H
    have c4b0 : decide (x9_1 < (l0.length : Int)) = true := decide_eq_true c4
    clear c4
    by_cases c5 : 0 ≤ x9_1
    ·rw [if_pos c5] at H
     have c5b0 : decide (0 ≤ x9_1) = true := decide_eq_true c5
     clear c5
     by_cases c6 : x9_1 < (l0.length : Int)
     ·rw [if_pos c6] at H
      have c6b0 : decide (x9_1 < (l0.length : Int)) = true := decide_eq_true c6
      clear c6
      by_cases c7 : ((((rd_T49 l0 x9_1).f0).toList) == a1_0.toList && (((rd_T49 l0 x9_1).f1) == a1_1 && ((((rd_T49 l0 x9_1).f2).toList) == a1_2.toList))) = true
      ·rw [if_pos c7] at H
       have c7b0 : ((((rd_T49 l0 x9_1).f0).toList) == a1_0.toList && (((rd_T49 l0 x9_1).f1) == a1_1 && ((((rd_T49 l0 x9_1).f2).toList) == a1_2.toList))) = true := c7
       (try (have c7b1 : decide ((((rd_T49 l0 x9_1).f0).toList) = a1_0.toList && (((rd_T49 l0 x9_1).f1) == a1_1 && ((((rd_T49 l0 x9_1).f2).toList) == a1_2.toList))) = true := by simpa using c7))
       (try (have c7b2 : ((((rd_T49 l0 x9_1).f0).toList) == a1_0.toList && (((rd_T49 l0 x9_1).f1) == a1_1 && ((((rd_T49 l0 x9_1).f2).toList) == a1_2.toList))) = true := by simpa using c7))
       clear c7
       obtain rfl := Option.some.inj H
       have p183 : 0 ≤ (x9_1 : Int) := of_decide_eq_true (by first | (with_reducible assumption) | assumption)
       have q183 : x9_1 < (l0.length : Int) := of_decide_eq_true (by first | (with_reducible assumption) | assumption)
       obtain ⟨ad183, e183, hx183_0, hx183_1, hx183_2⟩ := at_T49 HR0.out x9_1 p183 q183
       cases e183
       replace hx183_0 := (HB.out.cell (World.block_lt_of_cell? w _ hx183_0)).trans hx183_0
       replace hx183_1 := (HB.out.cell (World.block_lt_of_cell? w _ hx183_1)).trans hx183_1
       replace hx183_2 := (HB.out.cell (World.block_lt_of_cell? w _ hx183_2)).trans hx183_2
       replace p183 := eq_true p183
       replace q183 := eq_true q183
       go_wp2_with (first | ((with_reducible refine gate_dst (N := 6) rfl ?_); refine box_event ?hg (N := 6) ?hd (cs := #[.string (⟨#[]⟩ : ByteArray), .int .u32 0, .string (⟨#[]⟩ : ByteArray)]) (t := 49) ?hr ?_; (case hd => rfl); (case hg => rfl); (case hr => first | (go_simp; done) | (go_simp; rfl)); intro gb184 hg w8 hbox hb; have n0_ := Aside0.mk (blk_below (g := gb182) (o := .cells #[.string a1_0, .int .u32 a1_1, .string a1_2] 49 (0, 0)) (by (with_reducible repeat (first | refine blk_drewN ?_ _ | refine blk_drew ?_ | refine blk_alloc ?_ _)); exact BK182.out) hb); have n1_ := Aside0.mk (below_step (by repeat (first | (with_reducible first | exact HB.out | apply below_alloc | apply pw_below_drewN | apply below_drew1 | refine below_set ?_ GE182.out) | exact HB.out)) hb); have n2_ := Aside0.mk (hbox); have n3_ := Aside0.mk ((by rw [hg]; exact (below_size (by repeat (first | (with_reducible first | exact HB.out | apply below_alloc | apply pw_below_drewN | apply below_drew1 | refine below_set ?_ GE182.out) | exact HB.out))) : w.heap.size ≤ gb184)); have n4_ := Aside0.mk ((by rw [hg]; exact (below_size (by repeat (first | (with_reducible first | exact HB.out | apply below_alloc | apply pw_below_drewN | apply below_drew1 | refine below_set ?_ GE182.out) | exact HB.out))) : w.heap.size ≤ gb184)); have n5_ := Aside0.mk ((by rw [hg]; exact Nat.ne_of_lt (blk_lt (g := gb182) (o := .cells #[.string a1_0, .int .u32 a1_1, .string a1_2] 49 (0, 0)) (by (with_reducible repeat (first | refine blk_drewN ?_ _ | refine blk_drew ?_ | refine blk_alloc ?_ _)); exact BK182.out)) : gb182 ≠ gb184)); have n6_ := Aside0.mk ((by rw [hg]; exact Nat.ne_of_gt (blk_lt (g := gb182) (o := .cells #[.string a1_0, .int .u32 a1_1, .string a1_2] 49 (0, 0)) (by (with_reducible repeat (first | refine blk_drewN ?_ _ | refine blk_drew ?_ | refine blk_alloc ?_ _)); exact BK182.out)) : gb184 ≠ gb182)); clear BK182; clear HB; have BK182 := n0_; have HB := n1_; have BK184 := n2_; have GW184 := n3_; have GE184 := n4_; have NB182_184 := n5_; have NB184_182 := n6_; clear n0_ n1_ n2_ n3_ n4_ n5_ n6_; clear hb hbox hg; have hnb9 := NB184_182.out; have hnc9 := NB182_184.out; have hcz10_0 : w8.cell? ⟨gb184, 0, none⟩ = some (.string (⟨#[]⟩ : ByteArray)) := (blk_cell BK184.out 0).trans rfl; have hcz10_1 : w8.cell? ⟨gb184, 1, none⟩ = some (.int .u32 0) := (blk_cell BK184.out 1).trans rfl; have hcz10_2 : w8.cell? ⟨gb184, 2, none⟩ = some (.string (⟨#[]⟩ : ByteArray)) := (blk_cell BK184.out 2).trans rfl; have hfz10_0 := blk_frozen BK184.out 0; have hfz10_1 := blk_frozen BK184.out 1; have hfz10_2 := blk_frozen BK184.out 2; have hcz11_0 : w8.cell? ⟨gb182, 0, none⟩ = some (.string a1_0) := (blk_cell BK182.out 0).trans rfl; have hcz11_1 : w8.cell? ⟨gb182, 1, none⟩ = some (.int .u32 a1_1) := (blk_cell BK182.out 1).trans rfl; have hcz11_2 : w8.cell? ⟨gb182, 2, none⟩ = some (.string a1_2) := (blk_cell BK182.out 2).trans rfl; have hfz11_0 := blk_frozen BK182.out 0; have hfz11_1 := blk_frozen BK182.out 1; have hfz11_2 := blk_frozen BK182.out 2))
       go_ret
       exact ⟨by first | rfl | (simp [errW_none, errW_some] <;> rfl) | (simp [*, errW_none, errW_some] <;> rfl), by repeat (first | (with_reducible first | exact HB.out | apply below_alloc | apply pw_below_drewN | apply below_drew1 | refine below_set ?_ GE182.out | refine below_set ?_ GE184.out) | exact HB.out)⟩
      ·rw [if_neg c7] at H
       have c7b0 : ((((rd_T49 l0 x9_1).f0).toList) == a1_0.toList && (((rd_T49 l0 x9_1).f1) == a1_1 && ((((rd_T49 l0 x9_1).f2).toList) == a1_2.toList))) = false := by simpa using c7
       (try (have c7b1 : decide ((((rd_T49 l0 x9_1).f0).toList) = a1_0.toList && (((rd_T49 l0 x9_1).f1) == a1_1 && ((((rd_T49 l0 x9_1).f2).toList) == a1_2.toList))) = false := by simpa using c7))
       (try (have c7b2 : ((((rd_T49 l0 x9_1).f0).toList) == a1_0.toList && (((rd_T49 l0 x9_1).f1) == a1_1 && ((((rd_T49 l0 x9_1).f2).toList) == a1_2.toList))) = false := by simpa using c7))
       (try (have c7b3 : ¬ ((((rd_T49 l0 x9_1).f0).toList) = a1_0.toList && (((rd_T49 l0 x9_1).f1) == a1_1 && ((((rd_T49 l0 x9_1).f2).toList) == a1_2.toList))) := by simpa using c7))
       clear c7
       have H' := Aside0.mk H
       clear H
       have p183 : 0 ≤ (x9_1 : Int) := of_decide_eq_true (by first | (with_reducible assumption) | assumption)
       have q183 : x9_1 < (l0.length : Int) := of_decide_eq_true (by first | (with_reducible assumption) | assumption)
       obtain ⟨ad183, e183, hx183_0, hx183_1, hx183_2⟩ := at_T49 HR0.out x9_1 p183 q183
       cases e183
       replace hx183_0 := (HB.out.cell (World.block_lt_of_cell? w _ hx183_0)).trans hx183_0
       replace hx183_1 := (HB.out.cell (World.block_lt_of_cell? w _ hx183_1)).trans hx183_1
       replace hx183_2 := (HB.out.cell (World.block_lt_of_cell? w _ hx183_2)).trans hx183_2
       replace p183 := eq_true p183
       replace q183 := eq_true q183
       go_wp2_with (first | ((with_reducible refine gate_dst (N := 6) rfl ?_); refine box_event ?hg (N := 6) ?hd (cs := #[.string (⟨#[]⟩ : ByteArray), .int .u32 0, .string (⟨#[]⟩ : ByteArray)]) (t := 49) ?hr ?_; (case hd => rfl); (case hg => rfl); (case hr => first | (go_simp; done) | (go_simp; rfl)); intro gb184 hg w12 hbox hb; have n0_ := Aside0.mk (blk_below (g := gb182) (o := .cells #[.string a1_0, .int .u32 a1_1, .string a1_2] 49 (0, 0)) (by (with_reducible repeat (first | refine blk_drewN ?_ _ | refine blk_drew ?_ | refine blk_alloc ?_ _)); exact BK182.out) hb); have n1_ := Aside0.mk (below_step (by repeat (first | (with_reducible first | exact HB.out | apply below_alloc | apply pw_below_drewN | apply below_drew1 | refine below_set ?_ GE182.out) | exact HB.out)) hb); have n2_ := Aside0.mk (hbox); have n3_ := Aside0.mk ((by rw [hg]; exact (below_size (by repeat (first | (with_reducible first | exact HB.out | apply below_alloc | apply pw_below_drewN | apply below_drew1 | refine below_set ?_ GE182.out) | exact HB.out))) : w.heap.size ≤ gb184)); have n4_ := Aside0.mk ((by rw [hg]; exact (below_size (by repeat (first | (with_reducible first | exact HB.out | apply below_alloc | apply pw_below_drewN | apply below_drew1 | refine below_set ?_ GE182.out) | exact HB.out))) : w.heap.size ≤ gb184)); have n5_ := Aside0.mk ((by rw [hg]; exact Nat.ne_of_lt (blk_lt (g := gb182) (o := .cells #[.string a1_0, .int .u32 a1_1, .string a1_2] 49 (0, 0)) (by (with_reducible repeat (first | refine blk_drewN ?_ _ | refine blk_drew ?_ | refine blk_alloc ?_ _)); exact BK182.out)) : gb182 ≠ gb184)); have n6_ := Aside0.mk ((by rw [hg]; exact Nat.ne_of_gt (blk_lt (g := gb182) (o := .cells #[.string a1_0, .int .u32 a1_1, .string a1_2] 49 (0, 0)) (by (with_reducible repeat (first | refine blk_drewN ?_ _ | refine blk_drew ?_ | refine blk_alloc ?_ _)); exact BK182.out)) : gb184 ≠ gb182)); clear BK182; clear HB; have BK182 := n0_; have HB := n1_; have BK184 := n2_; have GW184 := n3_; have GE184 := n4_; have NB182_184 := n5_; have NB184_182 := n6_; clear n0_ n1_ n2_ n3_ n4_ n5_ n6_; clear hb hbox hg; have hnb13 := NB184_182.out; have hnc13 := NB182_184.out; have hcz14_0 : w12.cell? ⟨gb184, 0, none⟩ = some (.string (⟨#[]⟩ : ByteArray)) := (blk_cell BK184.out 0).trans rfl; have hcz14_1 : w12.cell? ⟨gb184, 1, none⟩ = some (.int .u32 0) := (blk_cell BK184.out 1).trans rfl; have hcz14_2 : w12.cell? ⟨gb184, 2, none⟩ = some (.string (⟨#[]⟩ : ByteArray)) := (blk_cell BK184.out 2).trans rfl; have hfz14_0 := blk_frozen BK184.out 0; have hfz14_1 := blk_frozen BK184.out 1; have hfz14_2 := blk_frozen BK184.out 2; have hcz15_0 : w12.cell? ⟨gb182, 0, none⟩ = some (.string a1_0) := (blk_cell BK182.out 0).trans rfl; have hcz15_1 : w12.cell? ⟨gb182, 1, none⟩ = some (.int .u32 a1_1) := (blk_cell BK182.out 1).trans rfl; have hcz15_2 : w12.cell? ⟨gb182, 2, none⟩ = some (.string a1_2) := (blk_cell BK182.out 2).trans rfl; have hfz15_0 := blk_frozen BK182.out 0; have hfz15_1 := blk_frozen BK182.out 1; have hfz15_2 := blk_frozen BK182.out 2))
       go_roundg k1
       case measure => have := HK1.out; omega
       case rel => exact ⟨(wrap64 (x9_1 + 1)), (by first | rfl | (simp; done) | (simp [*]; done)), H', ⟨by have := HK1.out; omega⟩, ⟨by (with_reducible repeat (first | refine blk_drewN ?_ _ | refine blk_drew ?_ | refine blk_alloc ?_ _)); refine blk_far ?_ NB182_184.out _; (with_reducible repeat (first | refine blk_drewN ?_ _ | refine blk_drew ?_ | refine blk_alloc ?_ _)); refine blk_far ?_ NB182_184.out _; (with_reducible repeat (first | refine blk_drewN ?_ _ | refine blk_drew ?_ | refine blk_alloc ?_ _)); refine blk_far ?_ NB182_184.out _; (with_reducible repeat (first | refine blk_drewN ?_ _ | refine blk_drew ?_ | refine blk_alloc ?_ _)); exact BK182.out⟩, ⟨by repeat (first | (with_reducible first | exact HB.out | apply below_alloc | apply pw_below_drewN | apply below_drew1 | refine below_set ?_ GE182.out | refine below_set ?_ GE184.out) | exact HB.out)⟩⟩
     ·rw [if_neg c6] at H
      exact absurd H (by simp)
    ·rw [if_neg c5] at H
     exact absurd H (by simp)
   ·rw [if_neg c4] at H
    have c4b0 : decide (x9_1 < (l0.length : Int)) = false := decide_eq_false c4
    clear c4
    obtain rfl := Option.some.inj H
    go_wp2
    go_ret
    exact ⟨by first | rfl | (simp [errW_none, errW_some] <;> rfl) | (simp [*, errW_none, errW_some] <;> rfl), by repeat (first | (with_reducible first | exact HB.out | apply below_alloc | apply pw_below_drewN | apply below_drew1 | refine below_set ?_ GE182.out) | exact HB.out)⟩
def spec_Accepts.l0 : Nat → ByteArray → ByteArray → List ByteArray → Int → Int → ByteArray → Int → List ByteArray → List ByteArray → Option (Bool)
 | 0, _, _, _, _, _, _, _, _, _ => none
 | k + 1, x1, x2, x10, x11, x12, x186000, x186001, x186002, x186003 => if x12 < x11 then (if 0 ≤ x12 then (if x12 < (x10.length : Int) then (if x12 < (x186003.length : Int) then (if (rdOf ByteArray.empty x10 x12).toList = x1.toList then (if (rdOf ByteArray.empty x186003 x12).toList = x2.toList then (some true) else (spec_Accepts.l0 k x1 x2 x10 x11 (wrap64 (x12 + 1)) x186000 x186001 x186002 x186003)) else (spec_Accepts.l0 k x1 x2 x10 x11 (wrap64 (x12 + 1)) x186000 x186001 x186002 x186003)) else (spec_Accepts.l0 k x1 x2 x10 x11 (wrap64 (x12 + 1)) x186000 x186001 x186002 x186003)) else (none)) else (none)) else (some false)
def spec_Accepts.f (k : Nat) (a0_0 : ByteArray) (a0_1 : Int) (l0_2 : List ByteArray) (l0_3 : List ByteArray) (a1 : ByteArray) (a2 : ByteArray) : Option (Bool) := spec_Accepts.l0 k a1 a2 l0_2 (l0_2.length : Int) 0 a0_0 a0_1 l0_2 l0_3
theorem spec_Accepts.mono_l : ∀ k, (∀ y0 y1 y2 y3 y4 y5 y6 y7 y8, LeO (spec_Accepts.l0 k y0 y1 y2 y3 y4 y5 y6 y7 y8) (spec_Accepts.l0 (k + 1) y0 y1 y2 y3 y4 y5 y6 y7 y8))
 | 0 => fun _ _ _ _ _ _ _ _ _ r h => by simp [spec_Accepts.l0] at h
 | k + 1 => by
  have ih0 := spec_Accepts.mono_l k
  ·intro y0 y1 y2 y3 y4 y5 y6 y7 y8
   unfold spec_Accepts.l0
   repeat' first
   | (with_reducible exact ih0 _ _ _ _ _ _ _ _ _)
   | (with_reducible exact LeO.refl _)
   | (with_reducible exact LeO.none _)
   | (with_reducible refine LeO.ite ?_ ?_)
   | (with_reducible refine LeO.bind ?_ (fun _ => ?_))
   | exact ih0 _ _ _ _ _ _ _ _ _
   | exact LeO.none _
   | refine LeO.ite ?_ ?_
   | refine LeO.bind ?_ (fun _ => ?_)
theorem spec_Accepts.mono : ∀ a0 a1 a2 a3 a4 a5 k, LeO (spec_Accepts.f k a0 a1 a2 a3 a4 a5) (spec_Accepts.f (k + 1) a0 a1 a2 a3 a4 a5) := by
 intro a0 a1 a2 a3 a4 a5 k
 have ih0 := spec_Accepts.mono_l k
 unfold spec_Accepts.f
 repeat' first
   | (with_reducible exact ih0 _ _ _ _ _ _ _ _ _)
   | (with_reducible exact LeO.refl _)
   | (with_reducible exact LeO.none _)
   | (with_reducible refine LeO.ite ?_ ?_)
   | (with_reducible refine LeO.bind ?_ (fun _ => ?_))
   | exact ih0 _ _ _ _ _ _ _ _ _
   | exact LeO.none _
   | refine LeO.ite ?_ ?_
   | refine LeO.bind ?_ (fun _ => ?_)
set_option maxHeartbeats 8000000 in
set_option maxRecDepth 100000 in
theorem spec_Accepts.calls (k : Nat) (a0_0 : ByteArray) (a0_1 : Int) (A0_2 : Option Addr) (c0_2 : Nat) (l0_2 : List ByteArray) (A0_3 : Option Addr) (c0_3 : Nat) (l0_3 : List ByteArray) (a1 : ByteArray) (a2 : ByteArray) (r : Bool) (w : World) (hr0_2 : Kd.C Kd.string w A0_2 l0_2.length l0_2) (hc0_2 : l0_2.length ≤ c0_2) (hr0_3 : Kd.C Kd.string w A0_3 l0_3.length l0_3) (hc0_3 : l0_3.length ≤ c0_3) (h : spec_Accepts.f k a0_0 a0_1 l0_2 l0_3 a1 a2 = some r) :
  Calls Tryz.prog 22 #[.agg #[.string a0_0, .int .u32 a0_1, .slice A0_2 l0_2.length c0_2, .slice A0_3 l0_3.length c0_3], .string a1, .string a2] w fun e w' => e = .returned (.bool r) ∧ Below w.heap.size w w' := by
 have hu66 := Tryz.underlying66
 have HR0_2 := Aside0.mk hr0_2
 have HC0_2 := Aside0.mk hc0_2
 clear hr0_2 hc0_2
 have HR0_3 := Aside0.mk hr0_3
 have HC0_3 := Aside0.mk hc0_3
 clear hr0_3 hc0_3
 have HB := Aside0.mk (Below.refl w.heap.size w)
 have H : (spec_Accepts.l0 k a1 a2 l0_2 (l0_2.length : Int) 0 a0_0 a0_1 l0_2 l0_3) = some r := h
 clear h
 have H' := Aside0.mk H
 clear H
 go_enter Tryz.func22, Tryz.ntmps22
 go_wp2_with (first | ((with_reducible refine gate_dst (N := 3) rfl ?_); refine box_event ?hg (N := 3) ?hd (cs := #[.string a0_0, .int .u32 a0_1, .slice A0_2 l0_2.length c0_2, .slice A0_3 l0_3.length c0_3]) (t := 66) ?hr ?_; (case hd => rfl); (case hg => rfl); (case hr => first | (go_simp; done) | (go_simp; rfl)); intro gb185 hg w4 hbox hb; have n0_ := Aside0.mk (below_step (by repeat (first | (with_reducible first | exact HB.out | apply below_alloc | apply pw_below_drewN | apply below_drew1) | exact HB.out)) hb); have n1_ := Aside0.mk (hbox); have n2_ := Aside0.mk ((by rw [hg]; exact (below_size (by repeat (first | (with_reducible first | exact HB.out | apply below_alloc | apply pw_below_drewN | apply below_drew1) | exact HB.out))) : w.heap.size ≤ gb185)); have n3_ := Aside0.mk ((by rw [hg]; exact (below_size (by repeat (first | (with_reducible first | exact HB.out | apply below_alloc | apply pw_below_drewN | apply below_drew1) | exact HB.out))) : w.heap.size ≤ gb185)); clear HB; have HB := n0_; have BK185 := n1_; have GW185 := n2_; have GE185 := n3_; clear n0_ n1_ n2_ n3_; clear hb hbox hg; have hcz5_0 : w4.cell? ⟨gb185, 0, none⟩ = some (.string a0_0) := (blk_cell BK185.out 0).trans rfl; have hcz5_1 : w4.cell? ⟨gb185, 1, none⟩ = some (.int .u32 a0_1) := (blk_cell BK185.out 1).trans rfl; have hcz5_2 : w4.cell? ⟨gb185, 2, none⟩ = some (.slice A0_2 l0_2.length c0_2) := (blk_cell BK185.out 2).trans rfl; have hcz5_3 : w4.cell? ⟨gb185, 3, none⟩ = some (.slice A0_3 l0_3.length c0_3) := (blk_cell BK185.out 3).trans rfl; have hfz5_0 := blk_frozen BK185.out 0; have hfz5_1 := blk_frozen BK185.out 1; have hfz5_2 := blk_frozen BK185.out 2; have hfz5_3 := blk_frozen BK185.out 3))
 go_loopg [12] k (fun kq v12 w' => ∃ (x12_1 : Int), v12 = .int .i64 x12_1 ∧ Aside0 (spec_Accepts.l0 kq a1 a2 l0_2 (l0_2.length : Int) x12_1 a0_0 a0_1 l0_2 l0_3 = some r) ∧ Aside0 (kq ≤ k) ∧ Aside0 (w'.heap[gb185]? = some (.cells #[.string a0_0, .int .u32 a0_1, (.slice A0_2 l0_2.length c0_2), (.slice A0_3 l0_3.length c0_3)] 66 (0, 0))) ∧ Aside0 (Below w.heap.size w w'))
 case atStart => exact ⟨(0), (by first | rfl | (simp; done) | (simp [*]; done)), H', ⟨Nat.le_refl _⟩, ⟨by (with_reducible repeat (first | refine blk_drewN ?_ _ | refine blk_drew ?_ | refine blk_alloc ?_ _)); exact BK185.out⟩, ⟨by repeat (first | (with_reducible first | exact HB.out | apply below_alloc | apply pw_below_drewN | apply below_drew1 | refine below_set ?_ GE185.out) | exact HB.out)⟩⟩
 case round =>
  clear H'
  try clear c2
  try clear p2
  try clear hcz5_0
  try clear hcz5_1
  try clear hcz5_2
  try clear hcz5_3
  try clear hfz5_0
  try clear hfz5_1
  try clear hfz5_2
  try clear hfz5_3
  obtain ⟨x12_1, rfl, HA, HK1, BK185, HB⟩ := hrel
  cases gk with
  | zero => exact absurd HA.out (by simp [spec_Accepts.l0])
  | succ k1 =>
   have H := HA.out
   clear HA
   simp only [spec_Accepts.l0] at H
   by_cases c6 : x12_1 < (l0_2.length : Int)
   ·rw [if_pos c6] at H
    have c6b0 : decide (x12_1 < (l0_2.length : Int)) = true := decide_eq_true c6
    clear c6
    by_cases c7 : 0 ≤ x12_1
    ·rw [if_pos c7] at H
     have c7b0 : decide (0 ≤ x12_1) = true := decide_eq_true c7
     clear c7
     by_cases c8 : x12_1 < (l0_2.length : Int)
     ·rw [if_pos c8] at H
      have c8b0 : decide (x12_1 < (l0_2.length : Int)) = true := decide_eq_true c8
      clear c8
      by_cases c9 : x12_1 < (l0_3.length : Int)
      ·rw [if_pos c9] at H
       have c9b0 : decide (x12_1 < (l0_3.length : Int)) = true := decide_eq_true c9
       clear c9
       by_cases c10 : (rdOf ByteArray.empty l0_2 x12_1).toList = a1.toList
       ·rw [if_pos c10] at H
        have c10b0 : ((rdOf ByteArray.empty l0_2 x12_1).toList == a1.toList) = true := beq_iff_eq.mpr c10
        have c10b1 : ((rdOf ByteArray.empty l0_2 x12_1).toList != a1.toList) = false := bne_eq_false_iff_eq.mpr c10
        clear c10
        by_cases c11 : (rdOf ByteArray.empty l0_3 x12_1).toList = a2.toList
        ·rw [if_pos c11] at H
         have c11b0 : ((rdOf ByteArray.empty l0_3 x12_1).toList == a2.toList) = true := beq_iff_eq.mpr c11
         have c11b1 : ((rdOf ByteArray.empty l0_3 x12_1).toList != a2.toList) = false := bne_eq_false_iff_eq.mpr c11
         clear c11
         obtain rfl := Option.some.inj H
         have p186 : 0 ≤ (x12_1 : Int) := of_decide_eq_true (by first | (with_reducible assumption) | assumption)
         have q186 : x12_1 < (l0_2.length : Int) := of_decide_eq_true (by first | (with_reducible assumption) | assumption)
         obtain ⟨ad186, e186, hx186_0⟩ := Kd.at_string HR0_2.out x12_1 p186 q186
         cases e186
         replace hx186_0 := (HB.out.cell (World.block_lt_of_cell? w _ hx186_0)).trans hx186_0
         replace p186 := eq_true p186
         replace q186 := eq_true q186
         have hcz12_0 : wr.cell? ⟨gb185, 0, none⟩ = some (.string a0_0) := (blk_cell BK185.out 0).trans rfl
         have hcz12_1 : wr.cell? ⟨gb185, 1, none⟩ = some (.int .u32 a0_1) := (blk_cell BK185.out 1).trans rfl
         have hcz12_2 : wr.cell? ⟨gb185, 2, none⟩ = some (.slice (some ad186) l0_2.length c0_2) := (blk_cell BK185.out 2).trans rfl
         have hcz12_3 : wr.cell? ⟨gb185, 3, none⟩ = some (.slice A0_3 l0_3.length c0_3) := (blk_cell BK185.out 3).trans rfl
         have hfz12_0 := blk_frozen BK185.out 0
         have hfz12_1 := blk_frozen BK185.out 1
         have hfz12_2 := blk_frozen BK185.out 2
         have hfz12_3 := blk_frozen BK185.out 3
         have p187 : 0 ≤ (x12_1 : Int) := of_decide_eq_true (by first | (with_reducible assumption) | assumption)
         have q187 : x12_1 < (l0_3.length : Int) := of_decide_eq_true (by first | (with_reducible assumption) | assumption)
         obtain ⟨ad187, e187, hx187_0⟩ := Kd.at_string HR0_3.out x12_1 p187 q187
         cases e187
         replace hx187_0 := (HB.out.cell (World.block_lt_of_cell? w _ hx187_0)).trans hx187_0
         replace p187 := eq_true p187
         replace q187 := eq_true q187
         go_wp2
         go_ret
         exact ⟨by first | rfl | (simp [errW_none, errW_some] <;> rfl) | (simp [*, errW_none, errW_some] <;> rfl), by repeat (first | (with_reducible first | exact HB.out | apply below_alloc | apply pw_below_drewN | apply below_drew1 | refine below_set ?_ GE185.out) | exact HB.out)⟩
        ·rw [if_neg c11] at H
         have c11b0 : ((rdOf ByteArray.empty l0_3 x12_1).toList == a2.toList) = false := beq_eq_false_iff_ne.mpr c11
         have c11b1 : ((rdOf ByteArray.empty l0_3 x12_1).toList != a2.toList) = true := bne_iff_ne.mpr c11
         have H' := Aside0.mk H
         clear H
         have p186 : 0 ≤ (x12_1 : Int) := of_decide_eq_true (by first | (with_reducible assumption) | assumption)
         have q186 : x12_1 < (l0_2.length : Int) := of_decide_eq_true (by first | (with_reducible assumption) | assumption)
         obtain ⟨ad186, e186, hx186_0⟩ := Kd.at_string HR0_2.out x12_1 p186 q186
         cases e186
         replace hx186_0 := (HB.out.cell (World.block_lt_of_cell? w _ hx186_0)).trans hx186_0
         replace p186 := eq_true p186
         replace q186 := eq_true q186
         have hcz13_0 : wr.cell? ⟨gb185, 0, none⟩ = some (.string a0_0) := (blk_cell BK185.out 0).trans rfl
         have hcz13_1 : wr.cell? ⟨gb185, 1, none⟩ = some (.int .u32 a0_1) := (blk_cell BK185.out 1).trans rfl
         have hcz13_2 : wr.cell? ⟨gb185, 2, none⟩ = some (.slice (some ad186) l0_2.length c0_2) := (blk_cell BK185.out 2).trans rfl
         have hcz13_3 : wr.cell? ⟨gb185, 3, none⟩ = some (.slice A0_3 l0_3.length c0_3) := (blk_cell BK185.out 3).trans rfl
         have hfz13_0 := blk_frozen BK185.out 0
         have hfz13_1 := blk_frozen BK185.out 1
         have hfz13_2 := blk_frozen BK185.out 2
         have hfz13_3 := blk_frozen BK185.out 3
         have p187 : 0 ≤ (x12_1 : Int) := of_decide_eq_true (by first | (with_reducible assumption) | assumption)
         have q187 : x12_1 < (l0_3.length : Int) := of_decide_eq_true (by first | (with_reducible assumption) | assumption)
         obtain ⟨ad187, e187, hx187_0⟩ := Kd.at_string HR0_3.out x12_1 p187 q187
         cases e187
         replace hx187_0 := (HB.out.cell (World.block_lt_of_cell? w _ hx187_0)).trans hx187_0
         replace p187 := eq_true p187
         replace q187 := eq_true q187
         go_wp2
         go_roundg k1
         case measure => have := HK1.out; omega
         case rel => exact ⟨(wrap64 (x12_1 + 1)), (by first | rfl | (simp; done) | (simp [*]; done)), H', ⟨by have := HK1.out; omega⟩, ⟨by (with_reducible repeat (first | refine blk_drewN ?_ _ | refine blk_drew ?_ | refine blk_alloc ?_ _)); exact BK185.out⟩, ⟨by repeat (first | (with_reducible first | exact HB.out | apply below_alloc | apply pw_below_drewN | apply below_drew1 | refine below_set ?_ GE185.out) | exact HB.out)⟩⟩
       ·rw [if_neg c10] at H
        have c10b0 : ((rdOf ByteArray.empty l0_2 x12_1).toList == a1.toList) = false := beq_eq_false_iff_ne.mpr c10
        have c10b1 : ((rdOf ByteArray.empty l0_2 x12_1).toList != a1.toList) = true := bne_iff_ne.mpr c10
        have H' := Aside0.mk H
        clear H
        have p186 : 0 ≤ (x12_1 : Int) := of_decide_eq_true (by first | (with_reducible assumption) | assumption)
        have q186 : x12_1 < (l0_2.length : Int) := of_decide_eq_true (by first | (with_reducible assumption) | assumption)
        obtain ⟨ad186, e186, hx186_0⟩ := Kd.at_string HR0_2.out x12_1 p186 q186
        cases e186
        replace hx186_0 := (HB.out.cell (World.block_lt_of_cell? w _ hx186_0)).trans hx186_0
        replace p186 := eq_true p186
        replace q186 := eq_true q186
        have hcz14_0 : wr.cell? ⟨gb185, 0, none⟩ = some (.string a0_0) := (blk_cell BK185.out 0).trans rfl
        have hcz14_1 : wr.cell? ⟨gb185, 1, none⟩ = some (.int .u32 a0_1) := (blk_cell BK185.out 1).trans rfl
        have hcz14_2 : wr.cell? ⟨gb185, 2, none⟩ = some (.slice (some ad186) l0_2.length c0_2) := (blk_cell BK185.out 2).trans rfl
        have hcz14_3 : wr.cell? ⟨gb185, 3, none⟩ = some (.slice A0_3 l0_3.length c0_3) := (blk_cell BK185.out 3).trans rfl
        have hfz14_0 := blk_frozen BK185.out 0
        have hfz14_1 := blk_frozen BK185.out 1
        have hfz14_2 := blk_frozen BK185.out 2
        have hfz14_3 := blk_frozen BK185.out 3
        go_wp2
        go_roundg k1
        case measure => have := HK1.out; omega
        case rel => exact ⟨(wrap64 (x12_1 + 1)), (by first | rfl | (simp; done) | (simp [*]; done)), H', ⟨by have := HK1.out; omega⟩, ⟨by (with_reducible repeat (first | refine blk_drewN ?_ _ | refine blk_drew ?_ | refine blk_alloc ?_ _)); exact BK185.out⟩, ⟨by repeat (first | (with_reducible first | exact HB.out | apply below_alloc | apply pw_below_drewN | apply below_drew1 | refine below_set ?_ GE185.out) | exact HB.out)⟩⟩
      ·rw [if_neg c9] at H
       have c9b0 : decide (x12_1 < (l0_3.length : Int)) = false := decide_eq_false c9
       clear c9
       have H' := Aside0.mk H
       clear H
       have p186 : 0 ≤ (x12_1 : Int) := of_decide_eq_true (by first | (with_reducible assumption) | assumption)
       have q186 : x12_1 < (l0_2.length : Int) := of_decide_eq_true (by first | (with_reducible assumption) | assumption)
       obtain ⟨ad186, e186, hx186_0⟩ := Kd.at_string HR0_2.out x12_1 p186 q186
       cases e186
       replace hx186_0 := (HB.out.cell (World.block_lt_of_cell? w _ hx186_0)).trans hx186_0
       replace p186 := eq_true p186
       replace q186 := eq_true q186
       have hcz15_0 : wr.cell? ⟨gb185, 0, none⟩ = some (.string a0_0) := (blk_cell BK185.out 0).trans rfl
       have hcz15_1 : wr.cell? ⟨gb185, 1, none⟩ = some (.int .u32 a0_1) := (blk_cell BK185.out 1).trans rfl
       have hcz15_2 : wr.cell? ⟨gb185, 2, none⟩ = some (.slice (some ad186) l0_2.length c0_2) := (blk_cell BK185.out 2).trans rfl
       have hcz15_3 : wr.cell? ⟨gb185, 3, none⟩ = some (.slice A0_3 l0_3.length c0_3) := (blk_cell BK185.out 3).trans rfl
       have hfz15_0 := blk_frozen BK185.out 0
       have hfz15_1 := blk_frozen BK185.out 1
       have hfz15_2 := blk_frozen BK185.out 2
       have hfz15_3 := blk_frozen BK185.out 3
       go_wp2
       go_roundg k1
       case measure => have := HK1.out; omega
       case rel => exact ⟨(wrap64 (x12_1 + 1)), (by first | rfl | (simp; done) | (simp [*]; done)), H', ⟨by have := HK1.out; omega⟩, ⟨by (with_reducible repeat (first | refine blk_drewN ?_ _ | refine blk_drew ?_ | refine blk_alloc ?_ _)); exact BK185.out⟩, ⟨by repeat (first | (with_reducible first | exact HB.out | apply below_alloc | apply pw_below_drewN | apply below_drew1 | refine below_set ?_ GE185.out) | exact HB.out)⟩⟩
     ·rw [if_neg c8] at H
      exact absurd H (by simp)
    ·rw [if_neg c7] at H
     exact absurd H (by simp)
   ·rw [if_neg c6] at H
    have c6b0 : decide (x12_1 < (l0_2.length : Int)) = false := decide_eq_false c6
    clear c6
    obtain rfl := Option.some.inj H
    go_wp2
    go_ret
    exact ⟨by first | rfl | (simp [errW_none, errW_some] <;> rfl) | (simp [*, errW_none, errW_some] <;> rfl), by repeat (first | (with_reducible first | exact HB.out | apply below_alloc | apply pw_below_drewN | apply below_drew1 | refine below_set ?_ GE185.out) | exact HB.out)⟩
end Go.Proofs.YtkbegfihdpiacaaGreatDoor.PX
namespace Go.Proofs.YtkbegfihdpiacaaGreatDoor.PX
open Go.RowKit Nt Go.Lib Go.Maps Go.Proofs.YtkbegfihdpiacaaGreatDoorW.PrintWords Go.Proofs.YtkbegfihdpiacaaGreatDoorW.PrintLast
def key59 (x : S56) : S66 := ⟨x.f0, x.f1, x.f2, x.f3⟩
def sig37 (x : S122) : S49 := ⟨x.f0, x.f1, x.f2⟩
theorem w1 (i : Nat) (h : i ≤ 9000000000) : wrap64 ((i : Int) + 1) = ((i + 1 : Nat) : Int) := (IntWalk.wrap64_in _ (by omega)).trans (by omega)
theorem tl_eq (a b : ByteArray) : a.toList = b.toList ↔ a = b := by
 rw [ByteArray.toList_eq, ByteArray.toList_eq]
 constructor
 ·intro h; cases a; cases b; simpa using h
 ·rintro rfl; rfl
theorem rd59 (ks : List S56) (i : Nat) (h : i < ks.length) : rd_T66 (ks.map key59) (i : Int) = key59 ks[i] := by
 unfold rd_T66; simp [List.getElem?_eq_getElem h]
def findI (nm : ByteArray) (h : Int) : List S56 → Nat → Int
 | [], _ => -1
 | x :: l, i => if x.f0 = nm ∧ x.f1 = h then (i : Int) else findI nm h l (i + 1)
theorem find_l0 (ks : List S56) (hk : ks.length ≤ 3000000000) (nm : ByteArray) (h : Int) : ∀ (k i : Nat), i ≤ ks.length → ks.length - i < k → spec_Find.l0 k nm h (ks.map key59) (ks.length : Int) (i : Int) = some (findI nm h (ks.drop i) i)
 | 0, i, _, hf => by omega
 | k + 1, i, hi, hf => by
  unfold spec_Find.l0
  by_cases hlt : i < ks.length
  ·rw [if_pos (by omega), if_pos (by omega), if_pos (by rw [List.length_map]; omega), rd59 ks i hlt, w1 i (by omega), find_l0 ks hk nm h k (i + 1) (by omega) (by omega), List.drop_eq_getElem_cons hlt]
   rw [findI]
   show (if ks[i].f0.toList = nm.toList then (if ks[i].f1 = h then some (i : Int) else _) else _) = _
   by_cases h1 : ks[i].f0 = nm
   ·rw [if_pos ((tl_eq _ _).2 h1)]
    by_cases h2 : ks[i].f1 = h
    ·rw [if_pos h2, if_pos ⟨h1, h2⟩]
    ·rw [if_neg h2, if_neg (fun e => h2 e.2)]
   ·rw [if_neg (fun e => h1 ((tl_eq _ _).1 e)), if_neg (fun e => h1 e.1)]
  ·rw [if_neg (by omega), List.drop_eq_nil_of_le (by omega)]
   rfl
theorem find_f (ks : List S56) (hk : ks.length ≤ 3000000000) (nm : ByteArray) (h : Int) (k : Nat) (hf : ks.length < k) : spec_Find.f k (ks.map key59) nm h = some (findI nm h ks 0) := by
 have := find_l0 ks hk nm h k 0 (Nat.zero_le _) (by omega)
 unfold spec_Find.f
 rw [List.length_map]
 exact this
theorem findI_spec (nm : ByteArray) (h : Int) : ∀ (l : List S56) (i : Nat), (findI nm h l i = -1 ∧ findS l nm h = none) ∨ (∃ j x, findI nm h l i = ((i + j : Nat) : Int) ∧ l[j]? = some x ∧ findS l nm h = some x)
 | [], i => .inl ⟨rfl, rfl⟩
 | x :: l, i => by
  unfold findI findS
  by_cases hx : x.f0 = nm ∧ x.f1 = h
  ·rw [if_pos hx]
   exact .inr ⟨0, x, rfl, rfl, List.find?_cons_of_pos (by simp [hx.1, hx.2])⟩
  ·rw [if_neg hx, List.find?_cons_of_neg (by simpa using hx)]
   rcases findI_spec nm h l (i + 1) with ⟨h1, h2⟩ | ⟨j, y, h1, h2, h3⟩
   ·exact .inl ⟨h1, h2⟩
   ·exact .inr ⟨j + 1, y, by rw [h1]; omega, by simpa using h2, h3⟩
theorem rd37 (l : List S49) (i : Nat) (h : i < l.length) : rd_T49 l (i : Int) = l[i] := by
 unfold rd_T49; simp [List.getElem?_eq_getElem h]
def hasB (l : List S49) (a : ByteArray) (b : Int) (c : ByteArray) : Bool := l.any fun x => x.f0.toList == a.toList && (x.f1 == b && (x.f2.toList == c.toList))
theorem hasB_iff (l : List S49) (a : ByteArray) (b : Int) (c : ByteArray) : hasB l a b c = true ↔ (⟨a, b, c⟩ : S49) ∈ l := by
 unfold hasB
 rw [List.any_eq_true]
 constructor
 ·rintro ⟨x, hx, h⟩
  simp only [Bool.and_eq_true, beq_iff_eq, tl_eq] at h
  obtain ⟨rfl, rfl, rfl⟩ := h
  exact hx
 ·intro h
  exact ⟨_, h, by simp⟩
theorem has_l0 (l : List S49) (hk : l.length ≤ 2147483647) (a : ByteArray) (b : Int) (c : ByteArray) : ∀ (k i : Nat), i ≤ l.length → l.length - i < k → spec_has.l0 k l (l.length : Int) (i : Int) a b c = some (hasB (l.drop i) a b c)
 | 0, i, _, hf => by omega
 | k + 1, i, hi, hf => by
  unfold spec_has.l0
  by_cases hlt : i < l.length
  ·rw [if_pos (by omega), if_pos (by omega), if_pos (by omega), rd37 l i hlt, w1 i (by omega), has_l0 l hk a b c k (i + 1) (by omega) (by omega), List.drop_eq_getElem_cons hlt]
   unfold hasB
   rw [List.any_cons]
   cases hb : (l[i].f0.toList == a.toList && (l[i].f1 == b && (l[i].f2.toList == c.toList))) <;> simp
  ·rw [if_neg (by omega), List.drop_eq_nil_of_le (by omega)]
   rfl
theorem has_f (l : List S49) (hk : l.length ≤ 2147483647) (a : ByteArray) (b : Int) (c : ByteArray) (k : Nat) (hf : l.length < k) : spec_has.f k l a b c = some (hasB l a b c) :=
 has_l0 l hk a b c k 0 (Nat.zero_le _) (by omega)
theorem rdB (l : List ByteArray) (i : Nat) (h : i < l.length) : rdOf ByteArray.empty l (i : Int) = l[i] := by
 unfold rdOf; simp [List.getElem?_eq_getElem h]
theorem acc_l0 (ts ss : List ByteArray) (hk : ts.length ≤ 2147483647) (m g : ByteArray) (a0 : ByteArray) (a1 : Int) (a2 : List ByteArray) : ∀ (k i : Nat), i ≤ ts.length → ts.length - i < k → spec_Accepts.l0 k m g ts (ts.length : Int) (i : Int) a0 a1 a2 ss = some (accS (ts.drop i) (ss.drop i) m g)
 | 0, i, _, hf => by omega
 | k + 1, i, hi, hf => by
  unfold spec_Accepts.l0
  by_cases hlt : i < ts.length
  ·have hd := accS_drop ts ss m g i (List.getElem?_eq_getElem hlt)
   rw [if_pos (by omega), if_pos (by omega), if_pos (by omega), w1 i (by omega), acc_l0 ts ss hk m g a0 a1 a2 k (i + 1) (by omega) (by omega), rdB ts i hlt, hd]
   by_cases h2 : i < ss.length
   ·rw [if_pos (by omega), rdB ss i h2, List.getElem?_eq_getElem h2]
    by_cases e1 : ts[i].toList = m.toList
    ·by_cases e2 : ss[i].toList = g.toList
     ·simp [e1, e2]
     ·simp [e1, e2]
    ·simp [e1]
   ·rw [if_neg (by omega), List.getElem?_eq_none (by omega)]
    have : ss.drop (i + 1) = [] := List.drop_eq_nil_of_le (by omega)
    rw [this]
    cases ts.drop (i + 1) <;> rfl
  ·rw [if_neg (by omega), List.drop_eq_nil_of_le (by omega : ts.length ≤ i)]
   rfl
theorem acc_f (x : S56) (hk : x.f2.length ≤ 2147483647) (m g : ByteArray) (k : Nat) (hf : x.f2.length < k) : spec_Accepts.f k x.f0 x.f1 x.f2 x.f3 m g = some (accS x.f2 x.f3 m g) :=
 acc_l0 x.f2 x.f3 hk m g _ _ _ k 0 (Nat.zero_le _) (by omega)
theorem bt_S (l : List UInt8) (i : Nat) : bt (S l) (i : Int) = bI l i := by
 unfold bt bI
 by_cases h : i < l.length
 ·have h' : (i : Int).toNat < (S l).size := by rw [S_sz]; omega
  rw [dif_pos h']
  simp [S, List.getElem?_eq_getElem h]
  rfl
 ·rw [dif_neg (by rw [S_sz]; omega)]
  simp [List.getElem?_eq_none (by omega : l.length ≤ i)]
theorem plain_l0 (l : List UInt8) (hl : l.length ≤ 2147483647) : ∀ (k i : Nat), i ≤ l.length → l.length - i < k → spec_Plain.l0 k (S l) (l.length : Int) (i : Int) = some (lowD (l.drop i) && validD l)
 | 0, i, _, hf => by omega
 | k + 1, i, hi, hf => by
  unfold spec_Plain.l0
  by_cases hlt : i < l.length
  ·rw [if_pos (by omega), if_pos (by omega), if_pos (by rw [S_sz]; omega), w1 i (by omega), plain_l0 l hl k (i + 1) (by omega) (by omega), bt_S, List.drop_eq_getElem_cons hlt]
   have hb : bI l i = (l[i].toNat : Int) := by unfold bI; simp [List.getElem?_eq_getElem hlt]
   rw [hb]
   unfold lowD
   rw [List.all_cons]
   by_cases h1 : l[i].toNat < 32
   ·rw [if_pos (by omega)]
    by_cases h2 : l[i].toNat = 10
    ·rw [if_pos (by omega), h2]; rfl
    ·rw [if_neg (by omega), decide_eq_false (by omega), beq_eq_false_iff_ne.2 h2]; rfl
   ·rw [if_neg (by omega), decide_eq_true (by omega)]; rfl
  ·rw [if_neg (by omega), List.drop_eq_nil_of_le (by omega)]
   unfold spec_Utf.f
   rw [if_pos (by rw [S_sz]; exact hl)]
   rfl
theorem plain_f (l : List UInt8) (hl : l.length ≤ 2147483647) (k : Nat) (hf : l.length < k) : spec_Plain.f k (S l) = some (plainD l) := by
 unfold spec_Plain.f
 rw [S_sz]
 exact plain_l0 l hl k 0 (Nat.zero_le _) (by omega)
def linesG (cur : List UInt8) : List UInt8 → List (List UInt8)
 | [] => []
 | b :: l => if b = 10 then cur :: linesG [] l else linesG (cur ++ [b]) l
theorem endsNl_tail {b : UInt8} {l : List UInt8} (h : endsNl (b :: l)) : endsNl l := by
 have := endsNl_drop (b :: l) 1 h
 simpa using this
theorem linesG_eq : ∀ (l : List UInt8) (cur : List UInt8), endsNl l → linesG cur l = if l = [] then [] else (cur ++ l.take (nl l)) :: linesD (l.drop (nl l + 1))
 | [], cur, _ => rfl
 | b :: l, cur, h => by
  rw [linesG, if_neg (List.cons_ne_nil _ _)]
  have ht := endsNl_tail h
  by_cases hb : b = 10
  ·rw [if_pos hb, linesG_eq l [] ht]
   have hn : nl (b :: l) = 0 := by unfold nl; rw [if_pos hb]
   rw [hn]
   by_cases hl : l = []
   ·subst hl; simp [linesD_nil]
   ·rw [if_neg hl]
    simp only [List.take_zero, List.append_nil, List.nil_append, Nat.zero_add, List.drop_succ_cons, List.drop_zero]
    rw [linesD_cons l hl]
  ·rw [if_neg hb, linesG_eq l (cur ++ [b]) ht]
   have hn : nl (b :: l) = nl l + 1 := by rw [nl, if_neg hb]
   rw [hn]
   by_cases hl : l = []
   ·subst hl
    rcases h with h | h
    ·cases h
    ·simp at h; exact absurd h hb
   ·rw [if_neg hl]
    simp
theorem linesG_nil (l : List UInt8) (h : endsNl l) : linesG [] l = linesD l := by
 rw [linesG_eq l [] h]
 by_cases hl : l = []
 ·subst hl; rfl
 ·rw [if_neg hl, linesD_cons l hl]; rfl
theorem split_l1 (l : List UInt8) (hl : l.length ≤ 2147483647) (n : Nat) (hn : n + 1 ≤ l.length) : ∀ (k f i : Nat) (acc : List ByteArray), f ≤ i → i ≤ l.length → acc.length ≤ i → l.length - i < k →
  spec_Split.l1 k (S l) (n : Int) acc (f : Int) (i : Int) = some (S (l.take (n + 1)), acc ++ (linesG ((l.drop f).take (i - f)) (l.drop i)).map S, true)
 | 0, f, i, acc, _, _, _, hf => by omega
 | k + 1, f, i, acc, hfi, hi, ha, hf => by
  unfold spec_Split.l1
  by_cases hlt : i < l.length
  ·have hb : bI l i = (l[i].toNat : Int) := by unfold bI; simp [List.getElem?_eq_getElem hlt]
   rw [if_pos (by rw [S_sz]; omega), if_pos (by omega), w1 i (by omega), bt_S, hb, List.drop_eq_getElem_cons hlt]
   rw [linesG]
   by_cases h10 : l[i] = 10
   ·have : (l[i].toNat : Int) = 10 := by rw [h10]; rfl
    rw [if_pos this, if_pos (by omega), if_pos (by omega), if_pos (by rw [S_sz]; omega), if_pos (by omega), if_pos h10, split_l1 l hl n hn k (i + 1) (i + 1) _ (Nat.le_refl _) (by omega) (by simp; omega) (by omega)]
    have he : (S l).extract (f : Int).toNat (i : Int).toNat = S ((l.drop f).take (i - f)) := by
     rw [Int.toNat_natCast, Int.toNat_natCast, ← S_data ((S l).extract f i), S_extract]; rfl
    rw [he, Nat.sub_self, List.take_zero, List.map_cons, List.append_assoc]
    rfl
   ·have : ¬ (l[i].toNat : Int) = 10 := by
     intro e; exact h10 (UInt8.toNat_inj.1 (by have : (10 : UInt8).toNat = 10 := rfl; omega))
    rw [if_neg this, if_neg h10, split_l1 l hl n hn k f (i + 1) acc (by omega) (by omega) (by omega) (by omega)]
    have ht : (l.drop f).take (i + 1 - f) = (l.drop f).take (i - f) ++ [l[i]] := by
     rw [show i + 1 - f = (i - f) + 1 by omega, List.take_add_one, List.getElem?_drop, show f + (i - f) = i by omega, List.getElem?_eq_getElem hlt]; rfl
    rw [ht]
  ·rw [if_neg (by rw [S_sz]; omega), w1 n (by omega), if_pos (by omega), if_pos (by rw [S_sz]; omega), List.drop_eq_nil_of_le (by omega : l.length ≤ i)]
   have he : (S l).extract 0 ((n + 1 : Nat) : Int).toNat = S (l.take (n + 1)) := by
    rw [Int.toNat_natCast, ← S_data ((S l).extract 0 (n + 1)), S_extract, List.drop_zero]; rfl
   rw [he]
   simp [linesG]
def splitD (l : List UInt8) : ByteArray × List ByteArray × Bool :=
 match lastN l l.length with
 | none => (S [], [], false)
 | some i => if l.drop (i + 2) = [] then (S [], [], false) else if l[l.length - 1]? = some 10 then (S (l.take (i + 1)), (linesD (l.drop (i + 2))).map S, true) else (S [], [], false)
theorem split_end (l : List UInt8) (hl : l.length ≤ 2147483647) (k : Nat) (hk : l.length + 2 < k) (i : Nat) (hi : lastN l l.length = some i) :
  (if (wrap64 ((i : Int) + 2)) ≥ ((S l).size : Int) then (spec_Split.j1 k (S l) (i : Int) true) else (if 0 ≤ (wrap64 (((S l).size : Int) - 1)) then (if (wrap64 (((S l).size : Int) - 1)) < ((S l).size : Int) then (spec_Split.j1 k (S l) (i : Int) ((bt (S l) (wrap64 (((S l).size : Int) - 1))) != 10)) else (none)) else (none))) = some (splitD l) := by
 have hlt := lastN_lt l _ _ hi
 obtain ⟨k, rfl⟩ : ∃ m, k = m + 1 := ⟨k - 1, by omega⟩
 have e2 : wrap64 ((i : Int) + 2) = ((i + 2 : Nat) : Int) := (IntWalk.wrap64_in _ (by omega)).trans (by omega)
 unfold splitD
 rw [hi, e2, S_sz]
 simp only
 by_cases hd : l.drop (i + 2) = []
 ·have := List.drop_eq_nil_iff.1 hd
  rw [if_pos (by omega), if_pos hd]
  rfl
 ·have hlen : i + 2 < l.length := by
   rcases Nat.lt_or_ge (i + 2) l.length with h | h
   ·exact h
   ·exact absurd (List.drop_eq_nil_of_le h) hd
  have e3 : wrap64 ((l.length : Int) - 1) = ((l.length - 1 : Nat) : Int) := (IntWalk.wrap64_in _ (by omega)).trans (by omega)
  rw [if_neg (by omega), if_neg hd, e3, if_pos (by omega), if_pos (by omega), bt_S]
  have hx : l[l.length - 1]? = some l[l.length - 1] := List.getElem?_eq_getElem (by omega)
  have hb : bI l (l.length - 1) = (l[l.length - 1].toNat : Int) := by unfold bI; simp [hx]
  rw [hb, hx]
  by_cases h10 : l[l.length - 1] = 10
  ·have : ((l[l.length - 1].toNat : Int) != 10) = false := by rw [h10]; rfl
   rw [if_pos (by rw [h10]), this]
   show spec_Split.l1 k (S l) (i : Int) [] (wrap64 ((i : Int) + 2)) (wrap64 ((i : Int) + 2)) = _
   rw [e2, split_l1 l hl i (by omega) k (i + 2) (i + 2) [] (Nat.le_refl _) (by omega) (by simp) (by omega), Nat.sub_self, List.take_zero, List.nil_append]
   rw [linesG_nil _ (endsNl_drop l (i + 2) (.inr (by rw [hx, h10])))]
  ·have : ((l[l.length - 1].toNat : Int) != 10) = true := by
    rw [bne_iff_ne]; intro e; exact h10 (UInt8.toNat_inj.1 (by have : (10 : UInt8).toNat = 10 := rfl; omega))
   rw [if_neg (fun e => h10 (Option.some.inj e)), this]
   rfl
theorem split_l0 (l : List UInt8) (hl : l.length ≤ 2147483647) : ∀ (k i : Nat), i ≤ l.length - 1 → (l.length - i) + l.length + 4 < k → spec_Split.l0 k (S l) (idxI (lastN l i)) (wrap64 (((S l).size : Int) - 1)) (i : Int) = some (splitD l)
 | 0, i, _, hf => by omega
 | k + 1, i, hi, hf => by
  have e3 : wrap64 (((S l).size : Int) - 1) = (l.length : Int) - 1 := by rw [S_sz]; exact IntWalk.wrap64_in _ (by omega)
  unfold spec_Split.l0
  by_cases hlt : i + 1 < l.length
  ·have ih := split_l0 l hl k (i + 1) (by omega) (by omega)
   rw [e3] at ih ⊢
   rw [if_pos (by omega), if_pos (by omega), if_pos (by rw [S_sz]; omega), w1 i (by omega), bt_S, bt_S]
   have hnn := nnAt_iff l i hlt
   have hln : lastN l (i + 1) = if nnAt l i = true then some i else lastN l i := rfl
   rw [hln] at ih
   by_cases h1 : bI l i = 10
   ·rw [if_pos h1, if_pos (by omega), if_pos (by rw [S_sz]; omega)]
    by_cases h2 : bI l (i + 1) = 10
    ·rw [if_pos h2]
     rw [if_pos (hnn.2 ⟨h1, h2⟩)] at ih
     exact ih
    ·rw [if_neg h2]
     rw [if_neg (fun e => h2 (hnn.1 e).2)] at ih
     exact ih
   ·rw [if_neg h1]
    rw [if_neg (fun e => h1 (hnn.1 e).1)] at ih
    exact ih
  ·have hie : i = l.length - 1 := by omega
   rw [e3, if_neg (by omega)]
   rw [hie, ← lastN_end l]
   cases hlast : lastN l l.length with
   | none =>
    rw [show idxI none = -1 from rfl, if_pos (by decide)]
    obtain ⟨k, rfl⟩ : ∃ m, k = m + 1 := ⟨k - 1, by omega⟩
    unfold splitD
    rw [hlast]
    rfl
   | some j =>
    rw [show idxI (some j) = (j : Int) from rfl, if_neg (by omega)]
    have := split_end l hl k (by omega) j hlast
    rw [e3] at this
    exact this
theorem split_f (l : List UInt8) (hl : l.length ≤ 2147483647) (k : Nat) (hf : l.length + l.length + 4 < k) : spec_Split.f k (S l) = some (splitD l) := by
 unfold spec_Split.f
 exact split_l0 l hl k 0 (Nat.zero_le _) (by omega)
def outM (t : ByteArray) : ORes → ByteArray × List S82 × List S82 × Int
 | .bad => (⟨#[]⟩, [], [], 1)
 | .inv nm h => (⟨#[]⟩, [⟨nm, h, ⟨#[]⟩⟩], [], 2)
 | .ok [] u => (t, [], u.map sig75, 3)
 | .ok (x :: s) u => (t, (x :: s).map sig75, u.map sig75, 0)
theorem asInv (p : Option Addr) (w : World) : (Instr.typeAssert (.iface 79 (.pointer p)) 69 79 true).run Tryz.prog w = .ok (.tuple #[.pointer p, .bool true]) w := by kernel_rfl
theorem asInvE (p : Option Addr) (w : World) : (Instr.typeAssert (.iface 197 (.pointer p)) 69 79 true).run Tryz.prog w = .ok (.tuple #[.pointer none, .bool false]) w := by kernel_rfl
theorem asInvU (p : Option Addr) (w : World) : (Instr.typeAssert (.iface 83 (.pointer p)) 69 79 true).run Tryz.prog w = .ok (.tuple #[.pointer none, .bool false]) w := by kernel_rfl
theorem asUnvU (p : Option Addr) (w : World) : (Instr.typeAssert (.iface 83 (.pointer p)) 69 83 true).run Tryz.prog w = .ok (.tuple #[.pointer p, .bool true]) w := by kernel_rfl
theorem asUnvE (p : Option Addr) (w : World) : (Instr.typeAssert (.iface 197 (.pointer p)) 69 83 true).run Tryz.prog w = .ok (.tuple #[.pointer none, .bool false]) w := by kernel_rfl
theorem Utf8Tabs.below' {g3 g4 : Nat} {w W : World} (h : Utf8Tabs g3 g4 w) (hb : Below w.heap.size w W) : Utf8Tabs g3 g4 W :=
 ⟨fun c hc => pw_cell_below hb (h.1 c hc), fun i hi => ⟨pw_cell_below hb (h.2 i hi).1, pw_cell_below hb (h.2 i hi).2⟩⟩
theorem WhiteTab.below' {g6 : Nat} {w W : World} (h : WhiteTab g6 w) (hb : Below w.heap.size w W) : WhiteTab g6 W := by
 obtain ⟨T, oT, R, oR, h1, h2, h3, h4, h5⟩ := h
 exact ⟨T, oT, R, oR, pw_cell_below hb h1, pw_cell_below hb h2, pw_cell_below hb h3, pw_cell_below hb h4, fun i hi => pw_cell_below hb (h5 i hi)⟩
theorem bytes_rb (W : World) (l : List UInt8) (hl : l.length ≤ 2147483647) : RB (Lib.bytesWorld W 5 (S l)) (some ⟨W.heap.size, 0, none⟩) l := by
 have h := bytes_reads W 5 (S l) (by rw [S_sz]; omega)
 have e : Go.Proofs.YtkbegfihdpiacaaGreatDoorW.PrintWords.bytesOf (S l) = ints l := by unfold Go.Proofs.YtkbegfihdpiacaaGreatDoorW.PrintWords.bytesOf ints S; simp
 rw [e, S_sz] at h
 exact h
def IOPost (w : World) (o : ByteArray × List S82 × List S82 × Int) (e : Ending) (w' : World) : Prop :=
 ∃ v1 v2, e = .returned (.tuple #[.agg #[.string o.1, v1, v2], .int .i64 o.2.2.2]) ∧ Kd.R k82 82 w' w.heap.size (fun _ => True) v1 o.2.1 ∧ Kd.R k82 82 w' w.heap.size (fun _ => True) v2 o.2.2.1 ∧ Below w.heap.size w w'
theorem io_oh {w W0 w1 w2 : World} {b : Nat} {f : Value → Option Value} {ks : List S56} {vs : List Value} {eM : Value} (hU : Utf8Tabs 3 4 w) (hW : WhiteTab 6 w)
  (hE : w.cell? ⟨0, 0, none⟩ = some eM) (hap : Apart ks) (hok : KeyOk ks) (hkt : ∀ (x : S56), x ∈ ks → x.f2.length ≤ 2147483647 ∧ x.f3.length ≤ 2147483647)
  (hbw : Below w.heap.size w W0) (hb1 : Below W0.heap.size W0 w1) (hb2 : Below w1.heap.size w1 w2) (hvs : Vs W0 ks vs) (hm : MapR Tryz.prog 126 w2 b f) (hvm : VM w2 w1.heap.size ks vs ks.length f) : OH w2 b w1.heap.size f ks vs eM none [] :=
 have hb : Below w.heap.size w w2 := (hbw.trans (hb1.mono hbw.size)).trans (hb2.mono (Nat.le_trans hbw.size hb1.size))
 {hU := Utf8Tabs.below' hU hb
  hW := WhiteTab.below' hW hb
  hE := pw_cell_below hb hE
  hm := hm
  hv := hvm
  hvs := (hvs.below hb1).below hb2
  hap := hap
  hok := hok
  hl := hkt
  hT := ⟨rfl, by decide, fun h => absurd h (by decide)⟩
  hTl := by decide }
def OV (w0 : World) (eM : Value) (text : ByteArray) (tot : ORes) (vn ve : Value) (w' : World) : Prop :=
 Below w0.heap.size w0 w' ∧ match tot with
 | .bad => vn = .pointer none ∧ ve = eM
 | .inv nm h => ∃ g, vn = .pointer none ∧ ve = .iface 79 (.pointer (some ⟨g, 0, none⟩)) ∧ w'.heap[g]? = some (.cells #[.string nm, .int .u32 h] 81 (0, 0))
 | .ok sigs unv => ∃ gN vS vU, w'.heap[gN]? = some (.cells #[.string text, vS, vU] 94 (0, 0)) ∧ Kd.R k122 122 w' w0.heap.size (fun _ => True) vS sigs ∧ Kd.R k122 122 w' w0.heap.size (fun _ => True) vU unv ∧
   ((sigs = [] ∧ ∃ g2, vn = .pointer none ∧ ve = .iface 83 (.pointer (some ⟨g2, 0, none⟩)) ∧ w'.heap[g2]? = some (.cells #[.pointer (some ⟨gN, 0, none⟩)] 85 (0, 0))) ∨ (sigs ≠ [] ∧ vn = .pointer (some ⟨gN, 0, none⟩) ∧ ve = .nilIface))
theorem OPost.ret {w0 : World} {eM : Value} {text : ByteArray} {tot : ORes} {e : Ending} {w' : World} (h : OPost w0 eM text tot e w') : ∃ vn ve, e = .returned (.tuple #[vn, ve]) ∧ OV w0 eM text tot vn ve w' := by
 obtain ⟨hb, h⟩ := h
 cases tot with
 | bad => exact ⟨_, _, h, hb, rfl, rfl⟩
 | inv nm hh => obtain ⟨g, h, hc⟩ := h; exact ⟨_, _, h, hb, g, rfl, rfl, hc⟩
 | ok sigs unv =>
  obtain ⟨gN, vS, vU, h1, h2, h3, ⟨hs, g2, h, hc⟩ | ⟨hs, h⟩⟩ := h
  ·exact ⟨_, _, h, hb, gN, vS, vU, h1, h2, h3, .inl ⟨hs, g2, rfl, rfl, hc⟩⟩
  ·exact ⟨_, _, h, hb, gN, vS, vU, h1, h2, h3, .inr ⟨hs, rfl, rfl⟩⟩
theorem put3 {w : World} {g t : Nat} {x0 x1 x2 : Value} (h : w.heap[g]? = some (.cells #[x0, x1, x2] t (0, 0))) (u0 u1 u2 : Value) :
  (((w.setCell ⟨g, 0, none⟩ u0).setCell ⟨g, 1, none⟩ u1).setCell ⟨g, 2, none⟩ u2).heap[g]? = some (.cells #[u0, u1, u2] t (0, 0)) :=
 blk_put (blk_put (blk_put h 0 _ rfl) 1 _ rfl) 2 _ rfl
theorem belowT {w W : World} (h : Below w.heap.size w W) (u0 u1 u2 : Value) : Below w.heap.size w (((W.setCell ⟨w.heap.size, 0, none⟩ u0).setCell ⟨w.heap.size, 1, none⟩ u1).setCell ⟨w.heap.size, 2, none⟩ u2) :=
 ((h.setCell (Nat.le_refl _) _).setCell (Nat.le_refl _) _).setCell (Nat.le_refl _) _
theorem one75 (w : World) (N : Nat) (nm : ByteArray) (h : Int) (hN : N < w.heap.size) : Kd.R k82 82 (w.alloc (.cells #[.string nm, .int .u32 h, .string ⟨#[]⟩] 82)) (N + 1) (fun _ => True) (.slice (some ⟨w.heap.size, 0, none⟩) 1 1) [⟨nm, h, ⟨#[]⟩⟩] := by
 refine ⟨fun _ _ => trivial, OwnRow.lit (inner := [.string nm, .int .u32 h, .string ⟨#[]⟩]) w (N + 1) ?_ hN (by simp)⟩
 have hr := Reps.snoc (ps := ([] : List S82)) (cs := []) (c := [.string nm, .int .u32 h, .string ⟨#[]⟩]) (p := ⟨nm, h, ⟨#[]⟩⟩) (Reps.none (k82.M (w.alloc (.cells #[.string nm, .int .u32 h, .string ⟨#[]⟩] 82)) (N + 1) (fun k => True ∧ some k ≠ (Value.slice (some ⟨w.heap.size, 0, none⟩) 1 1).ownBlock)) k82.sz) ?_ rfl
 ·exact hr
 ·exact k82_mkM _ _ _ _
set_option maxRecDepth 100000 in
set_option maxHeartbeats 4000000 in
theorem iopen (w : World) (l : List UInt8) (A0 : Option Addr) (c0 : Nat) (ks : List S56) (eM : Value) (hU : Utf8Tabs 3 4 w) (hW : WhiteTab 6 w) (hE : w.cell? ⟨0, 0, none⟩ = some eM) (heM : ∃ pE, eM = .iface 197 (.pointer pE))
  (hk : Kd.C k56 w A0 ks.length ks) (hc0 : ks.length ≤ c0) (hkl : ks.length ≤ 2147483647) (hap : Apart ks) (hok : KeyOk ks) (hkt : ∀ (x : S56), x ∈ ks → x.f2.length ≤ 2147483647 ∧ x.f3.length ≤ 2147483647)
  (hl : l.length ≤ 2147483647) (hcnt : ∀ i, lastN l l.length = some i → l[l.length - 1]? = some 10 → (linesD (l.drop (i + 2))).length ≤ 100) (hlen : ∀ s u, (openM ks l).2 = .ok s u → s.length ≤ 1000000 ∧ u.length ≤ 1000000) :
  Calls Tryz.prog 11 #[.string (S l), .slice A0 ks.length c0] w (IOPost w (outM (openM ks l).1 (openM ks l).2)) := by
 have HU := Lib.hid hU
 have HW := Lib.hid hW
 have HE := Lib.hid hE
 have HEM := Lib.hid heM
 have HK := Lib.hid hk
 have HC := Lib.hid hc0
 have HKL := Lib.hid hkl
 have HAP := Lib.hid hap
 have HOK := Lib.hid hok
 have HKT := Lib.hid hkt
 have HL := Lib.hid hl
 have HCNT := Lib.hid hcnt
 have HLEN := Lib.hid hlen
 clear hU hW hE heM hk hc0 hkl hap hok hkt hl hcnt hlen
 go_enter Tryz.func11, Tryz.ntmps11
 go_upto_region 1 with fail
 generalize hWa : w.alloc (.cells #[.string ⟨#[]⟩, .slice none 0 0, .slice none 0 0] 42) = Wa
 have hba : Below w.heap.size w Wa := by subst hWa; exact (Below.refl _ _).alloc (Nat.le_refl _) _
 have hblk : Wa.heap[w.heap.size]? = some (.cells #[.string ⟨#[]⟩, .slice none 0 0, .slice none 0 0] 42 (0, 0)) := by subst hWa; exact heap_alloc_new w _
 have hsa : Wa.heap.size = w.heap.size + 1 := by subst hWa; simp
 have hrb := bytes_rb Wa l HL.out
 have hb0 : Below Wa.heap.size Wa (Lib.bytesWorld Wa 5 (S l)) := bytes_below (Below.refl _ _) (Nat.le_refl _) _ _
 have hge := grownCap_ge Wa l.length 0 5
 have kc : (convert 9 72 (.string (S l))).run Tryz.prog Wa = .ok (.slice (some ⟨Wa.heap.size, 0, none⟩) l.length (grownCap Wa l.length 0 5)) (Lib.bytesWorld Wa 5 (S l)) := by
  have h := print_bytes (P := Tryz.prog) 9 72 5 Tryz.underlying9 Tryz.underlying72 Tryz.underlying5 (S l) Wa
  rw [S_sz] at h; exact h
 generalize hcM : grownCap Wa l.length 0 5 = cM at hge
 generalize hW0 : Lib.bytesWorld Wa 5 (S l) = W0 at hrb hb0
 have hbw : Below w.heap.size w W0 := hba.trans (hb0.mono hba.size)
 rw [hcM, hW0] at kc
 rw [hsa] at kc hrb
 have HBW := Lib.hid hbw
 have HRB := Lib.hid hrb
 have HB0 := Lib.hid hb0
 clear hbw hrb hb0 hWa hcM hW0 hsa
 go_upto_region 2 with (first
  | (go_at_call 26; with_reducible refine (verifiers A0 c0 ks W0 (Kd.C_below HK.out HBW.out) HC.out HKL.out).mono ?_; rintro e w1 ⟨v1, vs, rfl, hown, hvs, hb1⟩; have HB1 := Lib.hid hb1; have HVS := Lib.hid hvs; have HOWN := Lib.hid hown; clear hown hvs hb1)
  | (go_at_call 25; with_reducible refine (vlist w w1 v1 ks vs _ HOWN.out (HVS.out.below HB1.out) HAP.out HOK.out HKL.out).mono ?_; rintro e w2 ⟨b, f, rfl, hm, hvm, hb2⟩; have HB2 := Lib.hid hb2; have HM := Lib.hid hm; have HVM := Lib.hid hvm; clear hm hvm hb2)
  | (go_at_call 24; with_reducible refine (nopen w2 b w1.heap.size f ks vs eM (io_oh HU.out HW.out HE.out HAP.out HOK.out HKT.out HBW.out HB1.out HB2.out HVS.out HM.out HVM.out) l (w.heap.size + 1) cM ((HRB.out.below HB1.out).below HB2.out) HL.out hge HCNT.out).mono ?_; rintro e w3 hp; obtain ⟨vn, ve, rfl, hov⟩ := OPost.ret hp; clear hp)
  | fail)
 have HLEN2 := HLEN.out
 clear kc hge
 generalize (openM ks l).2 = tot at *
 generalize (openM ks l).1 = text at *
 have hb3 : Below w.heap.size w w3 := ((HBW.out.trans (HB1.out.mono HBW.out.size)).trans (HB2.out.mono (Nat.le_trans HBW.out.size HB1.out.size))).trans (hov.1.mono (Nat.le_trans (Nat.le_trans HBW.out.size HB1.out.size) HB2.out.size))
 have hlt : w.heap.size < Wa.heap.size := blk_lt hblk
 have hlt0 := Nat.lt_of_lt_of_le hlt HB0.out.size
 have hlt1 := Nat.lt_of_lt_of_le hlt0 HB1.out.size
 have hblk3 : w3.heap[w.heap.size]? = some (.cells #[.string ⟨#[]⟩, .slice none 0 0, .slice none 0 0] 42 (0, 0)) := (hov.1.block _ (Nat.lt_of_lt_of_le hlt1 HB2.out.size)).trans ((HB2.out.block _ hlt1).trans ((HB1.out.block _ hlt0).trans ((HB0.out.block _ hlt).trans hblk)))
 have HB3 := Lib.hid hb3
 have HBLK := Lib.hid hblk3
 obtain ⟨hs0, hs1, hs2, hf0, hf1, hf2⟩ := three hblk3
 have hov2 := hov.2
 clear hov hb3 hblk3 hlt hlt0 hlt1 hblk hba
 cases tot with
 | bad =>
  obtain ⟨rfl, rfl⟩ := hov2
  obtain ⟨pE, hpE⟩ := HEM.out
  subst hpE
  have f1 := asInvE pE
  have f2 := asUnvE pE
  go_wp2_with fail
  refine bodyPost_ret (results_ct rfl _ _ w.heap.size 42 _ (0, 0) _ rfl (put3 HBLK.out _ _ _) Tryz.underlying42 rfl (by kernel_rfl)) rfl ?_
  exact ⟨_, _, rfl, Kd.R_nil _ _ _ _ _, Kd.R_nil _ _ _ _ _, belowT HB3.out _ _ _⟩
 | inv nm h =>
  obtain ⟨g, rfl, rfl, hc⟩ := hov2
  have f1 := asInv (some ⟨g, 0, none⟩)
  have hne : w.heap.size ≠ g := blk_ne HBLK.out hc (by decide)
  have c0 : w3.cell? ⟨g, 0, none⟩ = some (.string nm) := (blk_cell hc 0).trans rfl
  have c1 : w3.cell? ⟨g, 1, none⟩ = some (.int .u32 h) := (blk_cell hc 1).trans rfl
  go_upto_region 8 with fail
  go_still_tail 9, (by kernel_rfl)
  change wpList _ _ _ _ _ w3.drew
  generalize hd : w3.drew = w4
  have hB4 : Hid (Below w.heap.size w w4) := Lib.hid (by rw [← hd]; exact below_drew1 HB3.out)
  have hblk4 : Hid (w4.heap[w.heap.size]? = some (.cells #[.string ⟨#[]⟩, .slice none 0 0, .slice none 0 0] 42 (0, 0))) := Lib.hid (by rw [← hd]; exact HBLK.out)
  clear hs0 hs1 hs2 hf0 hf1 hf2 c0 c1 f1 hd
  have hblk5 : Hid ((w4.alloc (.cells #[.string nm, .int .u32 h, .string ⟨#[]⟩] 82)).heap[w.heap.size]? = some (.cells #[.string ⟨#[]⟩, .slice none 0 0, .slice none 0 0] 42 (0, 0))) := Lib.hid ((Below.heap_alloc _ _ _ (blk_lt hblk4.out)).trans hblk4.out)
  obtain ⟨hs0, hs1, hs2, hf0, hf1, hf2⟩ := three hblk5.out
  go_wp2_with fail
  refine bodyPost_ret (results_ct rfl _ _ w.heap.size 42 _ (0, 0) _ rfl (put3 hblk5.out _ _ _) Tryz.underlying42 rfl (by kernel_rfl)) rfl ?_
  exact ⟨_, _, rfl, far3 (one75 w4 _ nm h (blk_lt hblk4.out)) (Nat.lt_succ_self _) _ _ _, Kd.R_nil _ _ _ _ _, belowT (hB4.out.alloc hB4.out.size _) _ _ _⟩
 | ok sigs unv =>
  obtain ⟨gN, vS, vU, h1, h2, h3, ⟨rfl, g2, rfl, rfl, hc⟩ | ⟨hs, rfl, rfl⟩⟩ := hov2
  ·have hbk := backC w3 gN text vS vU [] unv _ h1 h2 h3 (HLEN2 _ _ rfl).1 (HLEN2 _ _ rfl).2
   have HBK := Lib.hid hbk
   have f1 := asInvU (some ⟨g2, 0, none⟩)
   have f2 := asUnvU (some ⟨g2, 0, none⟩)
   have c0 : w3.cell? ⟨g2, 0, none⟩ = some (.pointer (some ⟨gN, 0, none⟩)) := (blk_cell hc 0).trans rfl
   clear hbk h1 h2 h3 HLEN2 hc
   go_wp2_with (go_at_call 27; refine HBK.out.mono ?_; rintro e w4 ⟨x1, x2, rfl, r1, r2, hb4⟩; obtain ⟨B1, d1, rfl⟩ := Kd.R_slice r1; obtain ⟨B2, d2, rfl⟩ := Kd.R_slice r2; obtain ⟨ht0, ht1, ht2, he0, he1, he2⟩ := three ((hb4.block _ (blk_lt HBLK.out)).trans HBLK.out))
   refine bodyPost_ret (results_ct rfl _ _ w.heap.size 42 _ (0, 0) _ rfl (put3 ((hb4.block _ (blk_lt HBLK.out)).trans HBLK.out) _ _ _) Tryz.underlying42 rfl (by kernel_rfl)) rfl ?_
   have hlt := blk_lt HBLK.out
   refine ⟨_, _, rfl, ?_, ?_, belowT (HB3.out.trans (hb4.mono HB3.out.size)) _ _ _⟩
   ·exact far3 r1 hlt _ _ _
   ·rw [List.length_map] at r2; exact far3 r2 hlt _ _ _
  ·have hbk := backC w3 gN text vS vU sigs unv _ h1 h2 h3 (HLEN2 _ _ rfl).1 (HLEN2 _ _ rfl).2
   have HBK := Lib.hid hbk
   clear hbk h1 h2 h3 HLEN2
   go_wp2_with (go_at_call 27; refine HBK.out.mono ?_; rintro e w4 ⟨x1, x2, rfl, r1, r2, hb4⟩; obtain ⟨B1, d1, rfl⟩ := Kd.R_slice r1; obtain ⟨B2, d2, rfl⟩ := Kd.R_slice r2; obtain ⟨ht0, ht1, ht2, he0, he1, he2⟩ := three ((hb4.block _ (blk_lt HBLK.out)).trans HBLK.out))
   refine bodyPost_ret (results_ct rfl _ _ w.heap.size 42 _ (0, 0) _ rfl (put3 ((hb4.block _ (blk_lt HBLK.out)).trans HBLK.out) _ _ _) Tryz.underlying42 rfl (by kernel_rfl)) rfl ?_
   obtain ⟨x, sl, rfl⟩ : ∃ x sl, sigs = x :: sl := by cases sigs with | nil => exact absurd rfl hs | cons x sl => exact ⟨x, sl, rfl⟩
   have hlt := blk_lt HBLK.out
   refine ⟨_, _, rfl, ?_, ?_, belowT (HB3.out.trans (hb4.mono HB3.out.size)) _ _ _⟩
   ·rw [List.length_map] at r1; exact far3 r1 hlt _ _ _
   ·rw [List.length_map] at r2; exact far3 r2 hlt _ _ _
end Go.Proofs.YtkbegfihdpiacaaGreatDoor.PX
