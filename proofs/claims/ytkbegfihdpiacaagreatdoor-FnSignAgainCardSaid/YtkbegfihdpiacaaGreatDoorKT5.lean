/- Part 5 of the proof: what the theorem reaches of the texts KR8, KR9. -/
import Derived.Test.YtkbegfihdpiacaaGreatDoorKT4
set_option linter.unusedVariables false
set_option linter.unusedSimpArgs false
namespace Go.Proofs.YtkbegfihdpiacaaGreatDoor.PX
open Go.RowKit Go.Proofs.YtkbegfihdpiacaaGreatDoorW.PrintWords Go.Proofs.YtkbegfihdpiacaaGreatDoorW.PrintLast Go.Proofs.YtkbegfihdpiacaaGreatDoorW.PrintMore
attribute [local go_sem] max2_int min2_int max_two min_two max_three min_three max_four min_four   -- for this text's walks alone
attribute [local go_sem high] eqA49
def sumdbnote_beUint32.f (l0 : List Int) : Option (Int) := if 0 < (l0.length : Int) then (if 1 < (l0.length : Int) then (if 2 < (l0.length : Int) then (if 3 < (l0.length : Int) then (some (Go.bits .or .u32 (Go.bits .or .u32 (Go.bits .or .u32 ((((rd l0 0) % 4294967296) * 16777216) % 4294967296) ((((rd l0 1) % 4294967296) * 65536) % 4294967296)) ((((rd l0 2) % 4294967296) * 256) % 4294967296)) ((rd l0 3) % 4294967296))) else (none)) else (none)) else (none)) else (none)
set_option maxHeartbeats 8000000 in
set_option maxRecDepth 100000 in
theorem sumdbnote_beUint32.calls (A0 : Option Addr) (c0 : Nat) (l0 : List Int) (r : Int) (w : World) (hr0 : Kd.C (Kd.int .u8) w A0 l0.length l0) (hc0 : l0.length ≤ c0) (h : sumdbnote_beUint32.f l0 = some r) :
  Calls Tryz.prog 45 #[.slice A0 l0.length c0] w fun e w' => e = .returned (.int .u32 r) ∧ Drawn0 w w' := by
 have HR0 := Aside0.mk hr0
 have HC0 := Aside0.mk hc0
 clear hr0 hc0
 have H : (if 0 < (l0.length : Int) then (if 1 < (l0.length : Int) then (if 2 < (l0.length : Int) then (if 3 < (l0.length : Int) then (some (Go.bits .or .u32 (Go.bits .or .u32 (Go.bits .or .u32 ((((rd l0 0) % 4294967296) * 16777216) % 4294967296) ((((rd l0 1) % 4294967296) * 65536) % 4294967296)) ((((rd l0 2) % 4294967296) * 256) % 4294967296)) ((rd l0 3) % 4294967296))) else (none)) else (none)) else (none)) else (none)) = some r := h
 clear h
 by_cases c2 : 0 < (l0.length : Int)
 ·rw [if_pos c2] at H
  have c2b0 : decide (0 < (l0.length : Int)) = true := decide_eq_true c2
  have c2b1 : decide (0 < l0.length) = true := decide_eq_true (by omega)
  clear c2
  by_cases c3 : 1 < (l0.length : Int)
  ·rw [if_pos c3] at H
   have c3b0 : decide (1 < (l0.length : Int)) = true := decide_eq_true c3
   have c3b1 : decide (1 < l0.length) = true := decide_eq_true (by omega)
   clear c3
   by_cases c4 : 2 < (l0.length : Int)
   ·rw [if_pos c4] at H
    have c4b0 : decide (2 < (l0.length : Int)) = true := decide_eq_true c4
    have c4b1 : decide (2 < l0.length) = true := decide_eq_true (by omega)
    clear c4
    by_cases c5 : 3 < (l0.length : Int)
    ·rw [if_pos c5] at H
     have c5b0 : decide (3 < (l0.length : Int)) = true := decide_eq_true c5
     have c5b1 : decide (3 < l0.length) = true := decide_eq_true (by omega)
     clear c5
     obtain rfl := Option.some.inj H
     have p297 : 0 ≤ (0 : Int) := (by omega)
     have q297 : 0 < (l0.length : Int) := of_decide_eq_true (by first | (with_reducible assumption) | assumption)
     obtain ⟨ad297, e297, hx297_0⟩ := Kd.at_int HR0.out 0 p297 q297
     cases e297
     have qi297 : (0 < l0.length) = True := eq_true (by omega)
     (try rw [show ((0 : Int)).toNat = 0 from rfl] at hx297_0)
     (try rw [Addr.add_zero'] at hx297_0)
     replace p297 := eq_true p297
     replace q297 := eq_true q297
     have p298 : 0 ≤ (1 : Int) := (by omega)
     have q298 : 1 < (l0.length : Int) := of_decide_eq_true (by first | (with_reducible assumption) | assumption)
     obtain ⟨ad298, e298, hx298_0⟩ := Kd.at_int HR0.out 1 p298 q298
     obtain rfl : ad297 = ad298 := (by injection e298)
     (try simp only [show (1 : Int).toNat = 1 from rfl, Nat.reduceMul, Nat.reduceEqDiff, Go.Addr.add, ↓reduceIte] at hx298_0)
     have qi298 : (1 < l0.length) = True := eq_true (by omega)
     (try rw [show ((1 : Int)).toNat = 1 from rfl] at hx298_0)
     replace p298 := eq_true p298
     replace q298 := eq_true q298
     have p299 : 0 ≤ (2 : Int) := (by omega)
     have q299 : 2 < (l0.length : Int) := of_decide_eq_true (by first | (with_reducible assumption) | assumption)
     obtain ⟨ad299, e299, hx299_0⟩ := Kd.at_int HR0.out 2 p299 q299
     obtain rfl : ad297 = ad299 := (by injection e299)
     (try simp only [show (2 : Int).toNat = 2 from rfl, Nat.reduceMul, Nat.reduceEqDiff, Go.Addr.add, ↓reduceIte] at hx299_0)
     have qi299 : (2 < l0.length) = True := eq_true (by omega)
     (try rw [show ((2 : Int)).toNat = 2 from rfl] at hx299_0)
     replace p299 := eq_true p299
     replace q299 := eq_true q299
     have p300 : 0 ≤ (3 : Int) := (by omega)
     have q300 : 3 < (l0.length : Int) := of_decide_eq_true (by first | (with_reducible assumption) | assumption)
     obtain ⟨ad300, e300, hx300_0⟩ := Kd.at_int HR0.out 3 p300 q300
     obtain rfl : ad297 = ad300 := (by injection e300)
     (try simp only [show (3 : Int).toNat = 3 from rfl, Nat.reduceMul, Nat.reduceEqDiff, Go.Addr.add, ↓reduceIte] at hx300_0)
     have qi300 : (3 < l0.length) = True := eq_true (by omega)
     (try rw [show ((3 : Int)).toNat = 3 from rfl] at hx300_0)
     replace p300 := eq_true p300
     replace q300 := eq_true q300
     go_enter Tryz.func45, Tryz.ntmps45
     go_wp2
     repeat (go_quiet (fail); try go_wp2)
     go_ret
     exact ⟨by first | rfl | (simp; done) | (simp [*]; done), by repeat (first | exact Drawn0.refl _ | apply Drawn0.step)⟩
    ·rw [if_neg c5] at H
     exact absurd H (by simp)
   ·rw [if_neg c4] at H
    exact absurd H (by simp)
  ·rw [if_neg c3] at H
   exact absurd H (by simp)
 ·rw [if_neg c2] at H
  exact absurd H (by simp)
def impl_in.l0 : Nat → List (S82) → List (S122) → Int → Int → Option ((List (S82)))
 | 0, _, _, _, _ => none
 | k + 1, x3, x7, x8, x9 => if x9 < x8 then (if 0 ≤ x9 then (if x9 < (x7.length : Int) then (if x3.length < 3518437208883 then (impl_in.l0 k (x3 ++ [(⟨(rd_T122 x7 x9).f0, (rd_T122 x7 x9).f1, (rd_T122 x7 x9).f2⟩ : S82)]) x7 x8 (wrap64 (x9 + 1))) else (none)) else (none)) else (none)) else (some x3)
def impl_in.f (k : Nat) (l0 : List (S122)) : Option ((List (S82))) := impl_in.l0 k (([] : List (S82))) l0 (l0.length : Int) 0
theorem impl_in.mono_l : ∀ k, (∀ y0 y1 y2 y3, LeO (impl_in.l0 k y0 y1 y2 y3) (impl_in.l0 (k + 1) y0 y1 y2 y3))
 | 0 => fun _ _ _ _ r h => by simp [impl_in.l0] at h
 | k + 1 => by
  have ih0 := impl_in.mono_l k
  ·intro y0 y1 y2 y3
   unfold impl_in.l0
   repeat' first
   | (with_reducible exact ih0 _ _ _ _)
   | (with_reducible exact LeO.refl _)
   | (with_reducible exact LeO.none _)
   | (with_reducible refine LeO.ite ?_ ?_)
   | (with_reducible refine LeO.bind ?_ (fun _ => ?_))
   | exact ih0 _ _ _ _
   | exact LeO.none _
   | refine LeO.ite ?_ ?_
   | refine LeO.bind ?_ (fun _ => ?_)
theorem impl_in.mono : ∀ a0 k, LeO (impl_in.f k a0) (impl_in.f (k + 1) a0) := by
 intro a0 k
 have ih0 := impl_in.mono_l k
 unfold impl_in.f
 repeat' first
   | (with_reducible exact ih0 _ _ _ _)
   | (with_reducible exact LeO.refl _)
   | (with_reducible exact LeO.none _)
   | (with_reducible refine LeO.ite ?_ ?_)
   | (with_reducible refine LeO.bind ?_ (fun _ => ?_))
   | exact ih0 _ _ _ _
   | exact LeO.none _
   | refine LeO.ite ?_ ?_
   | refine LeO.bind ?_ (fun _ => ?_)
set_option maxHeartbeats 8000000 in
set_option maxRecDepth 100000 in
theorem impl_in.calls (k : Nat) (A0 : Option Addr) (c0 : Nat) (l0 : List (S122)) (r : List (S82)) (w : World) (hr0 : Kd.C k122 w A0 l0.length l0) (hc0 : l0.length ≤ c0) (h : impl_in.f k l0 = some r) :
  Calls Tryz.prog 46 #[.slice A0 l0.length c0] w fun e w' => ∃ v0_ : Value, e = .returned (v0_) ∧ Kd.R k82 82 w' w.heap.size (fun _ => True) v0_ r ∧ Below w.heap.size w w' := by
 have hu122 := Tryz.underlying122
 have hu82 := Tryz.underlying82
 have HR0 := Aside0.mk hr0
 have HC0 := Aside0.mk hc0
 clear hr0 hc0
 have HB := Aside0.mk (Below.refl w.heap.size w)
 have H : (impl_in.l0 k (([] : List (S82))) l0 (l0.length : Int) 0) = some r := h
 clear h
 obtain ⟨y301, hy301⟩ : ∃ y_ : List (S82), y_ = (([] : List (S82))) := ⟨_, rfl⟩
 replace H : (impl_in.l0 k y301 l0 (l0.length : Int) 0) = some r := by first | (rw [hy301]; with_reducible exact H) | (have H2_ := (Option.bind_some _ _).symm.trans H; rw [hy301]; with_reducible exact H2_) | (have H2_ := (Option.bind_some _ _).symm.trans H; with_reducible exact H2_) | with_reducible exact H | (rw [hy301]; exact H) | exact H
 have Ny301 := Aside0.mk hy301
 clear hy301
 have H' := Aside0.mk H
 clear H
 go_enter Tryz.func46, Tryz.ntmps46
 go_wp2_with (first | ((with_reducible refine gate_dst (N := 6) rfl ?_); refine Kd.R_lit k82 _ 82 ?hg (N := 6) ?hd (xs := ([] : List (S82))) (inner := []) (ok := fun _ => True) (okp := fun _ => True) ?hr ?hp (fun _ hk => hk) trivial (Below.refl _ _) (Nat.le_refl _) (by simp) ?_; (case hd => rfl); (case hg => rfl); (case hr => first | (go_simp; done) | (go_simp; rfl)); (case hp => exact (Reps.none _ _)); intro v302 w2 ho3 hb hg_ hnew_; clear hg_ hnew_; (first | rw [← Ny301.out] at ho3 | (simp only [Int.reduceToNat] at ho3; rw [← Ny301.out] at ho3)); have n0_ := Aside0.mk (Kd.R_lower ho3 (below_size (by repeat (first | (with_reducible first | exact HB.out | apply below_alloc | apply pw_below_drewN | apply below_drew1) | exact HB.out)))); have n1_ := Aside0.mk (below_step (by repeat (first | (with_reducible first | exact HB.out | apply below_alloc | apply pw_below_drewN | apply below_drew1) | exact HB.out)) hb); clear HB; have HO303 := n0_; have HB := n1_; clear n0_ n1_; clear hb ho3))
 go_loopg [3, 9] k (fun kq v3 v9 w' => ∃ (x3_1 : List (S82)) (x9_1 : Int), v9 = .int .i64 x9_1 ∧ Aside0 (impl_in.l0 kq x3_1 l0 (l0.length : Int) x9_1 = some r) ∧ Aside0 (kq ≤ k) ∧ Aside0 (Kd.R k82 82 w' w.heap.size (fun _ => True) v3 x3_1) ∧ Aside0 (Below w.heap.size w w'))
 case atStart => exact ⟨(y301), (0), (by first | rfl | (simp; done) | (simp [*]; done)), H', ⟨Nat.le_refl _⟩, ⟨by (with_reducible repeat (first | apply Kd.R_alloc | apply Kd.R_drewN | apply Kd.R_drew)); exact HO303.out⟩, ⟨by repeat (first | (with_reducible first | exact HB.out | apply below_alloc | apply pw_below_drewN | apply below_drew1) | exact HB.out)⟩⟩
 case round =>
  clear H'
  try clear p2
  obtain ⟨x3_1, x9_1, rfl, HA, HK1, HO_3, HB⟩ := hrel
  cases gk with
  | zero => exact absurd HA.out (by simp [impl_in.l0])
  | succ k1 =>
   have H := HA.out
   clear HA
   simp only [impl_in.l0] at H
   by_cases c4 : x9_1 < (l0.length : Int)
   ·rw [if_pos c4] at H
    have c4b0 : decide (x9_1 < (l0.length : Int)) = true := decide_eq_true c4
    clear c4
    by_cases c5 : 0 ≤ x9_1
    ·rw [if_pos c5] at H
     have c5b0 : decide (0 ≤ x9_1) = true := decide_eq_true c5
     clear c5
     by_cases c6 : x9_1 < (l0.length : Int)
     ·rw [if_pos c6] at H
      have c6b0 : decide (x9_1 < (l0.length : Int)) = true := decide_eq_true c6
      clear c6
      by_cases c7 : x3_1.length < 3518437208883
      ·rw [if_pos c7] at H
       have LMc7 := Aside0.mk c7
       clear c7
       obtain ⟨y306, hy306⟩ : ∃ y_ : List (S82), y_ = (x3_1 ++ [(⟨(rd_T122 l0 x9_1).f0, (rd_T122 l0 x9_1).f1, (rd_T122 l0 x9_1).f2⟩ : S82)]) := ⟨_, rfl⟩
       replace H : (impl_in.l0 k1 y306 l0 (l0.length : Int) (wrap64 (x9_1 + 1))) = some r := by first | (rw [hy306]; with_reducible exact H) | (have H2_ := (Option.bind_some _ _).symm.trans H; rw [hy306]; with_reducible exact H2_) | (have H2_ := (Option.bind_some _ _).symm.trans H; with_reducible exact H2_) | with_reducible exact H | (rw [hy306]; exact H) | exact H
       have Ny306 := Aside0.mk hy306
       clear hy306
       have H' := Aside0.mk H
       clear H
       have p304 : 0 ≤ (x9_1 : Int) := of_decide_eq_true (by first | (with_reducible assumption) | assumption)
       have q304 : x9_1 < (l0.length : Int) := of_decide_eq_true (by first | (with_reducible assumption) | assumption)
       obtain ⟨ad304, e304, hx304_0, hx304_1, hx304_2⟩ := at_T122 HR0.out x9_1 p304 q304
       cases e304
       replace hx304_0 := (HB.out.cell (World.block_lt_of_cell? w _ hx304_0)).trans hx304_0
       replace hx304_1 := (HB.out.cell (World.block_lt_of_cell? w _ hx304_1)).trans hx304_1
       replace hx304_2 := (HB.out.cell (World.block_lt_of_cell? w _ hx304_2)).trans hx304_2
       replace p304 := eq_true p304
       replace q304 := eq_true q304
       go_wp2_with (first | ((with_reducible refine gate_dst (N := 5) rfl ?_); refine box_event ?hg (N := 5) ?hd (cs := #[.string (⟨#[]⟩ : ByteArray), .int .u32 0, .string (⟨#[]⟩ : ByteArray)]) (t := 122) ?hr ?_; (case hd => rfl); (case hg => rfl); (case hr => first | (go_simp; done) | (go_simp; rfl)); intro gb305 hg w8 hbox hb; have n0_ := Aside0.mk (Kd.R_below (by (with_reducible repeat (first | apply Kd.R_alloc | apply Kd.R_drewN | apply Kd.R_drew)); exact HO_3.out) hb); have n1_ := Aside0.mk (below_step (by repeat (first | (with_reducible first | exact HB.out | apply below_alloc | apply pw_below_drewN | apply below_drew1) | exact HB.out)) hb); have n2_ := Aside0.mk (hbox); have n3_ := Aside0.mk ((by rw [hg]; exact (below_size (by repeat (first | (with_reducible first | exact HB.out | apply below_alloc | apply pw_below_drewN | apply below_drew1) | exact HB.out))) : w.heap.size ≤ gb305)); have n4_ := Aside0.mk ((by rw [hg]; exact (below_size (by repeat (first | (with_reducible first | exact HB.out | apply below_alloc | apply pw_below_drewN | apply below_drew1) | exact HB.out))) : w.heap.size ≤ gb305)); clear HO_3; clear HB; have HO_3 := n0_; have HB := n1_; have BK305 := n2_; have GW305 := n3_; have GE305 := n4_; clear n0_ n1_ n2_ n3_ n4_; clear hb hbox hg; have hcz9_0 : w8.cell? ⟨gb305, 0, none⟩ = some (.string (⟨#[]⟩ : ByteArray)) := (blk_cell BK305.out 0).trans rfl; have hcz9_1 : w8.cell? ⟨gb305, 1, none⟩ = some (.int .u32 0) := (blk_cell BK305.out 1).trans rfl; have hcz9_2 : w8.cell? ⟨gb305, 2, none⟩ = some (.string (⟨#[]⟩ : ByteArray)) := (blk_cell BK305.out 2).trans rfl; have hfz9_0 := blk_frozen BK305.out 0; have hfz9_1 := blk_frozen BK305.out 1; have hfz9_2 := blk_frozen BK305.out 2) | ((with_reducible refine gate_builtin (b := .append) (xs := #[.tmp 13, .tmp 21]) rfl ?_); at_builtin; refine Kd.R_append k82 (w0 := w) w.heap.size rfl (.tmp 13) (.tmp 21) 40 82 (.agg #[(.string ⟨#[]⟩), (.int .u32 0), (.string ⟨#[]⟩)]) 40 rfl Tryz.underlying40 info82 rfl (by decide) (by omega) u3 x3_1 (⟨(rd_T122 l0 x9_1).f0, (rd_T122 l0 x9_1).f1, (rd_T122 l0 x9_1).f2⟩ : S82) [.string ((rd_T122 l0 x9_1).f0), .int .u32 ((rd_T122 l0 x9_1).f1), .string ((rd_T122 l0 x9_1).f2)] (fun _ => True) (fun _ => False) rfl (by first | (go_simp; done) | (go_simp; rfl)) ?aP (fun _ hk => hk.elim) ?aF ?aO ?aB ?aS ?aL ?_; (case aP => exact k82_mkM _ _ _ (⟨(rd_T122 l0 x9_1).f0, (rd_T122 l0 x9_1).f1, (rd_T122 l0 x9_1).f2⟩ : S82)); (case aB => exact (by repeat (first | (with_reducible first | exact HB.out | apply below_alloc | apply pw_below_drewN | apply below_drew1 | refine below_set ?_ GE305.out) | exact HB.out))); (case aF => exact (fun _ _ => trivial)); (case aO => exact (by (with_reducible repeat (first | apply Kd.R_alloc | apply Kd.R_drewN | apply Kd.R_drew)); exact Kd.R_mono (Kd.R_far (p := ⟨gb305, 2, none⟩) (Kd.R_far (p := ⟨gb305, 1, none⟩) (Kd.R_far (p := ⟨gb305, 0, none⟩) (Kd.R_types HO_3.out BK305.out (by decide)) (fun _ hk => hk.2) (.string ((rd_T122 l0 x9_1).f0))) (fun _ hk => hk.2) (.int .u32 ((rd_T122 l0 x9_1).f1))) (fun _ hk => hk.2) (.string ((rd_T122 l0 x9_1).f2))) (fun _ hk => trivial))); (case aS => exact (below_size (by repeat (first | (with_reducible first | exact HB.out | apply below_alloc | apply pw_below_drewN | apply below_drew1 | refine below_set ?_ GE305.out) | exact HB.out)))); (case aL => have := LMc7.out; omega); intro v307 w10 ho hb hg hat; rw [← Ny306.out] at ho; have n0_ := Aside0.mk (blk_grown (g := gb305) (o := .cells #[.string ((rd_T122 l0 x9_1).f0), .int .u32 ((rd_T122 l0 x9_1).f1), .string ((rd_T122 l0 x9_1).f2)] 122 (0, 0)) (by (with_reducible repeat (first | refine blk_drewN ?_ _ | refine blk_drew ?_ | refine blk_alloc ?_ _)); refine blk_put (cs := #[.string ((rd_T122 l0 x9_1).f0), .int .u32 ((rd_T122 l0 x9_1).f1), .string (⟨#[]⟩ : ByteArray)]) ?_ 2 _ rfl; (with_reducible repeat (first | refine blk_drewN ?_ _ | refine blk_drew ?_ | refine blk_alloc ?_ _)); refine blk_put (cs := #[.string ((rd_T122 l0 x9_1).f0), .int .u32 0, .string (⟨#[]⟩ : ByteArray)]) ?_ 1 _ rfl; (with_reducible repeat (first | refine blk_drewN ?_ _ | refine blk_drew ?_ | refine blk_alloc ?_ _)); refine blk_put (cs := #[.string (⟨#[]⟩ : ByteArray), .int .u32 0, .string (⟨#[]⟩ : ByteArray)]) ?_ 0 _ rfl; (with_reducible repeat (first | refine blk_drewN ?_ _ | refine blk_drew ?_ | refine blk_alloc ?_ _)); exact BK305.out) hg (Kd.R_ne HO_3.out BK305.out (by decide))); have n1_ := Aside0.mk (hb); have n2_ := Aside0.mk (ho); clear BK305; clear HB; clear HO_3; have BK305 := n0_; have HB := n1_; have HO308 := n2_; clear n0_ n1_ n2_; clear ho hb hg hat))
       go_roundg k1
       case measure => have := HK1.out; omega
       case rel => exact ⟨(y306), (wrap64 (x9_1 + 1)), (by first | rfl | (simp; done) | (simp [*]; done)), H', ⟨by have := HK1.out; omega⟩, ⟨by (with_reducible repeat (first | apply Kd.R_alloc | apply Kd.R_drewN | apply Kd.R_drew)); exact HO308.out⟩, ⟨by repeat (first | (with_reducible first | exact HB.out | apply below_alloc | apply pw_below_drewN | apply below_drew1 | refine below_set ?_ GE305.out) | exact HB.out)⟩⟩
      ·rw [if_neg c7] at H
       exact absurd H (by simp)
     ·rw [if_neg c6] at H
      exact absurd H (by simp)
    ·rw [if_neg c5] at H
     exact absurd H (by simp)
   ·rw [if_neg c4] at H
    have c4b0 : decide (x9_1 < (l0.length : Int)) = false := decide_eq_false c4
    clear c4
    obtain rfl := Option.some.inj H
    go_wp2
    go_ret
    exact ⟨_, by first | rfl | (simp [errW_none, errW_some] <;> rfl) | (simp [*, errW_none, errW_some] <;> rfl), by (with_reducible repeat (first | apply Kd.R_alloc | apply Kd.R_drewN | apply Kd.R_drew)); exact HO_3.out, by repeat (first | (with_reducible first | exact HB.out | apply below_alloc | apply pw_below_drewN | apply below_drew1) | exact HB.out)⟩
def stringslite_HasSuffix.f (a0 : ByteArray) (a1 : ByteArray) : Option (Bool) := if (a0.size : Int) ≥ (a1.size : Int) then (if 0 ≤ (wrap64 ((a0.size : Int) - (a1.size : Int))) then (if (wrap64 ((a0.size : Int) - (a1.size : Int))) ≤ (a0.size : Int) then (some ((a0.extract ((wrap64 ((a0.size : Int) - (a1.size : Int))) : Int).toNat a0.size).toList == a1.toList)) else (none)) else (none)) else (some false)
def strings_HasSuffix.f (a0 : ByteArray) (a1 : ByteArray) : Option (Bool) := (stringslite_HasSuffix.f a0 a1).bind fun t317 => (some t317)
def IsS135 (w0 W : World) (g : Nat) (f0 : List Int) (f1 : Int) (f2 : Int) : Prop := ∃ A0 c0, W.heap[g]? = some (.cells #[.slice A0 f0.length c0, .int .i64 f1, .int .i8 f2] 135 (0, 0)) ∧ w0.heap.size ≤ g ∧ Kd.C (Kd.int .u8) w0 A0 f0.length f0
theorem IsS135.grown {w0 W : World} {g : Nat} {f0 : List Int} {f1 : Int} {f2 : Int} {W1 : World} {row : Option Nat} (h : IsS135 w0 W g f0 f1 f2) (hw : W.grownBy W1 row) (hne : some g ≠ row) : IsS135 w0 W1 g f0 f1 f2 := by
 obtain ⟨A0, c0, hb, hg, hr0⟩ := h
 exact ⟨A0, c0, blk_grown hb hw hne, hg, hr0⟩
theorem IsS135.fresh {w0 W : World} {g : Nat} {f0 : List Int} {f1 : Int} {f2 : Int} (h : IsS135 w0 W g f0 f1 f2) : ∀ k, W.heap.size ≤ k → k ≠ g := by
 obtain ⟨A0, c0, hb, hg, hr0⟩ := h
 exact Kd.freshB hb
theorem IsS135.kept {w0 W : World} {g : Nat} {f0 : List Int} {f1 : Int} {f2 : Int} {W1 : World} {S : Nat → Prop} (h : IsS135 w0 W g f0 f1 f2) (hk : Kept W W1 S) (hne : ¬ S g) : IsS135 w0 W1 g f0 f1 f2 := by
 obtain ⟨A0, c0, hb, hg, hr0⟩ := h
 exact ⟨A0, c0, blk_kept hb hk hne, hg, hr0⟩
theorem IsS135.below {w0 W : World} {g : Nat} {f0 : List Int} {f1 : Int} {f2 : Int} {W1 : World} (h : IsS135 w0 W g f0 f1 f2) (hw : Below W.heap.size W W1) : IsS135 w0 W1 g f0 f1 f2 := h.grown (grown_of_below hw none) (by simp)
theorem IsS135.alloc {w0 W : World} {g : Nat} {f0 : List Int} {f1 : Int} {f2 : Int} (h : IsS135 w0 W g f0 f1 f2) (o : Obj) : IsS135 w0 (W.alloc o) g f0 f1 f2 := h.below (below_alloc (Below.refl _ _) o)
theorem IsS135.drewN {w0 W : World} {g : Nat} {f0 : List Int} {f1 : Int} {f2 : Int} (h : IsS135 w0 W g f0 f1 f2) (m : Nat) : IsS135 w0 (W.drewN m) g f0 f1 f2 := h
theorem IsS135.drew {w0 W : World} {g : Nat} {f0 : List Int} {f1 : Int} {f2 : Int} (h : IsS135 w0 W g f0 f1 f2) : IsS135 w0 W.drew g f0 f1 f2 := h
theorem IsS135.at_ {w0 W : World} {g : Nat} {f0 : List Int} {f1 : Int} {f2 : Int} {w' : World} {m : Nat} (hq : W.drewN m = w') (h : IsS135 w0 W g f0 f1 f2) : IsS135 w0 w' g f0 f1 f2 := by subst hq; exact IsS135.drewN h m
theorem IsS135.apart {w0 W : World} {g : Nat} {f0 : List Int} {f1 : Int} {f2 : Int} {α : Type} {d : Kd α} {e : Nat} {base : Nat} {ok : Nat → Prop} {v : Value} {xs : List α} (h : IsS135 w0 W g f0 f1 f2) (ho : d.R e W base ok v xs) (ht : ∀ q, q ∈ e :: d.E → q ≠ 135) : d.R e W base (fun k => ok k ∧ k ≠ g) v xs := by
 obtain ⟨A0, c0, hb, hg, hr0⟩ := h
 exact Kd.R_types ho hb ht
theorem IsS135.own_ne {w0 W : World} {g : Nat} {f0 : List Int} {f1 : Int} {f2 : Int} {α : Type} {d : Kd α} {e : Nat} {base : Nat} {ok : Nat → Prop} {v : Value} {xs : List α} (h : IsS135 w0 W g f0 f1 f2) (ho : d.R e W base ok v xs) (ht : e ≠ 135) : some g ≠ v.ownBlock := by
 obtain ⟨A0, c0, hb, hg, hr0⟩ := h
 exact Kd.R_ne ho hb ht
theorem IsS135.lt {w0 W : World} {g : Nat} {f0 : List Int} {f1 : Int} {f2 : Int} (h : IsS135 w0 W g f0 f1 f2) : g < W.heap.size := by
 obtain ⟨A0, c0, hb, hg, hr0⟩ := h
 exact blk_lt hb
theorem IsS135.ge {w0 W : World} {g : Nat} {f0 : List Int} {f1 : Int} {f2 : Int} (h : IsS135 w0 W g f0 f1 f2) : w0.heap.size ≤ g := by
 obtain ⟨A0, c0, hb, hg, hr0⟩ := h
 exact hg
def bytes_Buffer_Len.f (s0_0 : List Int) (s0_1 : Int) (s0_2 : Int) : Option (Int × Int × Int) := some (wrap64 ((s0_0.length : Int) - s0_1), s0_1, s0_2)
def sumdbnote_bePutUint32.f (l0 : List Int) (a1 : Int) : Option (List Int) := if 0 < (l0.length : Int) then (if 1 < (l0.length : Int) then (if 2 < (l0.length : Int) then (if 3 < (l0.length : Int) then (some ((((l0.set (0 : Int).toNat ((a1 / 16777216) % 256)).set (1 : Int).toNat ((a1 / 65536) % 256)).set (2 : Int).toNat ((a1 / 256) % 256)).set (3 : Int).toNat ((a1) % 256))) else (none)) else (none)) else (none)) else (none)
def impl_out.l0 : Nat → List (S122) → List (S82) → Int → Int → Option ((List (S122)))
 | 0, _, _, _, _ => none
 | k + 1, x3, x7, x8, x9 => if x9 < x8 then (if 0 ≤ x9 then (if x9 < (x7.length : Int) then (if x3.length < 3518437208883 then (impl_out.l0 k (x3 ++ [(⟨(rd_T82 x7 x9).f0, (rd_T82 x7 x9).f1, (rd_T82 x7 x9).f2⟩ : S122)]) x7 x8 (wrap64 (x9 + 1))) else (none)) else (none)) else (none)) else (some x3)
def impl_out.f (k : Nat) (l0 : List (S82)) : Option ((List (S122))) := impl_out.l0 k (([] : List (S122))) l0 (l0.length : Int) 0
theorem impl_out.mono_l : ∀ k, (∀ y0 y1 y2 y3, LeO (impl_out.l0 k y0 y1 y2 y3) (impl_out.l0 (k + 1) y0 y1 y2 y3))
 | 0 => fun _ _ _ _ r h => by simp [impl_out.l0] at h
 | k + 1 => by
  have ih0 := impl_out.mono_l k
  ·intro y0 y1 y2 y3
   unfold impl_out.l0
   repeat' first
   | (with_reducible exact ih0 _ _ _ _)
   | (with_reducible exact LeO.refl _)
   | (with_reducible exact LeO.none _)
   | (with_reducible refine LeO.ite ?_ ?_)
   | (with_reducible refine LeO.bind ?_ (fun _ => ?_))
   | exact ih0 _ _ _ _
   | exact LeO.none _
   | refine LeO.ite ?_ ?_
   | refine LeO.bind ?_ (fun _ => ?_)
theorem impl_out.mono : ∀ a0 k, LeO (impl_out.f k a0) (impl_out.f (k + 1) a0) := by
 intro a0 k
 have ih0 := impl_out.mono_l k
 unfold impl_out.f
 repeat' first
   | (with_reducible exact ih0 _ _ _ _)
   | (with_reducible exact LeO.refl _)
   | (with_reducible exact LeO.none _)
   | (with_reducible refine LeO.ite ?_ ?_)
   | (with_reducible refine LeO.bind ?_ (fun _ => ?_))
   | exact ih0 _ _ _ _
   | exact LeO.none _
   | refine LeO.ite ?_ ?_
   | refine LeO.bind ?_ (fun _ => ?_)
set_option maxHeartbeats 8000000 in
set_option maxRecDepth 100000 in
theorem impl_out.calls (k : Nat) (A0 : Option Addr) (c0 : Nat) (l0 : List (S82)) (r : List (S122)) (w : World) (hr0 : Kd.C k82 w A0 l0.length l0) (hc0 : l0.length ≤ c0) (h : impl_out.f k l0 = some r) :
  Calls Tryz.prog 29 #[.slice A0 l0.length c0] w fun e w' => ∃ v0_ : Value, e = .returned (v0_) ∧ Kd.R k122 122 w' w.heap.size (fun _ => True) v0_ r ∧ Below w.heap.size w w' := by
 have hu82 := Tryz.underlying82
 have hu122 := Tryz.underlying122
 have HR0 := Aside0.mk hr0
 have HC0 := Aside0.mk hc0
 clear hr0 hc0
 have HB := Aside0.mk (Below.refl w.heap.size w)
 have H : (impl_out.l0 k (([] : List (S122))) l0 (l0.length : Int) 0) = some r := h
 clear h
 obtain ⟨y325, hy325⟩ : ∃ y_ : List (S122), y_ = (([] : List (S122))) := ⟨_, rfl⟩
 replace H : (impl_out.l0 k y325 l0 (l0.length : Int) 0) = some r := by first | (rw [hy325]; with_reducible exact H) | (have H2_ := (Option.bind_some _ _).symm.trans H; rw [hy325]; with_reducible exact H2_) | (have H2_ := (Option.bind_some _ _).symm.trans H; with_reducible exact H2_) | with_reducible exact H | (rw [hy325]; exact H) | exact H
 have Ny325 := Aside0.mk hy325
 clear hy325
 have H' := Aside0.mk H
 clear H
 go_enter Tryz.func29, Tryz.ntmps29
 go_wp2_with (first | ((with_reducible refine gate_dst (N := 6) rfl ?_); refine Kd.R_lit k122 _ 122 ?hg (N := 6) ?hd (xs := ([] : List (S122))) (inner := []) (ok := fun _ => True) (okp := fun _ => True) ?hr ?hp (fun _ hk => hk) trivial (Below.refl _ _) (Nat.le_refl _) (by simp) ?_; (case hd => rfl); (case hg => rfl); (case hr => first | (go_simp; done) | (go_simp; rfl)); (case hp => exact (Reps.none _ _)); intro v326 w2 ho3 hb hg_ hnew_; clear hg_ hnew_; (first | rw [← Ny325.out] at ho3 | (simp only [Int.reduceToNat] at ho3; rw [← Ny325.out] at ho3)); have n0_ := Aside0.mk (Kd.R_lower ho3 (below_size (by repeat (first | (with_reducible first | exact HB.out | apply below_alloc | apply pw_below_drewN | apply below_drew1) | exact HB.out)))); have n1_ := Aside0.mk (below_step (by repeat (first | (with_reducible first | exact HB.out | apply below_alloc | apply pw_below_drewN | apply below_drew1) | exact HB.out)) hb); clear HB; have HO327 := n0_; have HB := n1_; clear n0_ n1_; clear hb ho3))
 go_loopg [3, 9] k (fun kq v3 v9 w' => ∃ (x3_1 : List (S122)) (x9_1 : Int), v9 = .int .i64 x9_1 ∧ Aside0 (impl_out.l0 kq x3_1 l0 (l0.length : Int) x9_1 = some r) ∧ Aside0 (kq ≤ k) ∧ Aside0 (Kd.R k122 122 w' w.heap.size (fun _ => True) v3 x3_1) ∧ Aside0 (Below w.heap.size w w'))
 case atStart => exact ⟨(y325), (0), (by first | rfl | (simp; done) | (simp [*]; done)), H', ⟨Nat.le_refl _⟩, ⟨by (with_reducible repeat (first | apply Kd.R_alloc | apply Kd.R_drewN | apply Kd.R_drew)); exact HO327.out⟩, ⟨by repeat (first | (with_reducible first | exact HB.out | apply below_alloc | apply pw_below_drewN | apply below_drew1) | exact HB.out)⟩⟩
 case round =>
  clear H'
  try clear c2
  try clear p2
  obtain ⟨x3_1, x9_1, rfl, HA, HK1, HO_3, HB⟩ := hrel
  cases gk with
  | zero => exact absurd HA.out (by simp [impl_out.l0])
  | succ k1 =>
   have H := HA.out
   clear HA
   simp only [impl_out.l0] at H
   by_cases c4 : x9_1 < (l0.length : Int)
   ·rw [if_pos c4] at H
    have c4b0 : decide (x9_1 < (l0.length : Int)) = true := decide_eq_true c4
    clear c4
    by_cases c5 : 0 ≤ x9_1
    ·rw [if_pos c5] at H
     have c5b0 : decide (0 ≤ x9_1) = true := decide_eq_true c5
     clear c5
     by_cases c6 : x9_1 < (l0.length : Int)
     ·rw [if_pos c6] at H
      have c6b0 : decide (x9_1 < (l0.length : Int)) = true := decide_eq_true c6
      clear c6
      by_cases c7 : x3_1.length < 3518437208883
      ·rw [if_pos c7] at H
       have LMc7 := Aside0.mk c7
       clear c7
       obtain ⟨y330, hy330⟩ : ∃ y_ : List (S122), y_ = (x3_1 ++ [(⟨(rd_T82 l0 x9_1).f0, (rd_T82 l0 x9_1).f1, (rd_T82 l0 x9_1).f2⟩ : S122)]) := ⟨_, rfl⟩
       replace H : (impl_out.l0 k1 y330 l0 (l0.length : Int) (wrap64 (x9_1 + 1))) = some r := by first | (rw [hy330]; with_reducible exact H) | (have H2_ := (Option.bind_some _ _).symm.trans H; rw [hy330]; with_reducible exact H2_) | (have H2_ := (Option.bind_some _ _).symm.trans H; with_reducible exact H2_) | with_reducible exact H | (rw [hy330]; exact H) | exact H
       have Ny330 := Aside0.mk hy330
       clear hy330
       have H' := Aside0.mk H
       clear H
       have p328 : 0 ≤ (x9_1 : Int) := of_decide_eq_true (by first | (with_reducible assumption) | assumption)
       have q328 : x9_1 < (l0.length : Int) := of_decide_eq_true (by first | (with_reducible assumption) | assumption)
       obtain ⟨ad328, e328, hx328_0, hx328_1, hx328_2⟩ := at_T82 HR0.out x9_1 p328 q328
       cases e328
       replace hx328_0 := (HB.out.cell (World.block_lt_of_cell? w _ hx328_0)).trans hx328_0
       replace hx328_1 := (HB.out.cell (World.block_lt_of_cell? w _ hx328_1)).trans hx328_1
       replace hx328_2 := (HB.out.cell (World.block_lt_of_cell? w _ hx328_2)).trans hx328_2
       replace p328 := eq_true p328
       replace q328 := eq_true q328
       go_wp2_with (first | ((with_reducible refine gate_dst (N := 5) rfl ?_); refine box_event ?hg (N := 5) ?hd (cs := #[.string (⟨#[]⟩ : ByteArray), .int .u32 0, .string (⟨#[]⟩ : ByteArray)]) (t := 82) ?hr ?_; (case hd => rfl); (case hg => rfl); (case hr => first | (go_simp; done) | (go_simp; rfl)); intro gb329 hg w8 hbox hb; have n0_ := Aside0.mk (Kd.R_below (by (with_reducible repeat (first | apply Kd.R_alloc | apply Kd.R_drewN | apply Kd.R_drew)); exact HO_3.out) hb); have n1_ := Aside0.mk (below_step (by repeat (first | (with_reducible first | exact HB.out | apply below_alloc | apply pw_below_drewN | apply below_drew1) | exact HB.out)) hb); have n2_ := Aside0.mk (hbox); have n3_ := Aside0.mk ((by rw [hg]; exact (below_size (by repeat (first | (with_reducible first | exact HB.out | apply below_alloc | apply pw_below_drewN | apply below_drew1) | exact HB.out))) : w.heap.size ≤ gb329)); have n4_ := Aside0.mk ((by rw [hg]; exact (below_size (by repeat (first | (with_reducible first | exact HB.out | apply below_alloc | apply pw_below_drewN | apply below_drew1) | exact HB.out))) : w.heap.size ≤ gb329)); clear HO_3; clear HB; have HO_3 := n0_; have HB := n1_; have BK329 := n2_; have GW329 := n3_; have GE329 := n4_; clear n0_ n1_ n2_ n3_ n4_; clear hb hbox hg; have hcz9_0 : w8.cell? ⟨gb329, 0, none⟩ = some (.string (⟨#[]⟩ : ByteArray)) := (blk_cell BK329.out 0).trans rfl; have hcz9_1 : w8.cell? ⟨gb329, 1, none⟩ = some (.int .u32 0) := (blk_cell BK329.out 1).trans rfl; have hcz9_2 : w8.cell? ⟨gb329, 2, none⟩ = some (.string (⟨#[]⟩ : ByteArray)) := (blk_cell BK329.out 2).trans rfl; have hfz9_0 := blk_frozen BK329.out 0; have hfz9_1 := blk_frozen BK329.out 1; have hfz9_2 := blk_frozen BK329.out 2) | ((with_reducible refine gate_builtin (b := .append) (xs := #[.tmp 13, .tmp 21]) rfl ?_); at_builtin; refine Kd.R_append k122 (w0 := w) w.heap.size rfl (.tmp 13) (.tmp 21) 91 122 (.agg #[(.string ⟨#[]⟩), (.int .u32 0), (.string ⟨#[]⟩)]) 40 rfl Tryz.underlying91 info122 rfl (by decide) (by omega) u3 x3_1 (⟨(rd_T82 l0 x9_1).f0, (rd_T82 l0 x9_1).f1, (rd_T82 l0 x9_1).f2⟩ : S122) [.string ((rd_T82 l0 x9_1).f0), .int .u32 ((rd_T82 l0 x9_1).f1), .string ((rd_T82 l0 x9_1).f2)] (fun _ => True) (fun _ => False) rfl (by first | (go_simp; done) | (go_simp; rfl)) ?aP (fun _ hk => hk.elim) ?aF ?aO ?aB ?aS ?aL ?_; (case aP => exact k122_mkM _ _ _ (⟨(rd_T82 l0 x9_1).f0, (rd_T82 l0 x9_1).f1, (rd_T82 l0 x9_1).f2⟩ : S122)); (case aB => exact (by repeat (first | (with_reducible first | exact HB.out | apply below_alloc | apply pw_below_drewN | apply below_drew1 | refine below_set ?_ GE329.out) | exact HB.out))); (case aF => exact (fun _ _ => trivial)); (case aO => exact (by (with_reducible repeat (first | apply Kd.R_alloc | apply Kd.R_drewN | apply Kd.R_drew)); exact Kd.R_mono (Kd.R_far (p := ⟨gb329, 2, none⟩) (Kd.R_far (p := ⟨gb329, 1, none⟩) (Kd.R_far (p := ⟨gb329, 0, none⟩) (Kd.R_types HO_3.out BK329.out (by decide)) (fun _ hk => hk.2) (.string ((rd_T82 l0 x9_1).f0))) (fun _ hk => hk.2) (.int .u32 ((rd_T82 l0 x9_1).f1))) (fun _ hk => hk.2) (.string ((rd_T82 l0 x9_1).f2))) (fun _ hk => trivial))); (case aS => exact (below_size (by repeat (first | (with_reducible first | exact HB.out | apply below_alloc | apply pw_below_drewN | apply below_drew1 | refine below_set ?_ GE329.out) | exact HB.out)))); (case aL => have := LMc7.out; omega); intro v331 w10 ho hb hg hat; rw [← Ny330.out] at ho; have n0_ := Aside0.mk (blk_grown (g := gb329) (o := .cells #[.string ((rd_T82 l0 x9_1).f0), .int .u32 ((rd_T82 l0 x9_1).f1), .string ((rd_T82 l0 x9_1).f2)] 82 (0, 0)) (by (with_reducible repeat (first | refine blk_drewN ?_ _ | refine blk_drew ?_ | refine blk_alloc ?_ _)); refine blk_put (cs := #[.string ((rd_T82 l0 x9_1).f0), .int .u32 ((rd_T82 l0 x9_1).f1), .string (⟨#[]⟩ : ByteArray)]) ?_ 2 _ rfl; (with_reducible repeat (first | refine blk_drewN ?_ _ | refine blk_drew ?_ | refine blk_alloc ?_ _)); refine blk_put (cs := #[.string ((rd_T82 l0 x9_1).f0), .int .u32 0, .string (⟨#[]⟩ : ByteArray)]) ?_ 1 _ rfl; (with_reducible repeat (first | refine blk_drewN ?_ _ | refine blk_drew ?_ | refine blk_alloc ?_ _)); refine blk_put (cs := #[.string (⟨#[]⟩ : ByteArray), .int .u32 0, .string (⟨#[]⟩ : ByteArray)]) ?_ 0 _ rfl; (with_reducible repeat (first | refine blk_drewN ?_ _ | refine blk_drew ?_ | refine blk_alloc ?_ _)); exact BK329.out) hg (Kd.R_ne HO_3.out BK329.out (by decide))); have n1_ := Aside0.mk (hb); have n2_ := Aside0.mk (ho); clear BK329; clear HB; clear HO_3; have BK329 := n0_; have HB := n1_; have HO332 := n2_; clear n0_ n1_ n2_; clear ho hb hg hat))
       go_roundg k1
       case measure => have := HK1.out; omega
       case rel => exact ⟨(y330), (wrap64 (x9_1 + 1)), (by first | rfl | (simp; done) | (simp [*]; done)), H', ⟨by have := HK1.out; omega⟩, ⟨by (with_reducible repeat (first | apply Kd.R_alloc | apply Kd.R_drewN | apply Kd.R_drew)); exact HO332.out⟩, ⟨by repeat (first | (with_reducible first | exact HB.out | apply below_alloc | apply pw_below_drewN | apply below_drew1 | refine below_set ?_ GE329.out) | exact HB.out)⟩⟩
      ·rw [if_neg c7] at H
       exact absurd H (by simp)
     ·rw [if_neg c6] at H
      exact absurd H (by simp)
    ·rw [if_neg c5] at H
     exact absurd H (by simp)
   ·rw [if_neg c4] at H
    have c4b0 : decide (x9_1 < (l0.length : Int)) = false := decide_eq_false c4
    clear c4
    obtain rfl := Option.some.inj H
    go_wp2
    go_ret
    exact ⟨_, by first | rfl | (simp [errW_none, errW_some] <;> rfl) | (simp [*, errW_none, errW_some] <;> rfl), by (with_reducible repeat (first | apply Kd.R_alloc | apply Kd.R_drewN | apply Kd.R_drew)); exact HO_3.out, by repeat (first | (with_reducible first | exact HB.out | apply below_alloc | apply pw_below_drewN | apply below_drew1) | exact HB.out)⟩
def spec_SameSigs.l0 : Nat → List (S49) → List (S49) → Int → Int → Option (Bool)
 | 0, _, _, _, _ => none
 | k + 1, x0, x1, x12, x13 => if x13 < x12 then (if 0 ≤ x13 then (if x13 < (x0.length : Int) then (if x13 < (x1.length : Int) then (if (!((((rd_T49 x0 x13).f0).toList) == (((rd_T49 x1 x13).f0).toList)) || (!(((rd_T49 x0 x13).f1) == ((rd_T49 x1 x13).f1)) || (!((((rd_T49 x0 x13).f2).toList) == (((rd_T49 x1 x13).f2).toList))))) = true then (some false) else (spec_SameSigs.l0 k x0 x1 x12 (wrap64 (x13 + 1)))) else (none)) else (none)) else (none)) else (some true)
def spec_SameSigs.f (k : Nat) (l0 : List (S49)) (l1 : List (S49)) : Option (Bool) := if (l0.length : Int) = (l1.length : Int) then (spec_SameSigs.l0 k l0 l1 (l0.length : Int) 0) else (some false)
theorem spec_SameSigs.mono_l : ∀ k, (∀ y0 y1 y2 y3, LeO (spec_SameSigs.l0 k y0 y1 y2 y3) (spec_SameSigs.l0 (k + 1) y0 y1 y2 y3))
 | 0 => fun _ _ _ _ r h => by simp [spec_SameSigs.l0] at h
 | k + 1 => by
  have ih0 := spec_SameSigs.mono_l k
  ·intro y0 y1 y2 y3
   unfold spec_SameSigs.l0
   repeat' first
   | (with_reducible exact ih0 _ _ _ _)
   | (with_reducible exact LeO.refl _)
   | (with_reducible exact LeO.none _)
   | (with_reducible refine LeO.ite ?_ ?_)
   | (with_reducible refine LeO.bind ?_ (fun _ => ?_))
   | exact ih0 _ _ _ _
   | exact LeO.none _
   | refine LeO.ite ?_ ?_
   | refine LeO.bind ?_ (fun _ => ?_)
theorem spec_SameSigs.mono : ∀ a0 a1 k, LeO (spec_SameSigs.f k a0 a1) (spec_SameSigs.f (k + 1) a0 a1) := by
 intro a0 a1 k
 have ih0 := spec_SameSigs.mono_l k
 unfold spec_SameSigs.f
 repeat' first
   | (with_reducible exact ih0 _ _ _ _)
   | (with_reducible exact LeO.refl _)
   | (with_reducible exact LeO.none _)
   | (with_reducible refine LeO.ite ?_ ?_)
   | (with_reducible refine LeO.bind ?_ (fun _ => ?_))
   | exact ih0 _ _ _ _
   | exact LeO.none _
   | refine LeO.ite ?_ ?_
   | refine LeO.bind ?_ (fun _ => ?_)
set_option maxHeartbeats 8000000 in
set_option maxRecDepth 100000 in
theorem spec_SameSigs.calls (k : Nat) (A0 : Option Addr) (c0 : Nat) (l0 : List (S49)) (A1 : Option Addr) (c1 : Nat) (l1 : List (S49)) (r : Bool) (w : World) (hr0 : Kd.C k49 w A0 l0.length l0) (hc0 : l0.length ≤ c0) (hr1 : Kd.C k49 w A1 l1.length l1) (hc1 : l1.length ≤ c1) (h : spec_SameSigs.f k l0 l1 = some r) :
  Calls Tryz.prog 13 #[.slice A0 l0.length c0, .slice A1 l1.length c1] w fun e w' => e = .returned (.bool r) ∧ Drawn0 w w' := by
 have hu49 := Tryz.underlying49
 have HR0 := Aside0.mk hr0
 have HC0 := Aside0.mk hc0
 clear hr0 hc0
 have HR1 := Aside0.mk hr1
 have HC1 := Aside0.mk hc1
 clear hr1 hc1
 have H : (if (l0.length : Int) = (l1.length : Int) then (spec_SameSigs.l0 k l0 l1 (l0.length : Int) 0) else (some false)) = some r := h
 clear h
 by_cases c3 : (l0.length : Int) = (l1.length : Int)
 ·rw [if_pos c3] at H
  have c3b0 : ((l0.length : Int) == (l1.length : Int)) = true := beq_iff_eq.mpr c3
  have c3b1 : ((l0.length : Int) != (l1.length : Int)) = false := bne_eq_false_iff_eq.mpr c3
  have c3b2 : (l0.length == l1.length) = true := by first | simpa using c3 | (simp at c3 ⊢; omega)
  clear c3
  have H' := Aside0.mk H
  clear H
  go_enter Tryz.func13, Tryz.ntmps13
  go_wp2
  repeat (go_quiet (fail); try go_wp2)
  go_loopg [13] k (fun kq v13 w' => ∃ (x13_1 : Int), v13 = .int .i64 x13_1 ∧ Aside0 (spec_SameSigs.l0 kq l0 l1 (l0.length : Int) x13_1 = some r) ∧ Aside0 (kq ≤ k) ∧ Drawn0 w w')
  case atStart => exact ⟨(0), (by first | rfl | (simp; done) | (simp [*]; done)), H', ⟨Nat.le_refl _⟩, by repeat (first | exact Drawn0.refl _ | apply Drawn0.step)⟩
  case round =>
   clear H'
   try clear c1
   try clear p2
   try clear c3
   try clear c3b0
   try clear c3b1
   try clear c3b2
   obtain ⟨x13_1, rfl, HA, HK1, ⟨m1, rfl⟩⟩ := hrel
   cases gk with
   | zero => exact absurd HA.out (by simp [spec_SameSigs.l0])
   | succ k1 =>
    have H := HA.out
    clear HA
    simp only [spec_SameSigs.l0] at H
    by_cases c4 : x13_1 < (l0.length : Int)
    ·rw [if_pos c4] at H
     have c4b0 : decide (x13_1 < (l0.length : Int)) = true := decide_eq_true c4
     clear c4
     by_cases c5 : 0 ≤ x13_1
     ·rw [if_pos c5] at H
      have c5b0 : decide (0 ≤ x13_1) = true := decide_eq_true c5
      clear c5
      by_cases c6 : x13_1 < (l0.length : Int)
      ·rw [if_pos c6] at H
       have c6b0 : decide (x13_1 < (l0.length : Int)) = true := decide_eq_true c6
       clear c6
       by_cases c7 : x13_1 < (l1.length : Int)
       ·rw [if_pos c7] at H
        have c7b0 : decide (x13_1 < (l1.length : Int)) = true := decide_eq_true c7
        clear c7
        by_cases c8 : (!((((rd_T49 l0 x13_1).f0).toList) == (((rd_T49 l1 x13_1).f0).toList)) || (!(((rd_T49 l0 x13_1).f1) == ((rd_T49 l1 x13_1).f1)) || (!((((rd_T49 l0 x13_1).f2).toList) == (((rd_T49 l1 x13_1).f2).toList))))) = true
        ·rw [if_pos c8] at H
         have c8b0 : (!((((rd_T49 l0 x13_1).f0).toList) == (((rd_T49 l1 x13_1).f0).toList)) || (!(((rd_T49 l0 x13_1).f1) == ((rd_T49 l1 x13_1).f1)) || (!((((rd_T49 l0 x13_1).f2).toList) == (((rd_T49 l1 x13_1).f2).toList))))) = true := c8
         clear c8
         obtain rfl := Option.some.inj H
         have p334 : 0 ≤ (x13_1 : Int) := of_decide_eq_true (by first | (with_reducible assumption) | assumption)
         have q334 : x13_1 < (l0.length : Int) := of_decide_eq_true (by first | (with_reducible assumption) | assumption)
         obtain ⟨ad334, e334, hx334_0, hx334_1, hx334_2⟩ := at_T49 HR0.out x13_1 p334 q334
         cases e334
         replace p334 := eq_true p334
         replace q334 := eq_true q334
         have p335 : 0 ≤ (x13_1 : Int) := of_decide_eq_true (by first | (with_reducible assumption) | assumption)
         have q335 : x13_1 < (l1.length : Int) := of_decide_eq_true (by first | (with_reducible assumption) | assumption)
         obtain ⟨ad335, e335, hx335_0, hx335_1, hx335_2⟩ := at_T49 HR1.out x13_1 p335 q335
         cases e335
         replace p335 := eq_true p335
         replace q335 := eq_true q335
         go_wp2
         repeat (go_quiet (fail); try go_wp2)
         go_ret
         exact ⟨by first | rfl | (simp; done) | (simp [*]; done), by repeat (first | exact Drawn0.refl _ | apply Drawn0.step)⟩
        ·rw [if_neg c8] at H
         have c8b0 : (!((((rd_T49 l0 x13_1).f0).toList) == (((rd_T49 l1 x13_1).f0).toList)) || (!(((rd_T49 l0 x13_1).f1) == ((rd_T49 l1 x13_1).f1)) || (!((((rd_T49 l0 x13_1).f2).toList) == (((rd_T49 l1 x13_1).f2).toList))))) = false := by simpa using c8
         clear c8
         have H' := Aside0.mk H
         clear H
         have p334 : 0 ≤ (x13_1 : Int) := of_decide_eq_true (by first | (with_reducible assumption) | assumption)
         have q334 : x13_1 < (l0.length : Int) := of_decide_eq_true (by first | (with_reducible assumption) | assumption)
         obtain ⟨ad334, e334, hx334_0, hx334_1, hx334_2⟩ := at_T49 HR0.out x13_1 p334 q334
         cases e334
         replace p334 := eq_true p334
         replace q334 := eq_true q334
         have p335 : 0 ≤ (x13_1 : Int) := of_decide_eq_true (by first | (with_reducible assumption) | assumption)
         have q335 : x13_1 < (l1.length : Int) := of_decide_eq_true (by first | (with_reducible assumption) | assumption)
         obtain ⟨ad335, e335, hx335_0, hx335_1, hx335_2⟩ := at_T49 HR1.out x13_1 p335 q335
         cases e335
         replace p335 := eq_true p335
         replace q335 := eq_true q335
         go_wp2
         repeat (go_quiet (fail); try go_wp2)
         go_roundg k1
         case measure => have := HK1.out; omega
         case rel => exact ⟨(wrap64 (x13_1 + 1)), (by first | rfl | (simp; done) | (simp [*]; done)), H', ⟨by have := HK1.out; omega⟩, by repeat (first | exact Drawn0.refl _ | apply Drawn0.step)⟩
       ·rw [if_neg c7] at H
        exact absurd H (by simp)
      ·rw [if_neg c6] at H
       exact absurd H (by simp)
     ·rw [if_neg c5] at H
      exact absurd H (by simp)
    ·rw [if_neg c4] at H
     have c4b0 : decide (x13_1 < (l0.length : Int)) = false := decide_eq_false c4
     clear c4
     obtain rfl := Option.some.inj H
     go_wp2
     repeat (go_quiet (fail); try go_wp2)
     go_ret
     exact ⟨by first | rfl | (simp; done) | (simp [*]; done), by repeat (first | exact Drawn0.refl _ | apply Drawn0.step)⟩
 ·rw [if_neg c3] at H
  have c3b0 : ((l0.length : Int) == (l1.length : Int)) = false := beq_eq_false_iff_ne.mpr c3
  have c3b1 : ((l0.length : Int) != (l1.length : Int)) = true := bne_iff_ne.mpr c3
  have c3b2 : (l0.length == l1.length) = false := by first | simpa using c3 | (simp at c3 ⊢; omega)
  obtain rfl := Option.some.inj H
  go_enter Tryz.func13, Tryz.ntmps13
  go_wp2
  repeat (go_quiet (fail); try go_wp2)
  go_ret
  exact ⟨by first | rfl | (simp; done) | (simp [*]; done), by repeat (first | exact Drawn0.refl _ | apply Drawn0.step)⟩
def laws_sigs.l0 : Nat → List (S49) → List (S82) → Int → Int → Option ((List (S49)))
 | 0, _, _, _, _ => none
 | k + 1, x3, x7, x8, x9 => if x9 < x8 then (if 0 ≤ x9 then (if x9 < (x7.length : Int) then (if x3.length < 3518437208883 then (laws_sigs.l0 k (x3 ++ [(⟨(rd_T82 x7 x9).f0, (rd_T82 x7 x9).f1, (rd_T82 x7 x9).f2⟩ : S49)]) x7 x8 (wrap64 (x9 + 1))) else (none)) else (none)) else (none)) else (some x3)
def laws_sigs.f (k : Nat) (l0 : List (S82)) : Option ((List (S49))) := laws_sigs.l0 k (([] : List (S49))) l0 (l0.length : Int) 0
theorem laws_sigs.mono_l : ∀ k, (∀ y0 y1 y2 y3, LeO (laws_sigs.l0 k y0 y1 y2 y3) (laws_sigs.l0 (k + 1) y0 y1 y2 y3))
 | 0 => fun _ _ _ _ r h => by simp [laws_sigs.l0] at h
 | k + 1 => by
  have ih0 := laws_sigs.mono_l k
  ·intro y0 y1 y2 y3
   unfold laws_sigs.l0
   repeat' first
   | (with_reducible exact ih0 _ _ _ _)
   | (with_reducible exact LeO.refl _)
   | (with_reducible exact LeO.none _)
   | (with_reducible refine LeO.ite ?_ ?_)
   | (with_reducible refine LeO.bind ?_ (fun _ => ?_))
   | exact ih0 _ _ _ _
   | exact LeO.none _
   | refine LeO.ite ?_ ?_
   | refine LeO.bind ?_ (fun _ => ?_)
theorem laws_sigs.mono : ∀ a0 k, LeO (laws_sigs.f k a0) (laws_sigs.f (k + 1) a0) := by
 intro a0 k
 have ih0 := laws_sigs.mono_l k
 unfold laws_sigs.f
 repeat' first
   | (with_reducible exact ih0 _ _ _ _)
   | (with_reducible exact LeO.refl _)
   | (with_reducible exact LeO.none _)
   | (with_reducible refine LeO.ite ?_ ?_)
   | (with_reducible refine LeO.bind ?_ (fun _ => ?_))
   | exact ih0 _ _ _ _
   | exact LeO.none _
   | refine LeO.ite ?_ ?_
   | refine LeO.bind ?_ (fun _ => ?_)
set_option maxHeartbeats 8000000 in
set_option maxRecDepth 100000 in
theorem laws_sigs.calls (k : Nat) (A0 : Option Addr) (c0 : Nat) (l0 : List (S82)) (r : List (S49)) (w : World) (hr0 : Kd.C k82 w A0 l0.length l0) (hc0 : l0.length ≤ c0) (h : laws_sigs.f k l0 = some r) :
  Calls Tryz.prog 14 #[.slice A0 l0.length c0] w fun e w' => ∃ v0_ : Value, e = .returned (v0_) ∧ Kd.R k49 49 w' w.heap.size (fun _ => True) v0_ r ∧ Below w.heap.size w w' := by
 have hu82 := Tryz.underlying82
 have hu49 := Tryz.underlying49
 have HR0 := Aside0.mk hr0
 have HC0 := Aside0.mk hc0
 clear hr0 hc0
 have HB := Aside0.mk (Below.refl w.heap.size w)
 have H : (laws_sigs.l0 k (([] : List (S49))) l0 (l0.length : Int) 0) = some r := h
 clear h
 obtain ⟨y336, hy336⟩ : ∃ y_ : List (S49), y_ = (([] : List (S49))) := ⟨_, rfl⟩
 replace H : (laws_sigs.l0 k y336 l0 (l0.length : Int) 0) = some r := by first | (rw [hy336]; with_reducible exact H) | (have H2_ := (Option.bind_some _ _).symm.trans H; rw [hy336]; with_reducible exact H2_) | (have H2_ := (Option.bind_some _ _).symm.trans H; with_reducible exact H2_) | with_reducible exact H | (rw [hy336]; exact H) | exact H
 have Ny336 := Aside0.mk hy336
 clear hy336
 have H' := Aside0.mk H
 clear H
 go_enter Tryz.func14, Tryz.ntmps14
 go_wp2_with (first | ((with_reducible refine gate_dst (N := 6) rfl ?_); refine Kd.R_lit k49 _ 49 ?hg (N := 6) ?hd (xs := ([] : List (S49))) (inner := []) (ok := fun _ => True) (okp := fun _ => True) ?hr ?hp (fun _ hk => hk) trivial (Below.refl _ _) (Nat.le_refl _) (by simp) ?_; (case hd => rfl); (case hg => rfl); (case hr => first | (go_simp; done) | (go_simp; rfl)); (case hp => exact (Reps.none _ _)); intro v337 w2 ho3 hb hg_ hnew_; clear hg_ hnew_; (first | rw [← Ny336.out] at ho3 | (simp only [Int.reduceToNat] at ho3; rw [← Ny336.out] at ho3)); have n0_ := Aside0.mk (Kd.R_lower ho3 (below_size (by repeat (first | (with_reducible first | exact HB.out | apply below_alloc | apply pw_below_drewN | apply below_drew1) | exact HB.out)))); have n1_ := Aside0.mk (below_step (by repeat (first | (with_reducible first | exact HB.out | apply below_alloc | apply pw_below_drewN | apply below_drew1) | exact HB.out)) hb); clear HB; have HO338 := n0_; have HB := n1_; clear n0_ n1_; clear hb ho3))
 go_loopg [3, 9] k (fun kq v3 v9 w' => ∃ (x3_1 : List (S49)) (x9_1 : Int), v9 = .int .i64 x9_1 ∧ Aside0 (laws_sigs.l0 kq x3_1 l0 (l0.length : Int) x9_1 = some r) ∧ Aside0 (kq ≤ k) ∧ Aside0 (Kd.R k49 49 w' w.heap.size (fun _ => True) v3 x3_1) ∧ Aside0 (Below w.heap.size w w'))
 case atStart => exact ⟨(y336), (0), (by first | rfl | (simp; done) | (simp [*]; done)), H', ⟨Nat.le_refl _⟩, ⟨by (with_reducible repeat (first | apply Kd.R_alloc | apply Kd.R_drewN | apply Kd.R_drew)); exact HO338.out⟩, ⟨by repeat (first | (with_reducible first | exact HB.out | apply below_alloc | apply pw_below_drewN | apply below_drew1) | exact HB.out)⟩⟩
 case round =>
  clear H'
  try clear c1
  try clear p2
  obtain ⟨x3_1, x9_1, rfl, HA, HK1, HO_3, HB⟩ := hrel
  cases gk with
  | zero => exact absurd HA.out (by simp [laws_sigs.l0])
  | succ k1 =>
   have H := HA.out
   clear HA
   simp only [laws_sigs.l0] at H
   by_cases c4 : x9_1 < (l0.length : Int)
   ·rw [if_pos c4] at H
    have c4b0 : decide (x9_1 < (l0.length : Int)) = true := decide_eq_true c4
    clear c4
    by_cases c5 : 0 ≤ x9_1
    ·rw [if_pos c5] at H
     have c5b0 : decide (0 ≤ x9_1) = true := decide_eq_true c5
     clear c5
     by_cases c6 : x9_1 < (l0.length : Int)
     ·rw [if_pos c6] at H
      have c6b0 : decide (x9_1 < (l0.length : Int)) = true := decide_eq_true c6
      clear c6
      by_cases c7 : x3_1.length < 3518437208883
      ·rw [if_pos c7] at H
       have LMc7 := Aside0.mk c7
       clear c7
       obtain ⟨y341, hy341⟩ : ∃ y_ : List (S49), y_ = (x3_1 ++ [(⟨(rd_T82 l0 x9_1).f0, (rd_T82 l0 x9_1).f1, (rd_T82 l0 x9_1).f2⟩ : S49)]) := ⟨_, rfl⟩
       replace H : (laws_sigs.l0 k1 y341 l0 (l0.length : Int) (wrap64 (x9_1 + 1))) = some r := by first | (rw [hy341]; with_reducible exact H) | (have H2_ := (Option.bind_some _ _).symm.trans H; rw [hy341]; with_reducible exact H2_) | (have H2_ := (Option.bind_some _ _).symm.trans H; with_reducible exact H2_) | with_reducible exact H | (rw [hy341]; exact H) | exact H
       have Ny341 := Aside0.mk hy341
       clear hy341
       have H' := Aside0.mk H
       clear H
       have p339 : 0 ≤ (x9_1 : Int) := of_decide_eq_true (by first | (with_reducible assumption) | assumption)
       have q339 : x9_1 < (l0.length : Int) := of_decide_eq_true (by first | (with_reducible assumption) | assumption)
       obtain ⟨ad339, e339, hx339_0, hx339_1, hx339_2⟩ := at_T82 HR0.out x9_1 p339 q339
       cases e339
       replace hx339_0 := (HB.out.cell (World.block_lt_of_cell? w _ hx339_0)).trans hx339_0
       replace hx339_1 := (HB.out.cell (World.block_lt_of_cell? w _ hx339_1)).trans hx339_1
       replace hx339_2 := (HB.out.cell (World.block_lt_of_cell? w _ hx339_2)).trans hx339_2
       replace p339 := eq_true p339
       replace q339 := eq_true q339
       go_wp2_with (first | ((with_reducible refine gate_dst (N := 5) rfl ?_); refine box_event ?hg (N := 5) ?hd (cs := #[.string (⟨#[]⟩ : ByteArray), .int .u32 0, .string (⟨#[]⟩ : ByteArray)]) (t := 82) ?hr ?_; (case hd => rfl); (case hg => rfl); (case hr => first | (go_simp; done) | (go_simp; rfl)); intro gb340 hg w8 hbox hb; have n0_ := Aside0.mk (Kd.R_below (by (with_reducible repeat (first | apply Kd.R_alloc | apply Kd.R_drewN | apply Kd.R_drew)); exact HO_3.out) hb); have n1_ := Aside0.mk (below_step (by repeat (first | (with_reducible first | exact HB.out | apply below_alloc | apply pw_below_drewN | apply below_drew1) | exact HB.out)) hb); have n2_ := Aside0.mk (hbox); have n3_ := Aside0.mk ((by rw [hg]; exact (below_size (by repeat (first | (with_reducible first | exact HB.out | apply below_alloc | apply pw_below_drewN | apply below_drew1) | exact HB.out))) : w.heap.size ≤ gb340)); have n4_ := Aside0.mk ((by rw [hg]; exact (below_size (by repeat (first | (with_reducible first | exact HB.out | apply below_alloc | apply pw_below_drewN | apply below_drew1) | exact HB.out))) : w.heap.size ≤ gb340)); clear HO_3; clear HB; have HO_3 := n0_; have HB := n1_; have BK340 := n2_; have GW340 := n3_; have GE340 := n4_; clear n0_ n1_ n2_ n3_ n4_; clear hb hbox hg; have hcz9_0 : w8.cell? ⟨gb340, 0, none⟩ = some (.string (⟨#[]⟩ : ByteArray)) := (blk_cell BK340.out 0).trans rfl; have hcz9_1 : w8.cell? ⟨gb340, 1, none⟩ = some (.int .u32 0) := (blk_cell BK340.out 1).trans rfl; have hcz9_2 : w8.cell? ⟨gb340, 2, none⟩ = some (.string (⟨#[]⟩ : ByteArray)) := (blk_cell BK340.out 2).trans rfl; have hfz9_0 := blk_frozen BK340.out 0; have hfz9_1 := blk_frozen BK340.out 1; have hfz9_2 := blk_frozen BK340.out 2) | ((with_reducible refine gate_builtin (b := .append) (xs := #[.tmp 13, .tmp 21]) rfl ?_); at_builtin; refine Kd.R_append k49 (w0 := w) w.heap.size rfl (.tmp 13) (.tmp 21) 28 49 (.agg #[(.string ⟨#[]⟩), (.int .u32 0), (.string ⟨#[]⟩)]) 40 rfl Tryz.underlying28 info49 rfl (by decide) (by omega) u3 x3_1 (⟨(rd_T82 l0 x9_1).f0, (rd_T82 l0 x9_1).f1, (rd_T82 l0 x9_1).f2⟩ : S49) [.string ((rd_T82 l0 x9_1).f0), .int .u32 ((rd_T82 l0 x9_1).f1), .string ((rd_T82 l0 x9_1).f2)] (fun _ => True) (fun _ => False) rfl (by first | (go_simp; done) | (go_simp; rfl)) ?aP (fun _ hk => hk.elim) ?aF ?aO ?aB ?aS ?aL ?_; (case aP => exact k49_mkM _ _ _ (⟨(rd_T82 l0 x9_1).f0, (rd_T82 l0 x9_1).f1, (rd_T82 l0 x9_1).f2⟩ : S49)); (case aB => exact (by repeat (first | (with_reducible first | exact HB.out | apply below_alloc | apply pw_below_drewN | apply below_drew1 | refine below_set ?_ GE340.out) | exact HB.out))); (case aF => exact (fun _ _ => trivial)); (case aO => exact (by (with_reducible repeat (first | apply Kd.R_alloc | apply Kd.R_drewN | apply Kd.R_drew)); exact Kd.R_mono (Kd.R_far (p := ⟨gb340, 2, none⟩) (Kd.R_far (p := ⟨gb340, 1, none⟩) (Kd.R_far (p := ⟨gb340, 0, none⟩) (Kd.R_types HO_3.out BK340.out (by decide)) (fun _ hk => hk.2) (.string ((rd_T82 l0 x9_1).f0))) (fun _ hk => hk.2) (.int .u32 ((rd_T82 l0 x9_1).f1))) (fun _ hk => hk.2) (.string ((rd_T82 l0 x9_1).f2))) (fun _ hk => trivial))); (case aS => exact (below_size (by repeat (first | (with_reducible first | exact HB.out | apply below_alloc | apply pw_below_drewN | apply below_drew1 | refine below_set ?_ GE340.out) | exact HB.out)))); (case aL => have := LMc7.out; omega); intro v342 w10 ho hb hg hat; rw [← Ny341.out] at ho; have n0_ := Aside0.mk (blk_grown (g := gb340) (o := .cells #[.string ((rd_T82 l0 x9_1).f0), .int .u32 ((rd_T82 l0 x9_1).f1), .string ((rd_T82 l0 x9_1).f2)] 82 (0, 0)) (by (with_reducible repeat (first | refine blk_drewN ?_ _ | refine blk_drew ?_ | refine blk_alloc ?_ _)); refine blk_put (cs := #[.string ((rd_T82 l0 x9_1).f0), .int .u32 ((rd_T82 l0 x9_1).f1), .string (⟨#[]⟩ : ByteArray)]) ?_ 2 _ rfl; (with_reducible repeat (first | refine blk_drewN ?_ _ | refine blk_drew ?_ | refine blk_alloc ?_ _)); refine blk_put (cs := #[.string ((rd_T82 l0 x9_1).f0), .int .u32 0, .string (⟨#[]⟩ : ByteArray)]) ?_ 1 _ rfl; (with_reducible repeat (first | refine blk_drewN ?_ _ | refine blk_drew ?_ | refine blk_alloc ?_ _)); refine blk_put (cs := #[.string (⟨#[]⟩ : ByteArray), .int .u32 0, .string (⟨#[]⟩ : ByteArray)]) ?_ 0 _ rfl; (with_reducible repeat (first | refine blk_drewN ?_ _ | refine blk_drew ?_ | refine blk_alloc ?_ _)); exact BK340.out) hg (Kd.R_ne HO_3.out BK340.out (by decide))); have n1_ := Aside0.mk (hb); have n2_ := Aside0.mk (ho); clear BK340; clear HB; clear HO_3; have BK340 := n0_; have HB := n1_; have HO343 := n2_; clear n0_ n1_ n2_; clear ho hb hg hat))
       go_roundg k1
       case measure => have := HK1.out; omega
       case rel => exact ⟨(y341), (wrap64 (x9_1 + 1)), (by first | rfl | (simp; done) | (simp [*]; done)), H', ⟨by have := HK1.out; omega⟩, ⟨by (with_reducible repeat (first | apply Kd.R_alloc | apply Kd.R_drewN | apply Kd.R_drew)); exact HO343.out⟩, ⟨by repeat (first | (with_reducible first | exact HB.out | apply below_alloc | apply pw_below_drewN | apply below_drew1 | refine below_set ?_ GE340.out) | exact HB.out)⟩⟩
      ·rw [if_neg c7] at H
       exact absurd H (by simp)
     ·rw [if_neg c6] at H
      exact absurd H (by simp)
    ·rw [if_neg c5] at H
     exact absurd H (by simp)
   ·rw [if_neg c4] at H
    have c4b0 : decide (x9_1 < (l0.length : Int)) = false := decide_eq_false c4
    clear c4
    obtain rfl := Option.some.inj H
    go_wp2
    go_ret
    exact ⟨_, by first | rfl | (simp [errW_none, errW_some] <;> rfl) | (simp [*, errW_none, errW_some] <;> rfl), by (with_reducible repeat (first | apply Kd.R_alloc | apply Kd.R_drewN | apply Kd.R_drew)); exact HO_3.out, by repeat (first | (with_reducible first | exact HB.out | apply below_alloc | apply pw_below_drewN | apply below_drew1) | exact HB.out)⟩
end Go.Proofs.YtkbegfihdpiacaaGreatDoor.PX
namespace Go.Proofs.YtkbegfihdpiacaaGreatDoor.PX
open Go.RowKit Go.Proofs.YtkbegfihdpiacaaGreatDoorW.PrintWords Go.Proofs.YtkbegfihdpiacaaGreatDoorW.PrintLast Go.Proofs.YtkbegfihdpiacaaGreatDoorW.PrintMore
attribute [local go_sem] max2_int min2_int max_two min_two max_three min_three max_four min_four   -- for this text's walks alone
def spec_space.j0 : Nat → Int → Bool → Option (Bool)
 | 0, _, _ => none
 | k + 1, x0, x3 => if x3 = true then (some true) else (if x0 = 32 then (some true) else (if x0 = 133 then (some true) else (if x0 = 160 then (some true) else (if x0 = 5760 then (some true) else (if x0 ≥ 8192 then (if x0 ≤ 8202 then (some true) else (if x0 = 8232 then (some true) else (if x0 = 8233 then (some true) else (if x0 = 8239 then (some true) else (if x0 = 8287 then (some true) else (some (x0 == 12288))))))) else (if x0 = 8232 then (some true) else (if x0 = 8233 then (some true) else (if x0 = 8239 then (some true) else (if x0 = 8287 then (some true) else (some (x0 == 12288)))))))))))
def spec_space.f (k : Nat) (a0 : Int) : Option (Bool) := if a0 ≥ 9 then (spec_space.j0 k a0 (decide (a0 ≤ 13))) else (spec_space.j0 k a0 false)
theorem spec_space.mono_l : ∀ k, (∀ y0 y1, LeO (spec_space.j0 k y0 y1) (spec_space.j0 (k + 1) y0 y1))
 | 0 => fun _ _ r h => by simp [spec_space.j0] at h
 | k + 1 => by
  have ih0 := spec_space.mono_l k
  ·intro y0 y1
   unfold spec_space.j0
   repeat' first
   | (with_reducible exact ih0 _ _)
   | (with_reducible exact LeO.refl _)
   | (with_reducible exact LeO.none _)
   | (with_reducible refine LeO.ite ?_ ?_)
   | (with_reducible refine LeO.bind ?_ (fun _ => ?_))
   | exact ih0 _ _
   | exact LeO.none _
   | refine LeO.ite ?_ ?_
   | refine LeO.bind ?_ (fun _ => ?_)
theorem spec_space.mono : ∀ a0 k, LeO (spec_space.f k a0) (spec_space.f (k + 1) a0) := by
 intro a0 k
 have ih0 := spec_space.mono_l k
 unfold spec_space.f
 repeat' first
   | (with_reducible exact ih0 _ _)
   | (with_reducible exact LeO.refl _)
   | (with_reducible exact LeO.none _)
   | (with_reducible refine LeO.ite ?_ ?_)
   | (with_reducible refine LeO.bind ?_ (fun _ => ?_))
   | exact ih0 _ _
   | exact LeO.none _
   | refine LeO.ite ?_ ?_
   | refine LeO.bind ?_ (fun _ => ?_)
mutual
def spec_figure.j0 : Nat → Int → Bool → Option (Int)
 | 0, _, _ => none
 | k + 1, x0, x3 => if x3 = true then (some ((x0 - 65) % 256)) else (if x0 ≥ 97 then (spec_figure.j1 k x0 (decide (x0 ≤ 122))) else (spec_figure.j1 k x0 false))
def spec_figure.j1 : Nat → Int → Bool → Option (Int)
 | 0, _, _ => none
 | k + 1, x0, x13 => if x13 = true then (some (((x0 - 97) % 256) + 26)) else (if x0 ≥ 48 then (spec_figure.j2 k x0 (decide (x0 ≤ 57))) else (spec_figure.j2 k x0 false))
def spec_figure.j2 : Nat → Int → Bool → Option (Int)
 | 0, _, _ => none
 | k + 1, x0, x24 => if x24 = true then (some (((x0 - 48) % 256) + 52)) else (if x0 = 43 then (some 62) else (if x0 = 47 then (some 63) else (some (-1))))
end
def spec_figure.f (k : Nat) (a0 : Int) : Option (Int) := if a0 ≥ 65 then (spec_figure.j0 k a0 (decide (a0 ≤ 90))) else (spec_figure.j0 k a0 false)
theorem spec_figure.mono_l : ∀ k, (∀ y0 y1, LeO (spec_figure.j0 k y0 y1) (spec_figure.j0 (k + 1) y0 y1)) ∧ (∀ y0 y1, LeO (spec_figure.j1 k y0 y1) (spec_figure.j1 (k + 1) y0 y1)) ∧ (∀ y0 y1, LeO (spec_figure.j2 k y0 y1) (spec_figure.j2 (k + 1) y0 y1))
 | 0 => ⟨fun _ _ r h => by simp [spec_figure.j0] at h, fun _ _ r h => by simp [spec_figure.j1] at h, fun _ _ r h => by simp [spec_figure.j2] at h⟩
 | k + 1 => by
  obtain ⟨ih0, ih1, ih2⟩ := spec_figure.mono_l k
  refine ⟨?_, ?_, ?_⟩
  ·intro y0 y1
   unfold spec_figure.j0
   repeat' first
   | (with_reducible exact ih0 _ _)
   | (with_reducible exact ih1 _ _)
   | (with_reducible exact ih2 _ _)
   | (with_reducible exact LeO.refl _)
   | (with_reducible exact LeO.none _)
   | (with_reducible refine LeO.ite ?_ ?_)
   | (with_reducible refine LeO.bind ?_ (fun _ => ?_))
   | exact ih0 _ _
   | exact ih1 _ _
   | exact ih2 _ _
   | exact LeO.none _
   | refine LeO.ite ?_ ?_
   | refine LeO.bind ?_ (fun _ => ?_)
  ·intro y0 y1
   unfold spec_figure.j1
   repeat' first
   | (with_reducible exact ih0 _ _)
   | (with_reducible exact ih1 _ _)
   | (with_reducible exact ih2 _ _)
   | (with_reducible exact LeO.refl _)
   | (with_reducible exact LeO.none _)
   | (with_reducible refine LeO.ite ?_ ?_)
   | (with_reducible refine LeO.bind ?_ (fun _ => ?_))
   | exact ih0 _ _
   | exact ih1 _ _
   | exact ih2 _ _
   | exact LeO.none _
   | refine LeO.ite ?_ ?_
   | refine LeO.bind ?_ (fun _ => ?_)
  ·intro y0 y1
   unfold spec_figure.j2
   repeat' first
   | (with_reducible exact ih0 _ _)
   | (with_reducible exact ih1 _ _)
   | (with_reducible exact ih2 _ _)
   | (with_reducible exact LeO.refl _)
   | (with_reducible exact LeO.none _)
   | (with_reducible refine LeO.ite ?_ ?_)
   | (with_reducible refine LeO.bind ?_ (fun _ => ?_))
   | exact ih0 _ _
   | exact ih1 _ _
   | exact ih2 _ _
   | exact LeO.none _
   | refine LeO.ite ?_ ?_
   | refine LeO.bind ?_ (fun _ => ?_)
theorem spec_figure.mono : ∀ a0 k, LeO (spec_figure.f k a0) (spec_figure.f (k + 1) a0) := by
 intro a0 k
 obtain ⟨ih0, ih1, ih2⟩ := spec_figure.mono_l k
 unfold spec_figure.f
 repeat' first
   | (with_reducible exact ih0 _ _)
   | (with_reducible exact ih1 _ _)
   | (with_reducible exact ih2 _ _)
   | (with_reducible exact LeO.refl _)
   | (with_reducible exact LeO.none _)
   | (with_reducible refine LeO.ite ?_ ?_)
   | (with_reducible refine LeO.bind ?_ (fun _ => ?_))
   | exact ih0 _ _
   | exact ih1 _ _
   | exact ih2 _ _
   | exact LeO.none _
   | refine LeO.ite ?_ ?_
   | refine LeO.bind ?_ (fun _ => ?_)
set_option maxHeartbeats 8000000 in
set_option maxRecDepth 100000 in
theorem spec_figure.calls (k : Nat) (a0 : Int) (r : Int) (w : World) (h : spec_figure.f k a0 = some r) :
  Calls Tryz.prog 53 #[.int .u8 a0] w fun e w' => e = .returned (.int .i64 r) ∧ Drawn0 w w' := by
 have H : (if a0 ≥ 65 then (spec_figure.j0 k a0 (decide (a0 ≤ 90))) else (spec_figure.j0 k a0 false)) = some r := h
 clear h
 have HC2 := Aside0.mk H
 clear H
 go_enter Tryz.func53, Tryz.ntmps53
 go_upto_region 1 with (fail)
 go_cut [3] (fun v3 wc => ∃ (kq : Nat) (x3_1 : Bool), v3 = .bool x3_1 ∧ Aside0 (spec_figure.j0 kq a0 x3_1 = some r) ∧ Aside0 (kq ≤ k) ∧ Drawn0 w wc)
 case first =>
  have H := HC2.out
  clear HC2
  by_cases c3 : a0 ≥ 65
  ·rw [if_pos c3] at H
   have c3b0 : decide (65 ≤ a0) = true := decide_eq_true c3
   clear c3
   (first | rw [c3b0] | (simp only [i64_w, i32_w]; rw [c3b0]) | skip)
   have H' := Aside0.mk H
   clear H
   go_wp2
   go_meet
   case rel => exact ⟨_, (decide (a0 ≤ 90)), (by first | rfl | (simp; done) | (simp [*]; done)), H', ⟨by first | omega | exact Nat.le_refl _⟩, by repeat (first | exact Drawn0.refl _ | apply Drawn0.step)⟩
  ·rw [if_neg c3] at H
   have c3b0 : decide (65 ≤ a0) = false := decide_eq_false c3
   clear c3
   (first | rw [c3b0] | (simp only [i64_w, i32_w]; rw [c3b0]) | skip)
   have H' := Aside0.mk H
   clear H
   go_wp2
   go_meet
   case rel => exact ⟨_, (false), (by first | rfl | (simp; done) | (simp [*]; done)), H', ⟨by first | omega | exact Nat.le_refl _⟩, by repeat (first | exact Drawn0.refl _ | apply Drawn0.step)⟩
 case rest =>
  clear HC2
  try clear p2
  try clear c3
  try clear c3b0
  obtain ⟨kq, x3_1, rfl, HA, HJ1, ⟨mc1, rfl⟩⟩ := hcut
  cases kq with
  | zero => exact absurd HA.out (by simp [spec_figure.j0])
  | succ kj1 =>
   have H := HA.out
   clear HA
   simp only [spec_figure.j0] at H
   by_cases c4 : x3_1 = true
   ·subst c4
    have H1 : (some ((a0 - 65) % 256)) = some r := by rw [if_pos rfl] at H; exact H
    clear H
    have H := H1
    clear H1
    obtain rfl := Option.some.inj H
    go_wp2
    go_ret
    exact ⟨by first | rfl | (simp; done) | (simp [*]; done), by repeat (first | exact Drawn0.refl _ | apply Drawn0.step)⟩
   ·replace c4 := Bool.eq_false_iff.mpr c4
    subst c4
    have H1 : (if a0 ≥ 97 then (spec_figure.j1 kj1 a0 (decide (a0 ≤ 122))) else (spec_figure.j1 kj1 a0 false)) = some r := by rw [if_neg (show ¬ (false = true) by decide)] at H; exact H
    clear H
    have H := H1
    clear H1
    have HC5 := Aside0.mk H
    clear H
    go_upto_region 3 with (fail)
    go_cut [13] (fun v13 wc => ∃ (kq : Nat) (x13_4 : Bool), v13 = .bool x13_4 ∧ Aside0 (spec_figure.j1 kq a0 x13_4 = some r) ∧ Aside0 (kq ≤ kj1) ∧ Drawn0 w wc)
    case first =>
     have H := HC5.out
     clear HC5
     by_cases c6 : a0 ≥ 97
     ·rw [if_pos c6] at H
      have c6b0 : decide (97 ≤ a0) = true := decide_eq_true c6
      clear c6
      (first | rw [c6b0] | (simp only [i64_w, i32_w]; rw [c6b0]) | skip)
      have H' := Aside0.mk H
      clear H
      go_wp2
      go_meet
      case rel => exact ⟨_, (decide (a0 ≤ 122)), (by first | rfl | (simp; done) | (simp [*]; done)), H', ⟨by have := HJ1.out; first | omega | exact Nat.le_refl _⟩, by repeat (first | exact Drawn0.refl _ | apply Drawn0.step)⟩
     ·rw [if_neg c6] at H
      have c6b0 : decide (97 ≤ a0) = false := decide_eq_false c6
      clear c6
      (first | rw [c6b0] | (simp only [i64_w, i32_w]; rw [c6b0]) | skip)
      have H' := Aside0.mk H
      clear H
      go_wp2
      go_meet
      case rel => exact ⟨_, (false), (by first | rfl | (simp; done) | (simp [*]; done)), H', ⟨by have := HJ1.out; first | omega | exact Nat.le_refl _⟩, by repeat (first | exact Drawn0.refl _ | apply Drawn0.step)⟩
    case rest =>
     clear HC5
     try clear c1
     try clear p2
     try clear c3
     try clear c3b0
     try clear c4
     try clear c5
     try clear c6
     try clear c6b0
     try clear p2
     obtain ⟨kq, x13_4, rfl, HA, HJ4, ⟨mc4, rfl⟩⟩ := hcut
     cases kq with
     | zero => exact absurd HA.out (by simp [spec_figure.j1])
     | succ kj4 =>
      have H := HA.out
      clear HA
      simp only [spec_figure.j1] at H
      by_cases c7 : x13_4 = true
      ·subst c7
       have H1 : (some (((a0 - 97) % 256) + 26)) = some r := by rw [if_pos rfl] at H; exact H
       clear H
       have H := H1
       clear H1
       obtain rfl := Option.some.inj H
       go_wp2
       go_ret
       exact ⟨by first | rfl | (simp; done) | (simp [*]; done), by repeat (first | exact Drawn0.refl _ | apply Drawn0.step)⟩
      ·replace c7 := Bool.eq_false_iff.mpr c7
       subst c7
       have H1 : (if a0 ≥ 48 then (spec_figure.j2 kj4 a0 (decide (a0 ≤ 57))) else (spec_figure.j2 kj4 a0 false)) = some r := by rw [if_neg (show ¬ (false = true) by decide)] at H; exact H
       clear H
       have H := H1
       clear H1
       have HC8 := Aside0.mk H
       clear H
       go_upto_region 5 with (fail)
       go_cut [24] (fun v24 wc => ∃ (kq : Nat) (x24_7 : Bool), v24 = .bool x24_7 ∧ Aside0 (spec_figure.j2 kq a0 x24_7 = some r) ∧ Aside0 (kq ≤ kj4) ∧ Drawn0 w wc)
       case first =>
        have H := HC8.out
        clear HC8
        by_cases c9 : a0 ≥ 48
        ·rw [if_pos c9] at H
         have c9b0 : decide (48 ≤ a0) = true := decide_eq_true c9
         clear c9
         (first | rw [c9b0] | (simp only [i64_w, i32_w]; rw [c9b0]) | skip)
         have H' := Aside0.mk H
         clear H
         go_wp2
         go_meet
         case rel => exact ⟨_, (decide (a0 ≤ 57)), (by first | rfl | (simp; done) | (simp [*]; done)), H', ⟨by have := HJ1.out; have := HJ4.out; first | omega | exact Nat.le_refl _⟩, by repeat (first | exact Drawn0.refl _ | apply Drawn0.step)⟩
        ·rw [if_neg c9] at H
         have c9b0 : decide (48 ≤ a0) = false := decide_eq_false c9
         clear c9
         (first | rw [c9b0] | (simp only [i64_w, i32_w]; rw [c9b0]) | skip)
         have H' := Aside0.mk H
         clear H
         go_wp2
         go_meet
         case rel => exact ⟨_, (false), (by first | rfl | (simp; done) | (simp [*]; done)), H', ⟨by have := HJ1.out; have := HJ4.out; first | omega | exact Nat.le_refl _⟩, by repeat (first | exact Drawn0.refl _ | apply Drawn0.step)⟩
       case rest =>
        clear HC8
        try clear c1
        try clear p2
        try clear c3
        try clear c3b0
        try clear c4
        try clear c5
        try clear c6
        try clear c6b0
        try clear c7
        try clear c9
        try clear c9b0
        try clear p2
        obtain ⟨kq, x24_7, rfl, HA, HJ7, ⟨mc7, rfl⟩⟩ := hcut
        cases kq with
        | zero => exact absurd HA.out (by simp [spec_figure.j2])
        | succ kj7 =>
         have H := HA.out
         clear HA
         simp only [spec_figure.j2] at H
         by_cases c10 : x24_7 = true
         ·subst c10
          have H1 : (some (((a0 - 48) % 256) + 52)) = some r := by rw [if_pos rfl] at H; exact H
          clear H
          have H := H1
          clear H1
          obtain rfl := Option.some.inj H
          go_wp2
          go_ret
          exact ⟨by first | rfl | (simp; done) | (simp [*]; done), by repeat (first | exact Drawn0.refl _ | apply Drawn0.step)⟩
         ·replace c10 := Bool.eq_false_iff.mpr c10
          subst c10
          have H1 : (if a0 = 43 then (some 62) else (if a0 = 47 then (some 63) else (some (-1)))) = some r := by rw [if_neg (show ¬ (false = true) by decide)] at H; exact H
          clear H
          have H := H1
          clear H1
          by_cases c11 : a0 = 43
          ·rw [if_pos c11] at H
           have c11b0 : (a0 == 43) = true := beq_iff_eq.mpr c11
           have c11b1 : (a0 != 43) = false := bne_eq_false_iff_eq.mpr c11
           clear c11
           obtain rfl := Option.some.inj H
           go_wp2
           go_ret
           exact ⟨by first | rfl | (simp; done) | (simp [*]; done), by repeat (first | exact Drawn0.refl _ | apply Drawn0.step)⟩
          ·rw [if_neg c11] at H
           have c11b0 : (a0 == 43) = false := beq_eq_false_iff_ne.mpr c11
           have c11b1 : (a0 != 43) = true := bne_iff_ne.mpr c11
           by_cases c12 : a0 = 47
           ·rw [if_pos c12] at H
            have c12b0 : (a0 == 47) = true := beq_iff_eq.mpr c12
            have c12b1 : (a0 != 47) = false := bne_eq_false_iff_eq.mpr c12
            clear c12
            obtain rfl := Option.some.inj H
            go_wp2
            go_ret
            exact ⟨by first | rfl | (simp; done) | (simp [*]; done), by repeat (first | exact Drawn0.refl _ | apply Drawn0.step)⟩
           ·rw [if_neg c12] at H
            have c12b0 : (a0 == 47) = false := beq_eq_false_iff_ne.mpr c12
            have c12b1 : (a0 != 47) = true := bne_iff_ne.mpr c12
            obtain rfl := Option.some.inj H
            go_wp2
            go_ret
            exact ⟨by first | rfl | (simp; done) | (simp [*]; done), by repeat (first | exact Drawn0.refl _ | apply Drawn0.step)⟩
end Go.Proofs.YtkbegfihdpiacaaGreatDoor.PX
