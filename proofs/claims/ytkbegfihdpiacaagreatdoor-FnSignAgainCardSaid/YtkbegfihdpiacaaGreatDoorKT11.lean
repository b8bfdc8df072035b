/- Part 11 of the proof: what the theorem reaches of the texts KR15. -/
import Derived.Deep.RegionHeld3
import Derived.Test.YtkbegfihdpiacaaGreatDoorKT4
import Derived.Test.YtkbegfihdpiacaaGreatDoorKT10
set_option linter.unusedVariables false
set_option linter.unusedSimpArgs false
namespace Go.Proofs.YtkbegfihdpiacaaGreatDoor.PX
open Go.RowKit Go.Proofs.YtkbegfihdpiacaaGreatDoorW.PrintWords Go.Proofs.YtkbegfihdpiacaaGreatDoorW.PrintLast Go.Proofs.YtkbegfihdpiacaaGreatDoorW.PrintMore
attribute [local go_sem] max2_int min2_int max_two min_two max_three min_three max_four min_four   -- for this text's walks alone
mutual
def spec_Split.l0 : Nat → ByteArray → Int → Int → Int → Option (ByteArray × List ByteArray × Bool)
 | 0, _, _, _, _ => none
 | k + 1, x0, x5, x12, x13 => if x13 < x12 then (if 0 ≤ x13 then (if x13 < (x0.size : Int) then (if (bt x0 x13) = 10 then (if 0 ≤ (wrap64 (x13 + 1)) then (if (wrap64 (x13 + 1)) < (x0.size : Int) then (if (bt x0 (wrap64 (x13 + 1))) = 10 then (spec_Split.l0 k x0 x13 x12 (wrap64 (x13 + 1))) else (spec_Split.l0 k x0 x5 x12 (wrap64 (x13 + 1)))) else (none)) else (none)) else (spec_Split.l0 k x0 x5 x12 (wrap64 (x13 + 1)))) else (none)) else (none)) else (if x5 < 0 then (spec_Split.j1 k x0 x5 true) else (if (wrap64 (x5 + 2)) ≥ (x0.size : Int) then (spec_Split.j1 k x0 x5 true) else (if 0 ≤ (wrap64 ((x0.size : Int) - 1)) then (if (wrap64 ((x0.size : Int) - 1)) < (x0.size : Int) then (spec_Split.j1 k x0 x5 ((bt x0 (wrap64 ((x0.size : Int) - 1))) != 10)) else (none)) else (none))))
def spec_Split.j1 : Nat → ByteArray → Int → Bool → Option (ByteArray × List ByteArray × Bool)
 | 0, _, _, _ => none
 | k + 1, x0, x5, x45 => if x45 = true then (some ((⟨#[]⟩ : ByteArray), ([] : List ByteArray), false)) else (spec_Split.l1 k x0 x5 (([] : List ByteArray)) (wrap64 (x5 + 2)) (wrap64 (x5 + 2)))
def spec_Split.l1 : Nat → ByteArray → Int → List ByteArray → Int → Int → Option (ByteArray × List ByteArray × Bool)
 | 0, _, _, _, _, _ => none
 | k + 1, x0, x5, x7, x8, x9 => if x9 < (x0.size : Int) then (if 0 ≤ x9 then (if (bt x0 x9) = 10 then (if 0 ≤ x8 then (if x8 ≤ x9 then (if x9 ≤ (x0.size : Int) then (if x7.length < 8796093022208 then (spec_Split.l1 k x0 x5 (x7 ++ [x0.extract (x8 : Int).toNat (x9 : Int).toNat]) (wrap64 (x9 + 1)) (wrap64 (x9 + 1))) else (none)) else (none)) else (none)) else (none)) else (spec_Split.l1 k x0 x5 x7 x8 (wrap64 (x9 + 1)))) else (none)) else (if 0 ≤ (wrap64 (x5 + 1)) then (if (wrap64 (x5 + 1)) ≤ (x0.size : Int) then (some (x0.extract 0 ((wrap64 (x5 + 1)) : Int).toNat, x7, true)) else (none)) else (none))
end
def spec_Split.f (k : Nat) (a0 : ByteArray) : Option (ByteArray × List ByteArray × Bool) := spec_Split.l0 k a0 (-1) (wrap64 ((a0.size : Int) - 1)) 0
theorem spec_Split.mono_l : ∀ k, (∀ y0 y1 y2 y3, LeO (spec_Split.l0 k y0 y1 y2 y3) (spec_Split.l0 (k + 1) y0 y1 y2 y3)) ∧ (∀ y0 y1 y2, LeO (spec_Split.j1 k y0 y1 y2) (spec_Split.j1 (k + 1) y0 y1 y2)) ∧ (∀ y0 y1 y2 y3 y4, LeO (spec_Split.l1 k y0 y1 y2 y3 y4) (spec_Split.l1 (k + 1) y0 y1 y2 y3 y4))
 | 0 => ⟨fun _ _ _ _ r h => by simp [spec_Split.l0] at h, fun _ _ _ r h => by simp [spec_Split.j1] at h, fun _ _ _ _ _ r h => by simp [spec_Split.l1] at h⟩
 | k + 1 => by
  obtain ⟨ih0, ih1, ih2⟩ := spec_Split.mono_l k
  refine ⟨?_, ?_, ?_⟩
  ·intro y0 y1 y2 y3
   unfold spec_Split.l0
   repeat' first
   | (with_reducible exact ih0 _ _ _ _)
   | (with_reducible exact ih1 _ _ _)
   | (with_reducible exact ih2 _ _ _ _ _)
   | (with_reducible exact LeO.refl _)
   | (with_reducible exact LeO.none _)
   | (with_reducible refine LeO.ite ?_ ?_)
   | (with_reducible refine LeO.bind ?_ (fun _ => ?_))
   | exact ih0 _ _ _ _
   | exact ih1 _ _ _
   | exact ih2 _ _ _ _ _
   | exact LeO.none _
   | refine LeO.ite ?_ ?_
   | refine LeO.bind ?_ (fun _ => ?_)
  ·intro y0 y1 y2
   unfold spec_Split.j1
   repeat' first
   | (with_reducible exact ih0 _ _ _ _)
   | (with_reducible exact ih1 _ _ _)
   | (with_reducible exact ih2 _ _ _ _ _)
   | (with_reducible exact LeO.refl _)
   | (with_reducible exact LeO.none _)
   | (with_reducible refine LeO.ite ?_ ?_)
   | (with_reducible refine LeO.bind ?_ (fun _ => ?_))
   | exact ih0 _ _ _ _
   | exact ih1 _ _ _
   | exact ih2 _ _ _ _ _
   | exact LeO.none _
   | refine LeO.ite ?_ ?_
   | refine LeO.bind ?_ (fun _ => ?_)
  ·intro y0 y1 y2 y3 y4
   unfold spec_Split.l1
   repeat' first
   | (with_reducible exact ih0 _ _ _ _)
   | (with_reducible exact ih1 _ _ _)
   | (with_reducible exact ih2 _ _ _ _ _)
   | (with_reducible exact LeO.refl _)
   | (with_reducible exact LeO.none _)
   | (with_reducible refine LeO.ite ?_ ?_)
   | (with_reducible refine LeO.bind ?_ (fun _ => ?_))
   | exact ih0 _ _ _ _
   | exact ih1 _ _ _
   | exact ih2 _ _ _ _ _
   | exact LeO.none _
   | refine LeO.ite ?_ ?_
   | refine LeO.bind ?_ (fun _ => ?_)
theorem spec_Split.mono : ∀ a0 k, LeO (spec_Split.f k a0) (spec_Split.f (k + 1) a0) := by
 intro a0 k
 obtain ⟨ih0, ih1, ih2⟩ := spec_Split.mono_l k
 unfold spec_Split.f
 repeat' first
   | (with_reducible exact ih0 _ _ _ _)
   | (with_reducible exact ih1 _ _ _)
   | (with_reducible exact ih2 _ _ _ _ _)
   | (with_reducible exact LeO.refl _)
   | (with_reducible exact LeO.none _)
   | (with_reducible refine LeO.ite ?_ ?_)
   | (with_reducible refine LeO.bind ?_ (fun _ => ?_))
   | exact ih0 _ _ _ _
   | exact ih1 _ _ _
   | exact ih2 _ _ _ _ _
   | exact LeO.none _
   | refine LeO.ite ?_ ?_
   | refine LeO.bind ?_ (fun _ => ?_)
set_option maxHeartbeats 8000000 in
set_option maxRecDepth 100000 in
theorem spec_Split.calls (k : Nat) (a0 : ByteArray) (r1 : ByteArray) (r2 : List ByteArray) (r3 : Bool) (w : World) (h : spec_Split.f k a0 = some (r1, r2, r3)) :
  Calls Tryz.prog 17 #[.string a0] w fun e w' => ∃ v1_ : Value, e = .returned (.tuple #[.string r1, v1_, .bool r3]) ∧ Kd.R Kd.string 9 w' w.heap.size (fun _ => True) v1_ r2 ∧ Below w.heap.size w w' := by
 have HB := Aside0.mk (Below.refl w.heap.size w)
 have H : (spec_Split.l0 k a0 (-1) (wrap64 ((a0.size : Int) - 1)) 0) = some (r1, r2, r3) := h
 clear h
 have H' := Aside0.mk H
 clear H
 go_enter Tryz.func17, Tryz.ntmps17
 go_wp2
 go_loopg [5, 13] k (fun kq v5 v13 w' => ∃ (x5_1 : Int) (x13_1 : Int), v5 = .int .i64 x5_1 ∧ v13 = .int .i64 x13_1 ∧ Aside0 (spec_Split.l0 kq a0 x5_1 (wrap64 ((a0.size : Int) - 1)) x13_1 = some (r1, r2, r3)) ∧ Aside0 (kq ≤ k) ∧ Aside0 (Below w.heap.size w w'))
 case atStart => exact ⟨((-1)), (0), (by first | rfl | (simp; done) | (simp [*]; done)), (by first | rfl | (simp; done) | (simp [*]; done)), H', ⟨Nat.le_refl _⟩, ⟨by repeat (first | (with_reducible first | exact HB.out | apply below_alloc | apply pw_below_drewN | apply below_drew1) | exact HB.out)⟩⟩
 case round =>
  clear H'
  try clear c1
  obtain ⟨x5_1, x13_1, rfl, rfl, HA, HK1, HB⟩ := hrel
  cases gk with
  | zero => exact absurd HA.out (by simp [spec_Split.l0])
  | succ k1 =>
   have H := HA.out
   clear HA
   simp only [spec_Split.l0] at H
   by_cases c2 : x13_1 < (wrap64 ((a0.size : Int) - 1))
   ·rw [if_pos c2] at H
    have c2b0 : decide (x13_1 < (wrap64 ((a0.size : Int) - 1))) = true := decide_eq_true c2
    clear c2
    by_cases c3 : 0 ≤ x13_1
    ·rw [if_pos c3] at H
     have c3b0 : decide (0 ≤ x13_1) = true := decide_eq_true c3
     clear c3
     by_cases c4 : x13_1 < (a0.size : Int)
     ·rw [if_pos c4] at H
      have c4b0 : decide (x13_1 < (a0.size : Int)) = true := decide_eq_true c4
      clear c4
      by_cases c6 : (bt a0 x13_1) = 10
      ·rw [if_pos c6] at H
       have c6b0 : ((bt a0 x13_1) == 10) = true := beq_iff_eq.mpr c6
       have c6b1 : ((bt a0 x13_1) != 10) = false := bne_eq_false_iff_eq.mpr c6
       clear c6
       obtain ⟨ji7, hji7⟩ : ∃ j_ : Int, (wrap64 (x13_1 + 1)) = j_ := ⟨_, rfl⟩
       replace H : (if 0 ≤ (ji7) then (if (ji7) < (a0.size : Int) then (if (bt a0 (ji7)) = 10 then (spec_Split.l0 k1 a0 x13_1 (wrap64 ((a0.size : Int) - 1)) ji7) else (spec_Split.l0 k1 a0 x5_1 (wrap64 ((a0.size : Int) - 1)) ji7)) else (none)) else (none)) = some (r1, r2, r3) := by first | (rw [hji7] at H; exact H) | (simp only [hji7] at H ⊢; exact H)
       have hji7w : (IntKind.i64.wrap (x13_1 + 1)) = ji7 := (i64_w _).trans hji7
       by_cases c8 : 0 ≤ (ji7)
       ·rw [if_pos c8] at H
        have c8b0 : decide (0 ≤ (ji7)) = true := decide_eq_true c8
        clear c8
        by_cases c9 : (ji7) < (a0.size : Int)
        ·rw [if_pos c9] at H
         have c9b0 : decide ((ji7) < (a0.size : Int)) = true := decide_eq_true c9
         clear c9
         by_cases c11 : (bt a0 (ji7)) = 10
         ·rw [if_pos c11] at H
          have c11b0 : ((bt a0 (ji7)) == 10) = true := beq_iff_eq.mpr c11
          have c11b1 : ((bt a0 (ji7)) != 10) = false := bne_eq_false_iff_eq.mpr c11
          clear c11
          have H' := Aside0.mk H
          clear H
          have p5 : 0 ≤ (x13_1 : Int) := of_decide_eq_true (by first | (with_reducible assumption) | assumption)
          have q5 : x13_1 < (a0.size : Int) := of_decide_eq_true (by first | (with_reducible assumption) | assumption)
          have hx5 := bt_at a0 x13_1
          replace p5 := eq_true p5
          replace q5 := eq_true q5
          have p10 : 0 ≤ ((ji7) : Int) := of_decide_eq_true (by first | (with_reducible assumption) | assumption)
          have q10 : (ji7) < (a0.size : Int) := of_decide_eq_true (by first | (with_reducible assumption) | assumption)
          have hx10 := bt_at a0 (ji7)
          replace p10 := eq_true p10
          replace q10 := eq_true q10
          go_wp2
          go_roundg k1
          case measure => have := HK1.out; omega
          case rel => exact ⟨(x13_1), (ji7), (by first | rfl | (simp; done) | (simp [*]; done)), (by first | rfl | (simp; done) | (simp only [← hji7] <;> (first | rfl | simp)) | (simp [*]; done)), H', ⟨by have := HK1.out; omega⟩, ⟨by repeat (first | (with_reducible first | exact HB.out | apply below_alloc | apply pw_below_drewN | apply below_drew1) | exact HB.out)⟩⟩
         ·rw [if_neg c11] at H
          have c11b0 : ((bt a0 (ji7)) == 10) = false := beq_eq_false_iff_ne.mpr c11
          have c11b1 : ((bt a0 (ji7)) != 10) = true := bne_iff_ne.mpr c11
          have H' := Aside0.mk H
          clear H
          have p5 : 0 ≤ (x13_1 : Int) := of_decide_eq_true (by first | (with_reducible assumption) | assumption)
          have q5 : x13_1 < (a0.size : Int) := of_decide_eq_true (by first | (with_reducible assumption) | assumption)
          have hx5 := bt_at a0 x13_1
          replace p5 := eq_true p5
          replace q5 := eq_true q5
          have p10 : 0 ≤ ((ji7) : Int) := of_decide_eq_true (by first | (with_reducible assumption) | assumption)
          have q10 : (ji7) < (a0.size : Int) := of_decide_eq_true (by first | (with_reducible assumption) | assumption)
          have hx10 := bt_at a0 (ji7)
          replace p10 := eq_true p10
          replace q10 := eq_true q10
          go_wp2
          go_roundg k1
          case measure => have := HK1.out; omega
          case rel => exact ⟨(x5_1), (ji7), (by first | rfl | (simp; done) | (simp [*]; done)), (by first | rfl | (simp; done) | (simp only [← hji7] <;> (first | rfl | simp)) | (simp [*]; done)), H', ⟨by have := HK1.out; omega⟩, ⟨by repeat (first | (with_reducible first | exact HB.out | apply below_alloc | apply pw_below_drewN | apply below_drew1) | exact HB.out)⟩⟩
        ·rw [if_neg c9] at H
         exact absurd H (by simp)
       ·rw [if_neg c8] at H
        exact absurd H (by simp)
      ·rw [if_neg c6] at H
       have c6b0 : ((bt a0 x13_1) == 10) = false := beq_eq_false_iff_ne.mpr c6
       have c6b1 : ((bt a0 x13_1) != 10) = true := bne_iff_ne.mpr c6
       have H' := Aside0.mk H
       clear H
       have p5 : 0 ≤ (x13_1 : Int) := of_decide_eq_true (by first | (with_reducible assumption) | assumption)
       have q5 : x13_1 < (a0.size : Int) := of_decide_eq_true (by first | (with_reducible assumption) | assumption)
       have hx5 := bt_at a0 x13_1
       replace p5 := eq_true p5
       replace q5 := eq_true q5
       go_wp2
       go_roundg k1
       case measure => have := HK1.out; omega
       case rel => exact ⟨(x5_1), (wrap64 (x13_1 + 1)), (by first | rfl | (simp; done) | (simp [*]; done)), (by first | rfl | (simp; done) | (simp [*]; done)), H', ⟨by have := HK1.out; omega⟩, ⟨by repeat (first | (with_reducible first | exact HB.out | apply below_alloc | apply pw_below_drewN | apply below_drew1) | exact HB.out)⟩⟩
     ·rw [if_neg c4] at H
      exact absurd H (by simp)
    ·rw [if_neg c3] at H
     exact absurd H (by simp)
   ·rw [if_neg c2] at H
    have c2b0 : decide (x13_1 < (wrap64 ((a0.size : Int) - 1))) = false := decide_eq_false c2
    clear c2
    have HC12 := Aside0.mk H
    clear H
    go_upto_region 8 with (fail)
    go_cut [45] (fun v45 wc => ∃ (kq : Nat) (x45_11 : Bool), v45 = .bool x45_11 ∧ Aside0 (spec_Split.j1 kq a0 x5_1 x45_11 = some (r1, r2, r3)) ∧ Aside0 (kq ≤ k1) ∧ Aside0 (Below w.heap.size w wc))
    case first =>
     have H := HC12.out
     clear HC12
     by_cases c13 : x5_1 < 0
     ·rw [if_pos c13] at H
      have c13b0 : decide (x5_1 < 0) = true := decide_eq_true c13
      clear c13
      (first | rw [c13b0] | (simp only [i64_w, i32_w]; rw [c13b0]) | skip)
      have H' := Aside0.mk H
      clear H
      go_wp2
      go_meet
      case rel => exact ⟨_, (true), (by first | rfl | (simp; done) | (simp [*]; done)), H', ⟨by have := HK1.out; first | omega | exact Nat.le_refl _⟩, ⟨by repeat (first | (with_reducible first | exact HB.out | apply below_alloc | apply pw_below_drewN | apply below_drew1) | exact HB.out)⟩⟩
     ·rw [if_neg c13] at H
      have c13b0 : decide (x5_1 < 0) = false := decide_eq_false c13
      clear c13
      (first | rw [c13b0] | (simp only [i64_w, i32_w]; rw [c13b0]) | skip)
      by_cases c14 : (wrap64 (x5_1 + 2)) ≥ (a0.size : Int)
      ·rw [if_pos c14] at H
       have c14b0 : decide ((a0.size : Int) ≤ (wrap64 (x5_1 + 2))) = true := decide_eq_true c14
       clear c14
       have H' := Aside0.mk H
       clear H
       go_wp2
       go_meet
       case rel => exact ⟨_, (true), (by first | rfl | (simp; done) | (simp [*]; done)), H', ⟨by have := HK1.out; first | omega | exact Nat.le_refl _⟩, ⟨by repeat (first | (with_reducible first | exact HB.out | apply below_alloc | apply pw_below_drewN | apply below_drew1) | exact HB.out)⟩⟩
      ·rw [if_neg c14] at H
       have c14b0 : decide ((a0.size : Int) ≤ (wrap64 (x5_1 + 2))) = false := decide_eq_false c14
       clear c14
       obtain ⟨ji15, hji15⟩ : ∃ j_ : Int, (wrap64 ((a0.size : Int) - 1)) = j_ := ⟨_, rfl⟩
       replace H : (if 0 ≤ (ji15) then (if (ji15) < (a0.size : Int) then (spec_Split.j1 k1 a0 x5_1 ((bt a0 (ji15)) != 10)) else (none)) else (none)) = some (r1, r2, r3) := by first | (rw [hji15] at H; exact H) | (simp only [hji15] at H ⊢; exact H)
       (try rw [hji15] at c2b0)
       have hji15w : (IntKind.i64.wrap ((a0.size : Int) - 1)) = ji15 := (i64_w _).trans hji15
       by_cases c16 : 0 ≤ (ji15)
       ·rw [if_pos c16] at H
        have c16b0 : decide (0 ≤ (ji15)) = true := decide_eq_true c16
        clear c16
        by_cases c17 : (ji15) < (a0.size : Int)
        ·rw [if_pos c17] at H
         have c17b0 : decide ((ji15) < (a0.size : Int)) = true := decide_eq_true c17
         clear c17
         have H' := Aside0.mk H
         clear H
         have p18 : 0 ≤ ((ji15) : Int) := of_decide_eq_true (by first | (with_reducible assumption) | assumption)
         have q18 : (ji15) < (a0.size : Int) := of_decide_eq_true (by first | (with_reducible assumption) | assumption)
         have hx18 := bt_at a0 (ji15)
         replace p18 := eq_true p18
         replace q18 := eq_true q18
         go_wp2
         go_meet
         case rel => exact ⟨_, (((bt a0 (ji15)) != 10)), (by first | rfl | (simp; done) | (simp only [← hji15] <;> (first | rfl | simp)) | (simp [*]; done)), H', ⟨by have := HK1.out; first | omega | exact Nat.le_refl _⟩, ⟨by repeat (first | (with_reducible first | exact HB.out | apply below_alloc | apply pw_below_drewN | apply below_drew1) | exact HB.out)⟩⟩
        ·rw [if_neg c17] at H
         exact absurd H (by simp)
       ·rw [if_neg c16] at H
        exact absurd H (by simp)
    case rest =>
     clear HC12
     try clear c1
     try clear p1
     try clear q1
     try clear hx1
     try clear c2
     try clear c2b0
     try clear p2
     try clear c3
     try clear c3b0
     try clear c4
     try clear c4b0
     try clear p5
     try clear q5
     try clear hx5
     try clear c6
     try clear c6b0
     try clear c6b1
     try clear p6
     try clear c8
     try clear c8b0
     try clear c9
     try clear c9b0
     try clear p10
     try clear q10
     try clear hx10
     try clear c11
     try clear c11b0
     try clear c11b1
     try clear c13
     try clear c13b0
     try clear c14
     try clear c14b0
     try clear c16
     try clear c16b0
     try clear c17
     try clear c17b0
     try clear p18
     try clear q18
     try clear hx18
     try clear p10
     try clear p18
     try clear p5
     try clear q10
     try clear q18
     try clear q5
     obtain ⟨kq, x45_11, rfl, HA, HJ11, HB⟩ := hcut
     cases kq with
     | zero => exact absurd HA.out (by simp [spec_Split.j1])
     | succ kj11 =>
      have H := HA.out
      clear HA
      simp only [spec_Split.j1] at H
      by_cases c19 : x45_11 = true
      ·subst c19
       have H1 : (some ((⟨#[]⟩ : ByteArray), ([] : List ByteArray), false)) = some (r1, r2, r3) := by rw [if_pos rfl] at H; exact H
       clear H
       have H := H1
       clear H1
       simp only [Option.some.injEq, Prod.mk.injEq] at H
       obtain ⟨rfl, rfl, rfl⟩ := H
       go_wp2
       go_ret3
       exact ⟨_, by first | rfl | (simp [errW_none, errW_some] <;> rfl) | (simp [*, errW_none, errW_some] <;> rfl), by first | exact Kd.R_nil _ _ _ _ _ | exact Kd.N_nil _ _ _ _ _ | exact Kd.V_nil _ _ _ _ _ | exact Kd.Q_nil _ _ _ _ _ | exact Kd.S_nil _ _ _ _ _, by repeat (first | (with_reducible first | exact HB.out | apply below_alloc | apply pw_below_drewN | apply below_drew1) | exact HB.out)⟩
      ·replace c19 := Bool.eq_false_iff.mpr c19
       subst c19
       have H1 : (spec_Split.l1 kj11 a0 x5_1 (([] : List ByteArray)) (wrap64 (x5_1 + 2)) (wrap64 (x5_1 + 2))) = some (r1, r2, r3) := by rw [if_neg (show ¬ (false = true) by decide)] at H; exact H
       clear H
       have H := H1
       clear H1
       obtain ⟨y109, hy109⟩ : ∃ y_ : List ByteArray, y_ = (([] : List ByteArray)) := ⟨_, rfl⟩
       replace H : (spec_Split.l1 kj11 a0 x5_1 y109 (wrap64 (x5_1 + 2)) (wrap64 (x5_1 + 2))) = some (r1, r2, r3) := by first | (rw [hy109]; with_reducible exact H) | (have H2_ := (Option.bind_some _ _).symm.trans H; rw [hy109]; with_reducible exact H2_) | (have H2_ := (Option.bind_some _ _).symm.trans H; with_reducible exact H2_) | with_reducible exact H | (rw [hy109]; exact H) | exact H
       have Ny109 := Aside0.mk hy109
       clear hy109
       have H' := Aside0.mk H
       clear H
       go_wp2_with (first | ((with_reducible refine gate_dst (N := 46) rfl ?_); (try (refine gate_guard (by rfl) ?_; dsimp only)); refine Kd.R_lit Kd.string _ 9 ?hg (N := 46) ?hd (xs := ([] : List ByteArray)) (inner := []) (ok := fun _ => True) (okp := fun _ => True) ?hr ?hp (fun _ hk => hk) trivial (Below.refl _ _) (Nat.le_refl _) (by simp) ?_; (case hd => rfl); (case hg => rfl); (case hr => first | (go_simp; done) | (go_simp; rfl)); (case hp => exact (Reps.none _ _)); intro v110 w20 ho21 hb hg_ hnew_; clear hg_ hnew_; (first | rw [← Ny109.out] at ho21 | (simp only [Int.reduceToNat] at ho21; rw [← Ny109.out] at ho21)); have n0_ := Aside0.mk (Kd.R_lower ho21 (below_size (by repeat (first | (with_reducible first | exact HB.out | apply below_alloc | apply pw_below_drewN | apply below_drew1) | exact HB.out)))); have n1_ := Aside0.mk (below_step (by repeat (first | (with_reducible first | exact HB.out | apply below_alloc | apply pw_below_drewN | apply below_drew1) | exact HB.out)) hb); clear HB; have HO111 := n0_; have HB := n1_; clear n0_ n1_; clear hb ho21))
       go_loopg [7, 8, 9] kj11 (fun kq v7 v8 v9 w' => ∃ (x7_3 : List ByteArray) (x8_3 : Int) (x9_3 : Int), v8 = .int .i64 x8_3 ∧ v9 = .int .i64 x9_3 ∧ Aside0 (spec_Split.l1 kq a0 x5_1 x7_3 x8_3 x9_3 = some (r1, r2, r3)) ∧ Aside0 (kq ≤ kj11) ∧ Aside0 (Kd.R Kd.string 9 w' w.heap.size (fun _ => True) v7 x7_3) ∧ Aside0 (Below w.heap.size w w'))
       case atStart => exact ⟨(y109), (wrap64 (x5_1 + 2)), (wrap64 (x5_1 + 2)), (by first | rfl | (simp; done) | (simp [*]; done)), (by first | rfl | (simp; done) | (simp [*]; done)), H', ⟨Nat.le_refl _⟩, ⟨by (with_reducible repeat (first | apply Kd.R_alloc | apply Kd.R_drewN | apply Kd.R_drew)); exact HO111.out⟩, ⟨by repeat (first | (with_reducible first | exact HB.out | apply below_alloc | apply pw_below_drewN | apply below_drew1) | exact HB.out)⟩⟩
       case round =>
        clear H'
        try clear c1
        try clear p1
        try clear q1
        try clear hx1
        try clear c2
        try clear c2b0
        try clear p2
        try clear c3
        try clear c3b0
        try clear c4
        try clear c4b0
        try clear p5
        try clear q5
        try clear hx5
        try clear c6
        try clear c6b0
        try clear c6b1
        try clear p6
        try clear c8
        try clear c8b0
        try clear c9
        try clear c9b0
        try clear p10
        try clear q10
        try clear hx10
        try clear c11
        try clear c11b0
        try clear c11b1
        try clear c13
        try clear c13b0
        try clear c14
        try clear c14b0
        try clear c16
        try clear c16b0
        try clear c17
        try clear c17b0
        try clear p18
        try clear q18
        try clear hx18
        try clear c19
        try clear p1
        try clear p10
        try clear p18
        try clear p2
        try clear p5
        try clear p6
        try clear q1
        try clear q10
        try clear q18
        try clear q5
        obtain ⟨x7_3, x8_3, x9_3, rfl, rfl, HA, HK3, HO_7, HB⟩ := hrel
        cases gk with
        | zero => exact absurd HA.out (by simp [spec_Split.l1])
        | succ k3 =>
         have H := HA.out
         clear HA
         simp only [spec_Split.l1] at H
         by_cases c22 : x9_3 < (a0.size : Int)
         ·rw [if_pos c22] at H
          have c22b0 : decide (x9_3 < (a0.size : Int)) = true := decide_eq_true c22
          clear c22
          by_cases c23 : 0 ≤ x9_3
          ·rw [if_pos c23] at H
           have c23b0 : decide (0 ≤ x9_3) = true := decide_eq_true c23
           clear c23
           by_cases c25 : (bt a0 x9_3) = 10
           ·rw [if_pos c25] at H
            have c25b0 : ((bt a0 x9_3) == 10) = true := beq_iff_eq.mpr c25
            have c25b1 : ((bt a0 x9_3) != 10) = false := bne_eq_false_iff_eq.mpr c25
            clear c25
            by_cases c26 : 0 ≤ x8_3
            ·rw [if_pos c26] at H
             have c26b0 := eq_true c26
             have c26b1 : decide (0 ≤ x8_3) = true := decide_eq_true c26
             clear c26
             by_cases c27 : x8_3 ≤ x9_3
             ·rw [if_pos c27] at H
              have c27b0 := eq_true c27
              have c27b1 : decide (x8_3 ≤ x9_3) = true := decide_eq_true c27
              clear c27
              by_cases c28 : x9_3 ≤ (a0.size : Int)
              ·rw [if_pos c28] at H
               have c28b0 := eq_true c28
               have c28b1 : decide (x9_3 ≤ (a0.size : Int)) = true := decide_eq_true c28
               clear c28
               by_cases c29 : x7_3.length < 8796093022208
               ·rw [if_pos c29] at H
                have LMc29 := Aside0.mk c29
                clear c29
                obtain ⟨y112, hy112⟩ : ∃ y_ : List ByteArray, y_ = (x7_3 ++ [a0.extract (x8_3 : Int).toNat (x9_3 : Int).toNat]) := ⟨_, rfl⟩
                replace H : (spec_Split.l1 k3 a0 x5_1 y112 (wrap64 (x9_3 + 1)) (wrap64 (x9_3 + 1))) = some (r1, r2, r3) := by first | (rw [hy112]; with_reducible exact H) | (have H2_ := (Option.bind_some _ _).symm.trans H; rw [hy112]; with_reducible exact H2_) | (have H2_ := (Option.bind_some _ _).symm.trans H; with_reducible exact H2_) | with_reducible exact H | (rw [hy112]; exact H) | exact H
                have Ny112 := Aside0.mk hy112
                clear hy112
                have H' := Aside0.mk H
                clear H
                have p24 : 0 ≤ (x9_3 : Int) := of_decide_eq_true (by first | (with_reducible assumption) | assumption)
                have q24 : x9_3 < (a0.size : Int) := of_decide_eq_true (by first | (with_reducible assumption) | assumption)
                have hx24 := bt_at a0 x9_3
                replace p24 := eq_true p24
                replace q24 := eq_true q24
                go_wp2_with (first | ((with_reducible refine gate_builtin (b := .append) (xs := #[.tmp 60, .tmp 65]) rfl ?_); (try (refine gate_guard (by rfl) ?_; dsimp only)); at_builtin; refine Kd.R_append Kd.string (w0 := w) w.heap.size rfl (.tmp 60) (.tmp 65) 54 9 (.string ⟨#[]⟩) 16 rfl Tryz.underlying54 info9 rfl (by decide) (by omega) u7 x7_3 (a0.extract (x8_3 : Int).toNat (x9_3 : Int).toNat) [.string (a0.extract (x8_3 : Int).toNat (x9_3 : Int).toNat)] (fun _ => True) (fun _ => False) rfl rfl ?aP (fun _ hk => hk.elim) ?aF ?aO ?aB ?aS ?aL ?_; (case aP => exact rfl); (case aB => exact (by repeat (first | (with_reducible first | exact HB.out | apply below_alloc | apply pw_below_drewN | apply below_drew1) | exact HB.out))); (case aF => exact (fun _ _ => trivial)); (case aO => exact (by (with_reducible repeat (first | apply Kd.R_alloc | apply Kd.R_drewN | apply Kd.R_drew)); exact HO_7.out)); (case aS => exact (below_size (by repeat (first | (with_reducible first | exact HB.out | apply below_alloc | apply pw_below_drewN | apply below_drew1) | exact HB.out)))); (case aL => have := LMc29.out; omega); intro v113 w30 ho hb hg hat; rw [← Ny112.out] at ho; have n0_ := Aside0.mk (hb); have n1_ := Aside0.mk (ho); clear HB; clear HO_7; have HB := n0_; have HO114 := n1_; clear n0_ n1_; clear ho hb hg hat))
                go_roundg k3
                case measure => have := HK1.out; have := HJ11.out; have := HK3.out; omega
                case rel => exact ⟨(y112), (wrap64 (x9_3 + 1)), (wrap64 (x9_3 + 1)), (by first | rfl | (simp; done) | (simp [*]; done)), (by first | rfl | (simp; done) | (simp [*]; done)), H', ⟨by have := HK1.out; have := HJ11.out; have := HK3.out; omega⟩, ⟨by (with_reducible repeat (first | apply Kd.R_alloc | apply Kd.R_drewN | apply Kd.R_drew)); exact HO114.out⟩, ⟨by repeat (first | (with_reducible first | exact HB.out | apply below_alloc | apply pw_below_drewN | apply below_drew1) | exact HB.out)⟩⟩
               ·rw [if_neg c29] at H
                exact absurd H (by simp)
              ·rw [if_neg c28] at H
               exact absurd H (by simp)
             ·rw [if_neg c27] at H
              exact absurd H (by simp)
            ·rw [if_neg c26] at H
             exact absurd H (by simp)
           ·rw [if_neg c25] at H
            have c25b0 : ((bt a0 x9_3) == 10) = false := beq_eq_false_iff_ne.mpr c25
            have c25b1 : ((bt a0 x9_3) != 10) = true := bne_iff_ne.mpr c25
            have H' := Aside0.mk H
            clear H
            have p24 : 0 ≤ (x9_3 : Int) := of_decide_eq_true (by first | (with_reducible assumption) | assumption)
            have q24 : x9_3 < (a0.size : Int) := of_decide_eq_true (by first | (with_reducible assumption) | assumption)
            have hx24 := bt_at a0 x9_3
            replace p24 := eq_true p24
            replace q24 := eq_true q24
            go_wp2
            go_roundg k3
            case measure => have := HK1.out; have := HJ11.out; have := HK3.out; omega
            case rel => exact ⟨(x7_3), (x8_3), (wrap64 (x9_3 + 1)), (by first | rfl | (simp; done) | (simp [*]; done)), (by first | rfl | (simp; done) | (simp [*]; done)), H', ⟨by have := HK1.out; have := HJ11.out; have := HK3.out; omega⟩, ⟨by (with_reducible repeat (first | apply Kd.R_alloc | apply Kd.R_drewN | apply Kd.R_drew)); exact HO_7.out⟩, ⟨by repeat (first | (with_reducible first | exact HB.out | apply below_alloc | apply pw_below_drewN | apply below_drew1) | exact HB.out)⟩⟩
          ·rw [if_neg c23] at H
           exact absurd H (by simp)
         ·rw [if_neg c22] at H
          have c22b0 : decide (x9_3 < (a0.size : Int)) = false := decide_eq_false c22
          clear c22
          obtain ⟨ji31, hji31⟩ : ∃ j_ : Int, (wrap64 (x5_1 + 1)) = j_ := ⟨_, rfl⟩
          replace H : (if 0 ≤ (ji31) then (if (ji31) ≤ (a0.size : Int) then (some (a0.extract 0 ((ji31) : Int).toNat, x7_3, true)) else (none)) else (none)) = some (r1, r2, r3) := by first | (rw [hji31] at H; exact H) | (simp only [hji31] at H ⊢; exact H)
          have hji31w : (IntKind.i64.wrap (x5_1 + 1)) = ji31 := (i64_w _).trans hji31
          by_cases c32 : 0 ≤ (ji31)
          ·rw [if_pos c32] at H
           have c32b0 := eq_true c32
           have c32b1 : decide (0 ≤ (ji31)) = true := decide_eq_true c32
           clear c32
           by_cases c33 : (ji31) ≤ (a0.size : Int)
           ·rw [if_pos c33] at H
            have c33b0 := eq_true c33
            have c33b1 : decide ((ji31) ≤ (a0.size : Int)) = true := decide_eq_true c33
            clear c33
            simp only [Option.some.injEq, Prod.mk.injEq] at H
            obtain ⟨rfl, rfl, rfl⟩ := H
            go_wp2
            go_ret3
            exact ⟨_, by first | rfl | (simp [errW_none, errW_some] <;> rfl) | (simp only [← hji31]; first | rfl | (simp [errW_none, errW_some] <;> rfl)) | (simp [*, errW_none, errW_some] <;> rfl), by (with_reducible repeat (first | apply Kd.R_alloc | apply Kd.R_drewN | apply Kd.R_drew)); exact HO_7.out, by repeat (first | (with_reducible first | exact HB.out | apply below_alloc | apply pw_below_drewN | apply below_drew1) | exact HB.out)⟩
           ·rw [if_neg c33] at H
            exact absurd H (by simp)
          ·rw [if_neg c32] at H
           exact absurd H (by simp)
def spec_Plain.l0 : Nat → ByteArray → Int → Int → Option (Bool)
 | 0, _, _, _ => none
 | k + 1, x0, x5, x6 => if x6 < x5 then (if 0 ≤ x6 then (if x6 < (x0.size : Int) then (if (bt x0 x6) < 32 then (if (bt x0 x6) = 10 then (spec_Plain.l0 k x0 x5 (wrap64 (x6 + 1))) else (some false)) else (spec_Plain.l0 k x0 x5 (wrap64 (x6 + 1)))) else (none)) else (none)) else ((spec_Utf.f x0).bind fun t115 => (some t115))
def spec_Plain.f (k : Nat) (a0 : ByteArray) : Option (Bool) := spec_Plain.l0 k a0 (a0.size : Int) 0
theorem spec_Plain.mono_l : ∀ k, (∀ y0 y1 y2, LeO (spec_Plain.l0 k y0 y1 y2) (spec_Plain.l0 (k + 1) y0 y1 y2))
 | 0 => fun _ _ _ r h => by simp [spec_Plain.l0] at h
 | k + 1 => by
  have ih0 := spec_Plain.mono_l k
  ·intro y0 y1 y2
   unfold spec_Plain.l0
   repeat' first
   | (with_reducible exact ih0 _ _ _)
   | (with_reducible exact LeO.refl _)
   | (with_reducible exact LeO.none _)
   | (with_reducible refine LeO.ite ?_ ?_)
   | (with_reducible refine LeO.bind ?_ (fun _ => ?_))
   | exact ih0 _ _ _
   | exact LeO.none _
   | refine LeO.ite ?_ ?_
   | refine LeO.bind ?_ (fun _ => ?_)
theorem spec_Plain.mono : ∀ a0 k, LeO (spec_Plain.f k a0) (spec_Plain.f (k + 1) a0) := by
 intro a0 k
 have ih0 := spec_Plain.mono_l k
 unfold spec_Plain.f
 repeat' first
   | (with_reducible exact ih0 _ _ _)
   | (with_reducible exact LeO.refl _)
   | (with_reducible exact LeO.none _)
   | (with_reducible refine LeO.ite ?_ ?_)
   | (with_reducible refine LeO.bind ?_ (fun _ => ?_))
   | exact ih0 _ _ _
   | exact LeO.none _
   | refine LeO.ite ?_ ?_
   | refine LeO.bind ?_ (fun _ => ?_)
set_option maxHeartbeats 8000000 in
set_option maxRecDepth 100000 in
theorem spec_Plain.calls (k : Nat) (a0 : ByteArray) (r : Bool) (w : World) (h : spec_Plain.f k a0 = some r) :
  Calls Tryz.prog 18 #[.string a0] w fun e w' => e = .returned (.bool r) ∧ Below w.heap.size w w' := by
 have HB := Aside0.mk (Below.refl w.heap.size w)
 have H : (spec_Plain.l0 k a0 (a0.size : Int) 0) = some r := h
 clear h
 have H' := Aside0.mk H
 clear H
 go_enter Tryz.func18, Tryz.ntmps18
 go_wp2
 go_loopg [6] k (fun kq v6 w' => ∃ (x6_1 : Int), v6 = .int .i64 x6_1 ∧ Aside0 (spec_Plain.l0 kq a0 (a0.size : Int) x6_1 = some r) ∧ Aside0 (kq ≤ k) ∧ Aside0 (Below w.heap.size w w'))
 case atStart => exact ⟨(0), (by first | rfl | (simp; done) | (simp [*]; done)), H', ⟨Nat.le_refl _⟩, ⟨by repeat (first | (with_reducible first | exact HB.out | apply below_alloc | apply pw_below_drewN | apply below_drew1) | exact HB.out)⟩⟩
 case round =>
  clear H'
  try clear c1
  obtain ⟨x6_1, rfl, HA, HK1, HB⟩ := hrel
  cases gk with
  | zero => exact absurd HA.out (by simp [spec_Plain.l0])
  | succ k1 =>
   have H := HA.out
   clear HA
   simp only [spec_Plain.l0] at H
   by_cases c2 : x6_1 < (a0.size : Int)
   ·rw [if_pos c2] at H
    have c2b0 : decide (x6_1 < (a0.size : Int)) = true := decide_eq_true c2
    clear c2
    by_cases c3 : 0 ≤ x6_1
    ·rw [if_pos c3] at H
     have c3b0 : decide (0 ≤ x6_1) = true := decide_eq_true c3
     clear c3
     by_cases c4 : x6_1 < (a0.size : Int)
     ·rw [if_pos c4] at H
      have c4b0 : decide (x6_1 < (a0.size : Int)) = true := decide_eq_true c4
      clear c4
      by_cases c6 : (bt a0 x6_1) < 32
      ·rw [if_pos c6] at H
       have c6b0 : decide ((bt a0 x6_1) < 32) = true := decide_eq_true c6
       clear c6
       by_cases c8 : (bt a0 x6_1) = 10
       ·rw [if_pos c8] at H
        have c8b0 : ((bt a0 x6_1) == 10) = true := beq_iff_eq.mpr c8
        have c8b1 : ((bt a0 x6_1) != 10) = false := bne_eq_false_iff_eq.mpr c8
        clear c8
        have H' := Aside0.mk H
        clear H
        have p5 : 0 ≤ (x6_1 : Int) := of_decide_eq_true (by first | (with_reducible assumption) | assumption)
        have q5 : x6_1 < (a0.size : Int) := of_decide_eq_true (by first | (with_reducible assumption) | assumption)
        have hx5 := bt_at a0 x6_1
        replace p5 := eq_true p5
        replace q5 := eq_true q5
        have p7 : 0 ≤ (x6_1 : Int) := of_decide_eq_true (by first | (with_reducible assumption) | assumption)
        have q7 : x6_1 < (a0.size : Int) := of_decide_eq_true (by first | (with_reducible assumption) | assumption)
        have hx7 := bt_at a0 x6_1
        replace p7 := eq_true p7
        replace q7 := eq_true q7
        go_wp2
        go_roundg k1
        case measure => have := HK1.out; omega
        case rel => exact ⟨(wrap64 (x6_1 + 1)), (by first | rfl | (simp; done) | (simp [*]; done)), H', ⟨by have := HK1.out; omega⟩, ⟨by repeat (first | (with_reducible first | exact HB.out | apply below_alloc | apply pw_below_drewN | apply below_drew1) | exact HB.out)⟩⟩
       ·rw [if_neg c8] at H
        have c8b0 : ((bt a0 x6_1) == 10) = false := beq_eq_false_iff_ne.mpr c8
        have c8b1 : ((bt a0 x6_1) != 10) = true := bne_iff_ne.mpr c8
        obtain rfl := Option.some.inj H
        have p5 : 0 ≤ (x6_1 : Int) := of_decide_eq_true (by first | (with_reducible assumption) | assumption)
        have q5 : x6_1 < (a0.size : Int) := of_decide_eq_true (by first | (with_reducible assumption) | assumption)
        have hx5 := bt_at a0 x6_1
        replace p5 := eq_true p5
        replace q5 := eq_true q5
        have p7 : 0 ≤ (x6_1 : Int) := of_decide_eq_true (by first | (with_reducible assumption) | assumption)
        have q7 : x6_1 < (a0.size : Int) := of_decide_eq_true (by first | (with_reducible assumption) | assumption)
        have hx7 := bt_at a0 x6_1
        replace p7 := eq_true p7
        replace q7 := eq_true q7
        go_wp2
        go_ret
        exact ⟨by first | rfl | (simp [errW_none, errW_some] <;> rfl) | (simp [*, errW_none, errW_some] <;> rfl), by repeat (first | (with_reducible first | exact HB.out | apply below_alloc | apply pw_below_drewN | apply below_drew1) | exact HB.out)⟩
      ·rw [if_neg c6] at H
       have c6b0 : decide ((bt a0 x6_1) < 32) = false := decide_eq_false c6
       clear c6
       have H' := Aside0.mk H
       clear H
       have p5 : 0 ≤ (x6_1 : Int) := of_decide_eq_true (by first | (with_reducible assumption) | assumption)
       have q5 : x6_1 < (a0.size : Int) := of_decide_eq_true (by first | (with_reducible assumption) | assumption)
       have hx5 := bt_at a0 x6_1
       replace p5 := eq_true p5
       replace q5 := eq_true q5
       go_wp2
       go_roundg k1
       case measure => have := HK1.out; omega
       case rel => exact ⟨(wrap64 (x6_1 + 1)), (by first | rfl | (simp; done) | (simp [*]; done)), H', ⟨by have := HK1.out; omega⟩, ⟨by repeat (first | (with_reducible first | exact HB.out | apply below_alloc | apply pw_below_drewN | apply below_drew1) | exact HB.out)⟩⟩
     ·rw [if_neg c4] at H
      exact absurd H (by simp)
    ·rw [if_neg c3] at H
     exact absurd H (by simp)
   ·rw [if_neg c2] at H
    have c2b0 : decide (x6_1 < (a0.size : Int)) = false := decide_eq_false c2
    clear c2
    replace H := Option.bind_eq_some_iff.mp H
    obtain ⟨t115, A90, H⟩ := H
    replace H : (some t115) = some r := H
    have A9 := Aside0.mk A90
    clear A90
    obtain rfl := Option.some.inj H
    go_wp2_with (first | ((with_reducible refine gate_callee (f := 33) rfl ?_); refine goesL_ (some 21) rfl rfl Tryz.func33 (by kernel_rfl) rfl #[.string a0] rfl (by (try simp only [List.map_toArray, List.map_cons, List.map_nil]); first | done | rfl | (simp only [List.length_drop, List.length_take]; rfl)) ?_; (with_reducible refine (spec_Utf.calls a0 t115 _ A9.out).mono ?_); rintro e w10 ⟨rfl, hb⟩; refine ⟨_, rfl, ?_⟩; have n0_ := Aside0.mk (below_step (by repeat (first | (with_reducible first | exact HB.out | apply below_alloc | apply pw_below_drewN | apply below_drew1) | exact HB.out)) hb); clear HB; have HB := n0_; clear n0_; (try clear hb); (try clear hb2); (try clear hk); (try clear hi)))
    go_ret
    exact ⟨by first | rfl | (simp [errW_none, errW_some] <;> rfl) | (simp [*, errW_none, errW_some] <;> rfl), by repeat (first | (with_reducible first | exact HB.out | apply below_alloc | apply pw_below_drewN | apply below_drew1) | exact HB.out)⟩
end Go.Proofs.YtkbegfihdpiacaaGreatDoor.PX
namespace Go.Proofs.YtkbegfihdpiacaaGreatDoor.PX
open Go.RowKit Go.Proofs.YtkbegfihdpiacaaGreatDoorW.PrintWords Go.Proofs.YtkbegfihdpiacaaGreatDoorW.PrintLast Go.Proofs.YtkbegfihdpiacaaGreatDoorW.PrintMore
attribute [local go_sem] max2_int min2_int max_two min_two max_three min_three max_four min_four   -- for this text's walks alone
mutual
def laws_right.l0 : Nat → List (S35) → List (S35) → Int → Int → Option (Bool)
 | 0, _, _, _, _ => none
 | k + 1, x0, x7, x8, x9 => if x9 < x8 then (if 0 ≤ x9 then (if x9 < (x7.length : Int) then ((spec_Name.f ((rd_T35 x7 x9).f0)).bind fun t242 => (if t242 = true then ((spec_Plain.f k ((rd_T35 x7 x9).f0)).bind fun t243 => (if t243 = true then (if (rd_T35 x7 x9).f3 = true then (laws_right.j1 k x0 x9 x7 x8 x9 true ((rd_T35 x7 x9).f0) ((rd_T35 x7 x9).f1) ((rd_T35 x7 x9).f2) ((rd_T35 x7 x9).f3)) else (laws_right.j1 k x0 x9 x7 x8 x9 (((rd_T35 x7 x9).f2).toList == ([] : List UInt8)) ((rd_T35 x7 x9).f0) ((rd_T35 x7 x9).f1) ((rd_T35 x7 x9).f2) ((rd_T35 x7 x9).f3))) else (laws_right.j1 k x0 x9 x7 x8 x9 true ((rd_T35 x7 x9).f0) ((rd_T35 x7 x9).f1) ((rd_T35 x7 x9).f2) ((rd_T35 x7 x9).f3)))) else (laws_right.j1 k x0 x9 x7 x8 x9 true ((rd_T35 x7 x9).f0) ((rd_T35 x7 x9).f1) ((rd_T35 x7 x9).f2) ((rd_T35 x7 x9).f3)))) else (none)) else (none)) else (some (decide ((x0.length : Int) > 0)))
def laws_right.j1 : Nat → List (S35) → Int → List (S35) → Int → Int → Bool → ByteArray → Int → ByteArray → Bool → Option (Bool)
 | 0, _, _, _, _, _, _, _, _, _, _ => none
 | k + 1, x0, x3, x7, x8, x9, x32, x242000, x242001, x242002, x242003 => if x32 = true then (some false) else (if 0 ≤ x3 then (if x3 ≤ (x0.length : Int) then ((some (x0.take (x3 : Int).toNat : List (S35))).bind fun y244 => (laws_right.l1 k x0 x7 x8 x9 y244 (y244.length : Int) 0 x242000 x242001 x242002 x242003)) else (none)) else (none))
def laws_right.l1 : Nat → List (S35) → List (S35) → Int → Int → List (S35) → Int → Int → ByteArray → Int → ByteArray → Bool → Option (Bool)
 | 0, _, _, _, _, _, _, _, _, _, _, _ => none
 | k + 1, x0, x7, x8, x9, x35, x36, x37, x242000, x242001, x242002, x242003 => if x37 < x36 then (if 0 ≤ x37 then (if x37 < (x35.length : Int) then (if ((rd_T35 x35 x37).f0).toList = x242000.toList then (if ((rd_T35 x35 x37).f1) = x242001 then (some false) else (laws_right.l1 k x0 x7 x8 x9 x35 x36 (wrap64 (x37 + 1)) x242000 x242001 x242002 x242003)) else (laws_right.l1 k x0 x7 x8 x9 x35 x36 (wrap64 (x37 + 1)) x242000 x242001 x242002 x242003)) else (none)) else (none)) else (laws_right.l0 k x0 x7 x8 (wrap64 (x9 + 1)))
end
def laws_right.f (k : Nat) (l0 : List (S35)) : Option (Bool) := laws_right.l0 k l0 l0 (l0.length : Int) 0
theorem laws_right.mono_l : ∀ k, (∀ y0 y1 y2 y3, LeO (laws_right.l0 k y0 y1 y2 y3) (laws_right.l0 (k + 1) y0 y1 y2 y3)) ∧ (∀ y0 y1 y2 y3 y4 y5 y6 y7 y8 y9, LeO (laws_right.j1 k y0 y1 y2 y3 y4 y5 y6 y7 y8 y9) (laws_right.j1 (k + 1) y0 y1 y2 y3 y4 y5 y6 y7 y8 y9)) ∧ (∀ y0 y1 y2 y3 y4 y5 y6 y7 y8 y9 y10, LeO (laws_right.l1 k y0 y1 y2 y3 y4 y5 y6 y7 y8 y9 y10) (laws_right.l1 (k + 1) y0 y1 y2 y3 y4 y5 y6 y7 y8 y9 y10))
 | 0 => ⟨fun _ _ _ _ r h => by simp [laws_right.l0] at h, fun _ _ _ _ _ _ _ _ _ _ r h => by simp [laws_right.j1] at h, fun _ _ _ _ _ _ _ _ _ _ _ r h => by simp [laws_right.l1] at h⟩
 | k + 1 => by
  obtain ⟨ih0, ih1, ih2⟩ := laws_right.mono_l k
  refine ⟨?_, ?_, ?_⟩
  ·intro y0 y1 y2 y3
   unfold laws_right.l0
   repeat' first
   | (with_reducible exact ih0 _ _ _ _)
   | (with_reducible exact ih1 _ _ _ _ _ _ _ _ _ _)
   | (with_reducible exact ih2 _ _ _ _ _ _ _ _ _ _ _)
   | (with_reducible exact spec_Plain.mono _ _)
   | (with_reducible exact LeO.refl _)
   | (with_reducible exact LeO.none _)
   | (with_reducible refine LeO.ite ?_ ?_)
   | (with_reducible refine LeO.bind ?_ (fun _ => ?_))
   | exact ih0 _ _ _ _
   | exact ih1 _ _ _ _ _ _ _ _ _ _
   | exact ih2 _ _ _ _ _ _ _ _ _ _ _
   | exact spec_Plain.mono _ _
   | exact LeO.none _
   | refine LeO.ite ?_ ?_
   | refine LeO.bind ?_ (fun _ => ?_)
  ·intro y0 y1 y2 y3 y4 y5 y6 y7 y8 y9
   unfold laws_right.j1
   repeat' first
   | (with_reducible exact ih0 _ _ _ _)
   | (with_reducible exact ih1 _ _ _ _ _ _ _ _ _ _)
   | (with_reducible exact ih2 _ _ _ _ _ _ _ _ _ _ _)
   | (with_reducible exact spec_Plain.mono _ _)
   | (with_reducible exact LeO.refl _)
   | (with_reducible exact LeO.none _)
   | (with_reducible refine LeO.ite ?_ ?_)
   | (with_reducible refine LeO.bind ?_ (fun _ => ?_))
   | exact ih0 _ _ _ _
   | exact ih1 _ _ _ _ _ _ _ _ _ _
   | exact ih2 _ _ _ _ _ _ _ _ _ _ _
   | exact spec_Plain.mono _ _
   | exact LeO.none _
   | refine LeO.ite ?_ ?_
   | refine LeO.bind ?_ (fun _ => ?_)
  ·intro y0 y1 y2 y3 y4 y5 y6 y7 y8 y9 y10
   unfold laws_right.l1
   repeat' first
   | (with_reducible exact ih0 _ _ _ _)
   | (with_reducible exact ih1 _ _ _ _ _ _ _ _ _ _)
   | (with_reducible exact ih2 _ _ _ _ _ _ _ _ _ _ _)
   | (with_reducible exact spec_Plain.mono _ _)
   | (with_reducible exact LeO.refl _)
   | (with_reducible exact LeO.none _)
   | (with_reducible refine LeO.ite ?_ ?_)
   | (with_reducible refine LeO.bind ?_ (fun _ => ?_))
   | exact ih0 _ _ _ _
   | exact ih1 _ _ _ _ _ _ _ _ _ _
   | exact ih2 _ _ _ _ _ _ _ _ _ _ _
   | exact spec_Plain.mono _ _
   | exact LeO.none _
   | refine LeO.ite ?_ ?_
   | refine LeO.bind ?_ (fun _ => ?_)
theorem laws_right.mono : ∀ a0 k, LeO (laws_right.f k a0) (laws_right.f (k + 1) a0) := by
 intro a0 k
 obtain ⟨ih0, ih1, ih2⟩ := laws_right.mono_l k
 unfold laws_right.f
 repeat' first
   | (with_reducible exact ih0 _ _ _ _)
   | (with_reducible exact ih1 _ _ _ _ _ _ _ _ _ _)
   | (with_reducible exact ih2 _ _ _ _ _ _ _ _ _ _ _)
   | (with_reducible exact spec_Plain.mono _ _)
   | (with_reducible exact LeO.refl _)
   | (with_reducible exact LeO.none _)
   | (with_reducible refine LeO.ite ?_ ?_)
   | (with_reducible refine LeO.bind ?_ (fun _ => ?_))
   | exact ih0 _ _ _ _
   | exact ih1 _ _ _ _ _ _ _ _ _ _
   | exact ih2 _ _ _ _ _ _ _ _ _ _ _
   | exact spec_Plain.mono _ _
   | exact LeO.none _
   | refine LeO.ite ?_ ?_
   | refine LeO.bind ?_ (fun _ => ?_)
end Go.Proofs.YtkbegfihdpiacaaGreatDoor.PX
namespace Go.Proofs.YtkbegfihdpiacaaGreatDoor.PX
open Go.RowKit Nt Go.Lib Go.Maps Go.Proofs.YtkbegfihdpiacaaGreatDoorW.PrintWords Go.Proofs.YtkbegfihdpiacaaGreatDoorW.PrintLast
def sig75 (x : S122) : S82 := ⟨x.f0, x.f1, x.f2⟩
theorem in_l0 (x : List S122) (hx : x.length ≤ 1000000) : ∀ (k i : Nat) (acc : List S82), acc.length ≤ i → i ≤ x.length → x.length - i < k → impl_in.l0 k acc x (x.length : Int) (i : Int) = some (acc ++ (x.drop i).map sig75)
 | 0, i, acc, _, _, h => by omega
 | k + 1, i, acc, ha, hi, h => by
  unfold impl_in.l0
  by_cases hlt : i < x.length
  ·rw [if_pos (by omega), if_pos (by omega), if_pos (by omega), if_pos (by omega)]
   have hw : wrap64 ((i : Int) + 1) = ((i + 1 : Nat) : Int) := by exact (IntWalk.wrap64_in _ (by omega)).trans (by omega)
   rw [hw, in_l0 x hx k (i + 1) _ (by rw [List.length_append]; simp only [List.length_cons, List.length_nil]; omega) (by omega) (by omega)]
   have hr : rd_T122 x i = x[i] := by
    unfold rd_T122; simp [List.getElem?_eq_getElem hlt]
   rw [List.drop_eq_getElem_cons hlt, List.map_cons, List.append_assoc, hr]
   rfl
  ·rw [if_neg (by omega)]
   have : x.drop i = [] := List.drop_eq_nil_of_le (by omega)
   rw [this]; simp
theorem in_eq (x : List S122) (hx : x.length ≤ 1000000) : impl_in.f (x.length + 1) x = some (x.map sig75) := by
 have h := in_l0 x hx (x.length + 1) 0 [] (Nat.le_refl _) (by omega) (by omega)
 unfold impl_in.f
 simpa using h
theorem R_form {w : World} {base : Nat} {v : Value} {xs : List S122} (h : Kd.R k122 122 w base (fun _ => True) v xs) : ∃ A c, v = .slice A xs.length c ∧ Kd.C k122 w A xs.length xs ∧ xs.length ≤ c := by
 obtain ⟨A, c, rfl⟩ := Kd.R_slice h
 exact ⟨A, c, rfl, (Kd.R_reads' h).2.2, (Kd.R_reads' h).2.1⟩
theorem bs {w W : World} {gN : Nat} {x0 x1 x2 : Value} (hb : Below w.heap.size w W) (h0 : w.cell? ⟨gN, 0, none⟩ = some x0) (h1 : w.cell? ⟨gN, 1, none⟩ = some x1) (h2 : w.cell? ⟨gN, 2, none⟩ = some x2) :
  Below w.heap.size w W ∧ W.cell? ⟨gN, 0, none⟩ = some x0 ∧ W.cell? ⟨gN, 1, none⟩ = some x1 ∧ W.cell? ⟨gN, 2, none⟩ = some x2 := ⟨hb, pw_cell_below hb h0, pw_cell_below hb h1, pw_cell_below hb h2⟩
theorem bk2 {X w1 w2 : World} {N : Nat} {C : Obj} (h : X.heap[N]? = some C) (hx : N < X.heap.size) (h1 : Below X.heap.size X w1) (h2 : Below w1.heap.size w1 w2) : w2.heap[N]? = some C :=
 (h2.block _ (Nat.lt_of_lt_of_le hx h1.size)).trans ((h1.block _ hx).trans h)
theorem three {w : World} {g t : Nat} {x0 x1 x2 : Value} (h : w.heap[g]? = some (.cells #[x0, x1, x2] t (0, 0))) :
  w.cell? ⟨g, 0, none⟩ = some x0 ∧ w.cell? ⟨g, 1, none⟩ = some x1 ∧ w.cell? ⟨g, 2, none⟩ = some x2 ∧ w.frozen? ⟨g, 0, none⟩ = false ∧ w.frozen? ⟨g, 1, none⟩ = false ∧ w.frozen? ⟨g, 2, none⟩ = false :=
 ⟨(blk_cell h 0).trans rfl, (blk_cell h 1).trans rfl, (blk_cell h 2).trans rfl, blk_frozen h 0, blk_frozen h 1, blk_frozen h 2⟩
theorem far3 {w : World} {N B e : Nat} {v : Value} {xs : List S82} (h : Kd.R k82 e w B (fun _ => True) v xs) (hN : N < B) (u0 u1 u2 : Value) :
  Kd.R k82 e (((w.setCell ⟨N, 0, none⟩ u0).setCell ⟨N, 1, none⟩ u1).setCell ⟨N, 2, none⟩ u2) N (fun _ => True) v xs :=
 Kd.R_lower (Kd.R_mono (Kd.R_far (p := ⟨N, 2, none⟩) (Kd.R_far (p := ⟨N, 1, none⟩) (Kd.R_far (p := ⟨N, 0, none⟩) (Kd.R_bound h) (fun k hk => by have := hk.2.1; show k ≠ N; omega) u0) (fun k hk => by have := hk.2.1; show k ≠ N; omega) u1) (fun k hk => by have := hk.2.1; show k ≠ N; omega) u2) (fun _ _ => trivial)) (by omega)
set_option maxRecDepth 100000 in
set_option maxHeartbeats 4000000 in
theorem backC (w : World) (gN : Nat) (text : ByteArray) (vS vU : Value) (sigs unv : List S122) (base : Nat) (hg : w.heap[gN]? = some (.cells #[.string text, vS, vU] 94 (0, 0)))
  (hS : Kd.R k122 122 w base (fun _ => True) vS sigs) (hU : Kd.R k122 122 w base (fun _ => True) vU unv) (ls : sigs.length ≤ 1000000) (lu : unv.length ≤ 1000000) :
  Calls Tryz.prog 27 #[.pointer (some ⟨gN, 0, none⟩)] w (fun e w' => ∃ v1 v2, e = .returned (.agg #[.string text, v1, v2]) ∧
   Kd.R k82 82 w' w.heap.size (fun _ => True) v1 (sigs.map sig75) ∧ Kd.R k82 82 w' w.heap.size (fun _ => True) v2 (unv.map sig75) ∧ Below w.heap.size w w') := by
 obtain ⟨A1, c1, rfl, h1, l1⟩ := R_form hS
 obtain ⟨A2, c2, rfl, h2, l2⟩ := R_form hU
 have H1 := Lib.hid h1
 have H2 := Lib.hid h2
 have hgl : gN < w.heap.size := by
  rcases Nat.lt_or_ge gN w.heap.size with h | h
  ·exact h
  ·rw [Array.getElem?_eq_none h] at hg; cases hg
 have HG := Lib.hid hg
 have g0 : w.cell? ⟨gN, 0, none⟩ = some (.string text) := by unfold World.cell?; rw [hg]; rfl
 have g1 : w.cell? ⟨gN, 1, none⟩ = some (.slice A1 sigs.length c1) := by unfold World.cell?; rw [hg]; rfl
 have g2 : w.cell? ⟨gN, 2, none⟩ = some (.slice A2 unv.length c2) := by unfold World.cell?; rw [hg]; rfl
 clear h1 h2 hS hU hg
 go_enter Tryz.func27, Tryz.ntmps27
 go_wp2_with fail
 have hB : Below w.heap.size w (w.alloc (.cells #[.string ⟨#[]⟩, .slice none 0 0, .slice none 0 0] 42 (0, 0))) := (Below.refl _ _).alloc (Nat.le_refl _) _
 have hbk0 : ((w.alloc (.cells #[.string ⟨#[]⟩, .slice none 0 0, .slice none 0 0] 42 (0, 0))).drew).heap[w.heap.size]? = some (.cells #[.string ⟨#[]⟩, .slice none 0 0, .slice none 0 0] 42 (0, 0)) := heap_alloc_new w _
 have hx0 : w.heap.size < (w.alloc (.cells #[.string ⟨#[]⟩, .slice none 0 0, .slice none 0 0] 42 (0, 0))).drew.heap.size := by show w.heap.size < (w.alloc _).heap.size; simp
 go_region_held3 (fun W => Below w.heap.size w W ∧ W.cell? ⟨gN, 0, none⟩ = some (.string text) ∧ W.cell? ⟨gN, 1, none⟩ = some (.slice A1 sigs.length c1) ∧ W.cell? ⟨gN, 2, none⟩ = some (.slice A2 unv.length c2))
  (first | exact bs (below_drew1 hB) g0 g1 g2 | exact bs hq1 g0 g1 g2 | exact bs hq2 g0 g1 g2 | exact bs (((hq2.setCell (Nat.le_refl _) _).setCell (Nat.le_refl _) _).setCell (Nat.le_refl _) _) g0 g1 g2 | fail)
  (first
   | (go_at_call 46; with_reducible refine (impl_in.calls _ A1 c1 sigs _ _ (Kd.C_below H1.out (‹Below w.heap.size w _ ∧ _›).1) l1 (in_eq sigs ls)).mono ?_; rintro e w1 ⟨v1, rfl, hr1, hb1⟩; obtain ⟨B1, d1, rfl⟩ := Kd.R_slice hr1; have hq1 := (below_drew1 hB).trans (hb1.mono (below_drew1 hB).size))
   | (go_at_call 46; with_reducible refine (impl_in.calls _ A2 c2 unv _ _ (Kd.C_below H2.out (‹Below w.heap.size w _ ∧ _›).1) l2 (in_eq unv lu)).mono ?_; rintro e w2 ⟨v2, rfl, hr2, hb2⟩; obtain ⟨B2, d2, rfl⟩ := Kd.R_slice hr2; have hq2 := hq1.trans (hb2.mono hq1.size); have hbk2 := bk2 hbk0 hx0 hb1 hb2; obtain ⟨hs0, hs1, hs2, hf0, hf1, hf2⟩ := three hbk2; have hne := Nat.ne_of_gt hgl))
 go_wp2_with fail
 refine bodyPost_ret (results_cell_row rfl _ _ w.heap.size 42 #[.string text, .slice B1 sigs.length d1, .slice B2 unv.length d2] (0, 0) _ rfl (blk_put (cs := #[.string text, .slice B1 sigs.length d1, .slice none 0 0]) (blk_put (cs := #[.string text, .slice none 0 0, .slice none 0 0]) (blk_put (cs := #[.string ⟨#[]⟩, .slice none 0 0, .slice none 0 0]) hbk2 0 _ rfl) 1 _ rfl) 2 _ rfl) Tryz.underlying42 rfl (by kernel_rfl)) rfl ?_
 refine ⟨_, _, rfl, ?_, ?_, ((hq2.setCell (Nat.le_refl _) _).setCell (Nat.le_refl _) _).setCell (Nat.le_refl _) _⟩
 ·rw [List.length_map] at hr1
  exact far3 (Kd.R_below hr1 hb2) hx0 _ _ _
 ·rw [List.length_map] at hr2
  exact far3 hr2 (Nat.lt_of_lt_of_le hx0 hb1.size) _ _ _
end Go.Proofs.YtkbegfihdpiacaaGreatDoor.PX
