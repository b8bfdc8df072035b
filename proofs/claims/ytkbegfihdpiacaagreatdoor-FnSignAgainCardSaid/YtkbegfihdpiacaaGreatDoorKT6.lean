/- Part 6 of the proof: what the theorem reaches of the texts KR10. -/
import Derived.Test.YtkbegfihdpiacaaGreatDoorKT4
import Derived.Test.YtkbegfihdpiacaaGreatDoorKT5
set_option linter.unusedVariables false
set_option linter.unusedSimpArgs false
namespace Go.Proofs.YtkbegfihdpiacaaGreatDoor.PX
open Go.RowKit Go.Proofs.YtkbegfihdpiacaaGreatDoorW.PrintWords Go.Proofs.YtkbegfihdpiacaaGreatDoorW.PrintLast Go.Proofs.YtkbegfihdpiacaaGreatDoorW.PrintMore
attribute [local go_sem] max2_int min2_int max_two min_two max_three min_three max_four min_four   -- for this text's walks alone
mutual
def spec_Decode.j1 : Nat → ByteArray → Int → Option (ByteArray × Bool × Bool)
 | 0, _, _ => none
 | k + 1, x0, x5 => spec_Decode.l1 k x0 x5 (([] : List Int)) true 0
def spec_Decode.l1 : Nat → ByteArray → Int → List Int → Bool → Int → Option (ByteArray × Bool × Bool)
 | 0, _, _, _, _, _ => none
 | k + 1, x0, x5, x6, x7, x8 => if x8 < (x0.size : Int) then (if (wrap64 (x8 + 4)) = (x0.size : Int) then (spec_Decode.j3 k x0 x5 x6 x7 x8 0 (wrap64 (4 - x5))) else (spec_Decode.j3 k x0 x5 x6 x7 x8 0 4)) else (some (strOfNums x6, true, x7))
def spec_Decode.j3 : Nat → ByteArray → Int → List Int → Bool → Int → Int → Int → Option (ByteArray × Bool × Bool)
 | 0, _, _, _, _, _, _, _ => none
 | k + 1, x0, x5, x6, x7, x8, x9, x10 => spec_Decode.l2 k x0 x5 x6 x7 x8 x9 x10 0
def spec_Decode.l2 : Nat → ByteArray → Int → List Int → Bool → Int → Int → Int → Int → Option (ByteArray × Bool × Bool)
 | 0, _, _, _, _, _, _, _, _ => none
 | k + 1, x0, x5, x6, x7, x8, x9, x10, x51 => if x51 < 4 then (if x51 < x10 then (if 0 ≤ (wrap64 (x8 + x51)) then (if (wrap64 (x8 + x51)) < (x0.size : Int) then ((spec_figure.f k (bt x0 (wrap64 (x8 + x51)))).bind fun t179 => (if t179 < 0 then (some ((⟨#[]⟩ : ByteArray), false, true)) else (spec_Decode.l2 k x0 x5 x6 x7 x8 (Go.bits .or .i64 (wrap64 (x9 * 64)) t179) x10 (wrap64 (x51 + 1))))) else (none)) else (none)) else (spec_Decode.l2 k x0 x5 x6 x7 x8 (Go.bits .or .i64 (wrap64 (x9 * 64)) 0) x10 (wrap64 (x51 + 1)))) else (if x7 = true then (if x10 = 3 then (if (Go.bits .and .i64 x9 255) = 0 then (if x10 = 2 then ((some (([(x9 / 65536) % 256, (x9 / 256) % 256, (x9) % 256] : List Int) : List Int)).bind fun y119 => (if 0 ≤ (wrap64 (x10 - 1)) then (if (wrap64 (x10 - 1)) ≤ (y119.length : Int) then ((some (y119.take ((wrap64 (x10 - 1)) : Int).toNat : List Int)).bind fun y122 => (if x6.length + y122.length < 140737488355328 then (spec_Decode.l1 k x0 x5 (x6 ++ y122) ((Go.bits .and .i64 x9 65535) == 0) (wrap64 (x8 + 4))) else (none))) else (none)) else (none))) else ((some (([(x9 / 65536) % 256, (x9 / 256) % 256, (x9) % 256] : List Int) : List Int)).bind fun y129 => (if 0 ≤ (wrap64 (x10 - 1)) then (if (wrap64 (x10 - 1)) ≤ (y129.length : Int) then ((some (y129.take ((wrap64 (x10 - 1)) : Int).toNat : List Int)).bind fun y132 => (if x6.length + y132.length < 140737488355328 then (spec_Decode.l1 k x0 x5 (x6 ++ y132) true (wrap64 (x8 + 4))) else (none))) else (none)) else (none)))) else ((some (([(x9 / 65536) % 256, (x9 / 256) % 256, (x9) % 256] : List Int) : List Int)).bind fun y139 => (if 0 ≤ (wrap64 (x10 - 1)) then (if (wrap64 (x10 - 1)) ≤ (y139.length : Int) then ((some (y139.take ((wrap64 (x10 - 1)) : Int).toNat : List Int)).bind fun y142 => (if x6.length + y142.length < 140737488355328 then (spec_Decode.l1 k x0 x5 (x6 ++ y142) false (wrap64 (x8 + 4))) else (none))) else (none)) else (none)))) else (if x10 = 2 then ((some (([(x9 / 65536) % 256, (x9 / 256) % 256, (x9) % 256] : List Int) : List Int)).bind fun y149 => (if 0 ≤ (wrap64 (x10 - 1)) then (if (wrap64 (x10 - 1)) ≤ (y149.length : Int) then ((some (y149.take ((wrap64 (x10 - 1)) : Int).toNat : List Int)).bind fun y152 => (if x6.length + y152.length < 140737488355328 then (spec_Decode.l1 k x0 x5 (x6 ++ y152) ((Go.bits .and .i64 x9 65535) == 0) (wrap64 (x8 + 4))) else (none))) else (none)) else (none))) else ((some (([(x9 / 65536) % 256, (x9 / 256) % 256, (x9) % 256] : List Int) : List Int)).bind fun y159 => (if 0 ≤ (wrap64 (x10 - 1)) then (if (wrap64 (x10 - 1)) ≤ (y159.length : Int) then ((some (y159.take ((wrap64 (x10 - 1)) : Int).toNat : List Int)).bind fun y162 => (if x6.length + y162.length < 140737488355328 then (spec_Decode.l1 k x0 x5 (x6 ++ y162) true (wrap64 (x8 + 4))) else (none))) else (none)) else (none))))) else ((some (([(x9 / 65536) % 256, (x9 / 256) % 256, (x9) % 256] : List Int) : List Int)).bind fun y169 => (if 0 ≤ (wrap64 (x10 - 1)) then (if (wrap64 (x10 - 1)) ≤ (y169.length : Int) then ((some (y169.take ((wrap64 (x10 - 1)) : Int).toNat : List Int)).bind fun y172 => (if x6.length + y172.length < 140737488355328 then (spec_Decode.l1 k x0 x5 (x6 ++ y172) false (wrap64 (x8 + 4))) else (none))) else (none)) else (none))))
def spec_Decode.l0 : Nat → ByteArray → Int → Option (ByteArray × Bool × Bool)
 | 0, _, _ => none
 | k + 1, x0, x5 => if x5 < 2 then (if x5 < (x0.size : Int) then (if 0 ≤ (wrap64 ((wrap64 ((x0.size : Int) - 1)) - x5)) then (if (wrap64 ((wrap64 ((x0.size : Int) - 1)) - x5)) < (x0.size : Int) then (if (bt x0 (wrap64 ((wrap64 ((x0.size : Int) - 1)) - x5))) = 61 then (spec_Decode.l0 k x0 (wrap64 (x5 + 1))) else (spec_Decode.j1 k x0 x5)) else (none)) else (none)) else (spec_Decode.j1 k x0 x5)) else (spec_Decode.j1 k x0 x5)
end
def spec_Decode.f (k : Nat) (a0 : ByteArray) : Option (ByteArray × Bool × Bool) := if ((a0.size : Int) % 4) = 0 then (spec_Decode.l0 k a0 0) else (some ((⟨#[]⟩ : ByteArray), false, true))
theorem spec_Decode.mono_l : ∀ k, (∀ y0 y1, LeO (spec_Decode.j1 k y0 y1) (spec_Decode.j1 (k + 1) y0 y1)) ∧ (∀ y0 y1 y2 y3 y4, LeO (spec_Decode.l1 k y0 y1 y2 y3 y4) (spec_Decode.l1 (k + 1) y0 y1 y2 y3 y4)) ∧ (∀ y0 y1 y2 y3 y4 y5 y6, LeO (spec_Decode.j3 k y0 y1 y2 y3 y4 y5 y6) (spec_Decode.j3 (k + 1) y0 y1 y2 y3 y4 y5 y6)) ∧ (∀ y0 y1 y2 y3 y4 y5 y6 y7, LeO (spec_Decode.l2 k y0 y1 y2 y3 y4 y5 y6 y7) (spec_Decode.l2 (k + 1) y0 y1 y2 y3 y4 y5 y6 y7)) ∧ (∀ y0 y1, LeO (spec_Decode.l0 k y0 y1) (spec_Decode.l0 (k + 1) y0 y1))
 | 0 => ⟨fun _ _ r h => by simp [spec_Decode.j1] at h, fun _ _ _ _ _ r h => by simp [spec_Decode.l1] at h, fun _ _ _ _ _ _ _ r h => by simp [spec_Decode.j3] at h, fun _ _ _ _ _ _ _ _ r h => by simp [spec_Decode.l2] at h, fun _ _ r h => by simp [spec_Decode.l0] at h⟩
 | k + 1 => by
  obtain ⟨ih0, ih1, ih2, ih3, ih4⟩ := spec_Decode.mono_l k
  refine ⟨?_, ?_, ?_, ?_, ?_⟩
  ·intro y0 y1
   unfold spec_Decode.j1
   repeat' first
   | (with_reducible exact ih0 _ _)
   | (with_reducible exact ih1 _ _ _ _ _)
   | (with_reducible exact ih2 _ _ _ _ _ _ _)
   | (with_reducible exact ih3 _ _ _ _ _ _ _ _)
   | (with_reducible exact ih4 _ _)
   | (with_reducible exact spec_figure.mono _ _)
   | (with_reducible exact LeO.refl _)
   | (with_reducible exact LeO.none _)
   | (with_reducible refine LeO.ite ?_ ?_)
   | (with_reducible refine LeO.bind ?_ (fun _ => ?_))
   | exact ih0 _ _
   | exact ih1 _ _ _ _ _
   | exact ih2 _ _ _ _ _ _ _
   | exact ih3 _ _ _ _ _ _ _ _
   | exact ih4 _ _
   | exact spec_figure.mono _ _
   | exact LeO.none _
   | refine LeO.ite ?_ ?_
   | refine LeO.bind ?_ (fun _ => ?_)
  ·intro y0 y1 y2 y3 y4
   unfold spec_Decode.l1
   repeat' first
   | (with_reducible exact ih0 _ _)
   | (with_reducible exact ih1 _ _ _ _ _)
   | (with_reducible exact ih2 _ _ _ _ _ _ _)
   | (with_reducible exact ih3 _ _ _ _ _ _ _ _)
   | (with_reducible exact ih4 _ _)
   | (with_reducible exact spec_figure.mono _ _)
   | (with_reducible exact LeO.refl _)
   | (with_reducible exact LeO.none _)
   | (with_reducible refine LeO.ite ?_ ?_)
   | (with_reducible refine LeO.bind ?_ (fun _ => ?_))
   | exact ih0 _ _
   | exact ih1 _ _ _ _ _
   | exact ih2 _ _ _ _ _ _ _
   | exact ih3 _ _ _ _ _ _ _ _
   | exact ih4 _ _
   | exact spec_figure.mono _ _
   | exact LeO.none _
   | refine LeO.ite ?_ ?_
   | refine LeO.bind ?_ (fun _ => ?_)
  ·intro y0 y1 y2 y3 y4 y5 y6
   unfold spec_Decode.j3
   repeat' first
   | (with_reducible exact ih0 _ _)
   | (with_reducible exact ih1 _ _ _ _ _)
   | (with_reducible exact ih2 _ _ _ _ _ _ _)
   | (with_reducible exact ih3 _ _ _ _ _ _ _ _)
   | (with_reducible exact ih4 _ _)
   | (with_reducible exact spec_figure.mono _ _)
   | (with_reducible exact LeO.refl _)
   | (with_reducible exact LeO.none _)
   | (with_reducible refine LeO.ite ?_ ?_)
   | (with_reducible refine LeO.bind ?_ (fun _ => ?_))
   | exact ih0 _ _
   | exact ih1 _ _ _ _ _
   | exact ih2 _ _ _ _ _ _ _
   | exact ih3 _ _ _ _ _ _ _ _
   | exact ih4 _ _
   | exact spec_figure.mono _ _
   | exact LeO.none _
   | refine LeO.ite ?_ ?_
   | refine LeO.bind ?_ (fun _ => ?_)
  ·intro y0 y1 y2 y3 y4 y5 y6 y7
   unfold spec_Decode.l2
   repeat' first
   | (with_reducible exact ih0 _ _)
   | (with_reducible exact ih1 _ _ _ _ _)
   | (with_reducible exact ih2 _ _ _ _ _ _ _)
   | (with_reducible exact ih3 _ _ _ _ _ _ _ _)
   | (with_reducible exact ih4 _ _)
   | (with_reducible exact spec_figure.mono _ _)
   | (with_reducible exact LeO.refl _)
   | (with_reducible exact LeO.none _)
   | (with_reducible refine LeO.ite ?_ ?_)
   | (with_reducible refine LeO.bind ?_ (fun _ => ?_))
   | exact ih0 _ _
   | exact ih1 _ _ _ _ _
   | exact ih2 _ _ _ _ _ _ _
   | exact ih3 _ _ _ _ _ _ _ _
   | exact ih4 _ _
   | exact spec_figure.mono _ _
   | exact LeO.none _
   | refine LeO.ite ?_ ?_
   | refine LeO.bind ?_ (fun _ => ?_)
  ·intro y0 y1
   unfold spec_Decode.l0
   repeat' first
   | (with_reducible exact ih0 _ _)
   | (with_reducible exact ih1 _ _ _ _ _)
   | (with_reducible exact ih2 _ _ _ _ _ _ _)
   | (with_reducible exact ih3 _ _ _ _ _ _ _ _)
   | (with_reducible exact ih4 _ _)
   | (with_reducible exact spec_figure.mono _ _)
   | (with_reducible exact LeO.refl _)
   | (with_reducible exact LeO.none _)
   | (with_reducible refine LeO.ite ?_ ?_)
   | (with_reducible refine LeO.bind ?_ (fun _ => ?_))
   | exact ih0 _ _
   | exact ih1 _ _ _ _ _
   | exact ih2 _ _ _ _ _ _ _
   | exact ih3 _ _ _ _ _ _ _ _
   | exact ih4 _ _
   | exact spec_figure.mono _ _
   | exact LeO.none _
   | refine LeO.ite ?_ ?_
   | refine LeO.bind ?_ (fun _ => ?_)
theorem spec_Decode.mono : ∀ a0 k, LeO (spec_Decode.f k a0) (spec_Decode.f (k + 1) a0) := by
 intro a0 k
 obtain ⟨ih0, ih1, ih2, ih3, ih4⟩ := spec_Decode.mono_l k
 unfold spec_Decode.f
 repeat' first
   | (with_reducible exact ih0 _ _)
   | (with_reducible exact ih1 _ _ _ _ _)
   | (with_reducible exact ih2 _ _ _ _ _ _ _)
   | (with_reducible exact ih3 _ _ _ _ _ _ _ _)
   | (with_reducible exact ih4 _ _)
   | (with_reducible exact spec_figure.mono _ _)
   | (with_reducible exact LeO.refl _)
   | (with_reducible exact LeO.none _)
   | (with_reducible refine LeO.ite ?_ ?_)
   | (with_reducible refine LeO.bind ?_ (fun _ => ?_))
   | exact ih0 _ _
   | exact ih1 _ _ _ _ _
   | exact ih2 _ _ _ _ _ _ _
   | exact ih3 _ _ _ _ _ _ _ _
   | exact ih4 _ _
   | exact spec_figure.mono _ _
   | exact LeO.none _
   | refine LeO.ite ?_ ?_
   | refine LeO.bind ?_ (fun _ => ?_)
set_option maxHeartbeats 8000000 in
set_option maxRecDepth 100000 in
theorem spec_Decode.calls (k : Nat) (a0 : ByteArray) (r1 : ByteArray) (r2 : Bool) (r3 : Bool) (w : World) (h : spec_Decode.f k a0 = some (r1, r2, r3)) :
  Calls Tryz.prog 34 #[.string a0] w fun e w' => e = .returned (.tuple #[.string r1, .bool r2, .bool r3]) ∧ Below w.heap.size w w' := by
 have HB := Aside0.mk (Below.refl w.heap.size w)
 have H : (if ((a0.size : Int) % 4) = 0 then (spec_Decode.l0 k a0 0) else (some ((⟨#[]⟩ : ByteArray), false, true))) = some (r1, r2, r3) := h
 clear h
 by_cases c2 : ((a0.size : Int) % 4) = 0
 ·rw [if_pos c2] at H
  have c2b0 : (((a0.size : Int) % 4) == 0) = true := beq_iff_eq.mpr c2
  have c2b1 : (((a0.size : Int) % 4) != 0) = false := bne_eq_false_iff_eq.mpr c2
  clear c2
  have HC3 := Aside0.mk H
  clear H
  go_enter Tryz.func34, Tryz.ntmps34
  go_upto_block 0 with (fail)
  go_cut [5] (fun v5 wc => ∃ (kq : Nat) (x5_2 : Int), v5 = .int .i64 x5_2 ∧ Aside0 (spec_Decode.j1 kq a0 x5_2 = some (r1, r2, r3)) ∧ Aside0 (kq ≤ k) ∧ Aside0 (Below w.heap.size w wc))
  case first =>
   have H := HC3.out
   clear HC3
   have H' := Aside0.mk H
   clear H
   go_wp2
   go_loopg [5] k (fun kq v5 w' => ∃ (x5_1 : Int), v5 = .int .i64 x5_1 ∧ Aside0 (spec_Decode.l0 kq a0 x5_1 = some (r1, r2, r3)) ∧ Aside0 (kq ≤ k) ∧ Aside0 (Below w.heap.size w w'))
   case atStart => exact ⟨(0), (by first | rfl | (simp; done) | (simp [*]; done)), H', ⟨Nat.le_refl _⟩, ⟨by repeat (first | (with_reducible first | exact HB.out | apply below_alloc | apply pw_below_drewN | apply below_drew1) | exact HB.out)⟩⟩
   case round =>
    clear H'
    try clear c2
    try clear c2b0
    try clear c2b1
    try clear p2
    try clear c3
    obtain ⟨x5_1, rfl, HA, HK1, HB⟩ := hrel
    cases gk with
    | zero => exact absurd HA.out (by simp [spec_Decode.l0])
    | succ k1 =>
     have H := HA.out
     clear HA
     simp only [spec_Decode.l0] at H
     by_cases c4 : x5_1 < 2
     ·rw [if_pos c4] at H
      have c4b0 : decide (x5_1 < 2) = true := decide_eq_true c4
      clear c4
      (first | rw [c4b0] | (simp only [i64_w, i32_w]; rw [c4b0]) | skip)
      by_cases c5 : x5_1 < (a0.size : Int)
      ·rw [if_pos c5] at H
       have c5b0 : decide (x5_1 < (a0.size : Int)) = true := decide_eq_true c5
       clear c5
       obtain ⟨ji6, hji6⟩ : ∃ j_ : Int, (wrap64 ((wrap64 ((a0.size : Int) - 1)) - x5_1)) = j_ := ⟨_, rfl⟩
       replace H : (if 0 ≤ (ji6) then (if (ji6) < (a0.size : Int) then (if (bt a0 (ji6)) = 61 then (spec_Decode.l0 k1 a0 (wrap64 (x5_1 + 1))) else (spec_Decode.j1 k1 a0 x5_1)) else (none)) else (none)) = some (r1, r2, r3) := by first | (rw [hji6] at H; exact H) | (simp only [hji6] at H ⊢; exact H)
       have hji6w : (IntKind.i64.wrap ((wrap64 ((a0.size : Int) - 1)) - x5_1)) = ji6 := (i64_w _).trans hji6
       by_cases c7 : 0 ≤ (ji6)
       ·rw [if_pos c7] at H
        have c7b0 : decide (0 ≤ (ji6)) = true := decide_eq_true c7
        clear c7
        by_cases c8 : (ji6) < (a0.size : Int)
        ·rw [if_pos c8] at H
         have c8b0 : decide ((ji6) < (a0.size : Int)) = true := decide_eq_true c8
         clear c8
         by_cases c10 : (bt a0 (ji6)) = 61
         ·rw [if_pos c10] at H
          have c10b0 : ((bt a0 (ji6)) == 61) = true := beq_iff_eq.mpr c10
          have c10b1 : ((bt a0 (ji6)) != 61) = false := bne_eq_false_iff_eq.mpr c10
          clear c10
          have H' := Aside0.mk H
          clear H
          have p9 : 0 ≤ ((ji6) : Int) := of_decide_eq_true (by first | (with_reducible assumption) | assumption)
          have q9 : (ji6) < (a0.size : Int) := of_decide_eq_true (by first | (with_reducible assumption) | assumption)
          have hx9 := bt_at a0 (ji6)
          replace p9 := eq_true p9
          replace q9 := eq_true q9
          go_wp2
          go_roundg k1
          case measure => have := HK1.out; omega
          case rel => exact ⟨(wrap64 (x5_1 + 1)), (by first | rfl | (simp; done) | (simp [*]; done)), H', ⟨by have := HK1.out; omega⟩, ⟨by repeat (first | (with_reducible first | exact HB.out | apply below_alloc | apply pw_below_drewN | apply below_drew1) | exact HB.out)⟩⟩
         ·rw [if_neg c10] at H
          have c10b0 : ((bt a0 (ji6)) == 61) = false := beq_eq_false_iff_ne.mpr c10
          have c10b1 : ((bt a0 (ji6)) != 61) = true := bne_iff_ne.mpr c10
          have H' := Aside0.mk H
          clear H
          have p9 : 0 ≤ ((ji6) : Int) := of_decide_eq_true (by first | (with_reducible assumption) | assumption)
          have q9 : (ji6) < (a0.size : Int) := of_decide_eq_true (by first | (with_reducible assumption) | assumption)
          have hx9 := bt_at a0 (ji6)
          replace p9 := eq_true p9
          replace q9 := eq_true q9
          go_wp2
          go_meet
          case rel => exact ⟨_, (x5_1), (by first | rfl | (simp; done) | (simp [*]; done)), H', ⟨by have := HK1.out; first | omega | exact Nat.le_refl _⟩, ⟨by repeat (first | (with_reducible first | exact HB.out | apply below_alloc | apply pw_below_drewN | apply below_drew1) | exact HB.out)⟩⟩
        ·rw [if_neg c8] at H
         exact absurd H (by simp)
       ·rw [if_neg c7] at H
        exact absurd H (by simp)
      ·rw [if_neg c5] at H
       have c5b0 : decide (x5_1 < (a0.size : Int)) = false := decide_eq_false c5
       clear c5
       have H' := Aside0.mk H
       clear H
       go_wp2
       go_meet
       case rel => exact ⟨_, (x5_1), (by first | rfl | (simp; done) | (simp [*]; done)), H', ⟨by have := HK1.out; first | omega | exact Nat.le_refl _⟩, ⟨by repeat (first | (with_reducible first | exact HB.out | apply below_alloc | apply pw_below_drewN | apply below_drew1) | exact HB.out)⟩⟩
     ·rw [if_neg c4] at H
      have c4b0 : decide (x5_1 < 2) = false := decide_eq_false c4
      clear c4
      (first | rw [c4b0] | (simp only [i64_w, i32_w]; rw [c4b0]) | skip)
      have H' := Aside0.mk H
      clear H
      go_wp2
      go_meet
      case rel => exact ⟨_, (x5_1), (by first | rfl | (simp; done) | (simp [*]; done)), H', ⟨by have := HK1.out; first | omega | exact Nat.le_refl _⟩, ⟨by repeat (first | (with_reducible first | exact HB.out | apply below_alloc | apply pw_below_drewN | apply below_drew1) | exact HB.out)⟩⟩
  case rest =>
   clear HC3
   try clear c1
   try clear c2
   try clear c2b0
   try clear c2b1
   try clear p2
   try clear c3
   try clear c4
   try clear c4b0
   try clear c5
   try clear c5b0
   try clear p6
   try clear c7
   try clear c7b0
   try clear c8
   try clear c8b0
   try clear p9
   try clear q9
   try clear hx9
   try clear c10
   try clear c10b0
   try clear c10b1
   try clear p2
   try clear p9
   try clear q9
   obtain ⟨kq, x5_2, rfl, HA, HJ2, HB⟩ := hcut
   cases kq with
   | zero => exact absurd HA.out (by simp [spec_Decode.j1])
   | succ kj2 =>
    have H := HA.out
    clear HA
    simp only [spec_Decode.j1] at H
    obtain ⟨y116, hy116⟩ : ∃ y_ : List Int, y_ = (([] : List Int)) := ⟨_, rfl⟩
    replace H : (spec_Decode.l1 kj2 a0 x5_2 y116 true 0) = some (r1, r2, r3) := by first | (rw [hy116]; with_reducible exact H) | (have H2_ := (Option.bind_some _ _).symm.trans H; rw [hy116]; with_reducible exact H2_) | (have H2_ := (Option.bind_some _ _).symm.trans H; with_reducible exact H2_) | with_reducible exact H | (rw [hy116]; exact H) | exact H
    have Ny116 := Aside0.mk hy116
    clear hy116
    have H' := Aside0.mk H
    clear H
    go_wp2_with (first | ((with_reducible refine gate_dst (N := 37) rfl ?_); (try (refine gate_guard (by rfl) ?_; dsimp only)); refine Kd.R_lit (Kd.int .u8) _ 5 ?hg (N := 37) ?hd (xs := ([] : List Int)) (inner := []) (ok := fun _ => True) (okp := fun _ => True) ?hr ?hp (fun _ hk => hk) trivial (Below.refl _ _) (Nat.le_refl _) (by simp) ?_; (case hd => rfl); (case hg => rfl); (case hr => first | (go_simp; done) | (go_simp; rfl)); (case hp => exact (Reps.none _ _)); intro v117 w11 ho12 hb hg_ hnew_; clear hg_ hnew_; (first | rw [← Ny116.out] at ho12 | (simp only [Int.reduceToNat] at ho12; rw [← Ny116.out] at ho12)); have n0_ := Aside0.mk (Kd.R_lower ho12 (below_size (by repeat (first | (with_reducible first | exact HB.out | apply below_alloc | apply pw_below_drewN | apply below_drew1) | exact HB.out)))); have n1_ := Aside0.mk (below_step (by repeat (first | (with_reducible first | exact HB.out | apply below_alloc | apply pw_below_drewN | apply below_drew1) | exact HB.out)) hb); clear HB; have HO118 := n0_; have HB := n1_; clear n0_ n1_; clear hb ho12))
    go_loopg [6, 7, 8] kj2 (fun kq v6 v7 v8 w' => ∃ (x6_2 : List Int) (x7_2 : Bool) (x8_2 : Int), v7 = .bool x7_2 ∧ v8 = .int .i64 x8_2 ∧ Aside0 (spec_Decode.l1 kq a0 x5_2 x6_2 x7_2 x8_2 = some (r1, r2, r3)) ∧ Aside0 (kq ≤ kj2) ∧ Aside0 (Kd.R (Kd.int .u8) 5 w' w.heap.size (fun _ => True) v6 x6_2) ∧ Aside0 (Below w.heap.size w w'))
    case atStart => exact ⟨(y116), (true), (0), (by first | rfl | (simp; done) | (simp [*]; done)), (by first | rfl | (simp; done) | (simp [*]; done)), H', ⟨Nat.le_refl _⟩, ⟨by (with_reducible repeat (first | apply Kd.R_alloc | apply Kd.R_drewN | apply Kd.R_drew)); exact HO118.out⟩, ⟨by repeat (first | (with_reducible first | exact HB.out | apply below_alloc | apply pw_below_drewN | apply below_drew1) | exact HB.out)⟩⟩
    case round =>
     clear H'
     try clear c1
     try clear c2
     try clear c2b0
     try clear c2b1
     try clear p2
     try clear c3
     try clear c4
     try clear c4b0
     try clear c5
     try clear c5b0
     try clear p6
     try clear c7
     try clear c7b0
     try clear c8
     try clear c8b0
     try clear p9
     try clear q9
     try clear hx9
     try clear c10
     try clear c10b0
     try clear c10b1
     try clear p2
     try clear p6
     try clear p9
     try clear q9
     obtain ⟨x6_2, x7_2, x8_2, rfl, rfl, HA, HK2, HO_6, HB⟩ := hrel
     cases gk with
     | zero => exact absurd HA.out (by simp [spec_Decode.l1])
     | succ k2 =>
      have H := HA.out
      clear HA
      simp only [spec_Decode.l1] at H
      by_cases c13 : x8_2 < (a0.size : Int)
      ·rw [if_pos c13] at H
       have c13b0 : decide (x8_2 < (a0.size : Int)) = true := decide_eq_true c13
       clear c13
       have HC14 := Aside0.mk H
       clear H
       go_upto_if 48 with (fail)
       go_cut [10] (fun v10 wc => ∃ (kq : Nat) (x10_13 : Int), v10 = .int .i64 x10_13 ∧ Aside0 (spec_Decode.j3 kq a0 x5_2 x6_2 x7_2 x8_2 0 x10_13 = some (r1, r2, r3)) ∧ Aside0 (kq ≤ k2) ∧ Aside0 (Kd.R (Kd.int .u8) 5 wc w.heap.size (fun _ => True) u6 x6_2) ∧ Aside0 (Below w.heap.size w wc))
       case first =>
        have H := HC14.out
        clear HC14
        by_cases c15 : (wrap64 (x8_2 + 4)) = (a0.size : Int)
        ·rw [if_pos c15] at H
         have c15b0 : ((wrap64 (x8_2 + 4)) == (a0.size : Int)) = true := beq_iff_eq.mpr c15
         have c15b1 : ((wrap64 (x8_2 + 4)) != (a0.size : Int)) = false := bne_eq_false_iff_eq.mpr c15
         clear c15
         (first | rw [c15b0] | (simp only [i64_w, i32_w]; rw [c15b0]) | skip)
         have H' := Aside0.mk H
         clear H
         go_wp2
         go_meet
         case rel => exact ⟨_, (wrap64 (4 - x5_2)), (by first | rfl | (simp; done) | (simp [*]; done)), H', ⟨by have := HJ2.out; have := HK2.out; first | omega | exact Nat.le_refl _⟩, ⟨by (with_reducible repeat (first | apply Kd.R_alloc | apply Kd.R_drewN | apply Kd.R_drew)); exact HO_6.out⟩, ⟨by repeat (first | (with_reducible first | exact HB.out | apply below_alloc | apply pw_below_drewN | apply below_drew1) | exact HB.out)⟩⟩
        ·rw [if_neg c15] at H
         have c15b0 : ((wrap64 (x8_2 + 4)) == (a0.size : Int)) = false := beq_eq_false_iff_ne.mpr c15
         have c15b1 : ((wrap64 (x8_2 + 4)) != (a0.size : Int)) = true := bne_iff_ne.mpr c15
         (first | rw [c15b0] | (simp only [i64_w, i32_w]; rw [c15b0]) | skip)
         have H' := Aside0.mk H
         clear H
         go_wp2
         go_meet
         case rel => exact ⟨_, (4), (by first | rfl | (simp; done) | (simp [*]; done)), H', ⟨by have := HJ2.out; have := HK2.out; first | omega | exact Nat.le_refl _⟩, ⟨by (with_reducible repeat (first | apply Kd.R_alloc | apply Kd.R_drewN | apply Kd.R_drew)); exact HO_6.out⟩, ⟨by repeat (first | (with_reducible first | exact HB.out | apply below_alloc | apply pw_below_drewN | apply below_drew1) | exact HB.out)⟩⟩
       case rest =>
        clear HC14
        try clear c1
        try clear c2
        try clear c2b0
        try clear c2b1
        try clear p2
        try clear c3
        try clear c4
        try clear c4b0
        try clear c5
        try clear c5b0
        try clear p6
        try clear c7
        try clear c7b0
        try clear c8
        try clear c8b0
        try clear p9
        try clear q9
        try clear hx9
        try clear c10
        try clear c10b0
        try clear c10b1
        try clear c13
        try clear c13b0
        try clear c15
        try clear c15b0
        try clear c15b1
        try clear p2
        try clear p6
        try clear p9
        try clear q9
        obtain ⟨kq, x10_13, rfl, HA, HJ13, HO_6, HB⟩ := hcut
        cases kq with
        | zero => exact absurd HA.out (by simp [spec_Decode.j3])
        | succ kj13 =>
         have H := HA.out
         clear HA
         simp only [spec_Decode.j3] at H
         have H' := Aside0.mk H
         clear H
         go_wp2
         go_loopg [9, 51] kj13 (fun kq v9 v51 w' => ∃ (x9_4 : Int) (x51_4 : Int), v9 = .int .i64 x9_4 ∧ v51 = .int .i64 x51_4 ∧ Aside0 (spec_Decode.l2 kq a0 x5_2 x6_2 x7_2 x8_2 x9_4 x10_13 x51_4 = some (r1, r2, r3)) ∧ Aside0 (kq ≤ kj13) ∧ Aside0 (Kd.R (Kd.int .u8) 5 w' w.heap.size (fun _ => True) u6 x6_2) ∧ Aside0 (Below w.heap.size w w'))
         case atStart => exact ⟨(0), (0), (by first | rfl | (simp; done) | (simp [*]; done)), (by first | rfl | (simp; done) | (simp [*]; done)), H', ⟨Nat.le_refl _⟩, ⟨by (with_reducible repeat (first | apply Kd.R_alloc | apply Kd.R_drewN | apply Kd.R_drew)); exact HO_6.out⟩, ⟨by repeat (first | (with_reducible first | exact HB.out | apply below_alloc | apply pw_below_drewN | apply below_drew1) | exact HB.out)⟩⟩
         case round =>
          clear H'
          try clear c1
          try clear c2
          try clear c2b0
          try clear c2b1
          try clear p2
          try clear c3
          try clear c4
          try clear c4b0
          try clear c5
          try clear c5b0
          try clear p6
          try clear c7
          try clear c7b0
          try clear c8
          try clear c8b0
          try clear p9
          try clear q9
          try clear hx9
          try clear c10
          try clear c10b0
          try clear c10b1
          try clear c13
          try clear c13b0
          try clear c15
          try clear c15b0
          try clear c15b1
          try clear p2
          try clear p6
          try clear p9
          try clear q9
          obtain ⟨x9_4, x51_4, rfl, rfl, HA, HK4, HO_6, HB⟩ := hrel
          cases gk with
          | zero => exact absurd HA.out (by simp [spec_Decode.l2])
          | succ k4 =>
           have H := HA.out
           clear HA
           simp only [spec_Decode.l2] at H
           by_cases c16 : x51_4 < 4
           ·rw [if_pos c16] at H
            have c16b0 : decide (x51_4 < 4) = true := decide_eq_true c16
            clear c16
            by_cases c17 : x51_4 < x10_13
            ·rw [if_pos c17] at H
             have c17b0 : decide (x51_4 < x10_13) = true := decide_eq_true c17
             clear c17
             obtain ⟨ji18, hji18⟩ : ∃ j_ : Int, (wrap64 (x8_2 + x51_4)) = j_ := ⟨_, rfl⟩
             replace H : (if 0 ≤ (ji18) then (if (ji18) < (a0.size : Int) then ((spec_figure.f k4 (bt a0 (ji18))).bind fun t179 => (if t179 < 0 then (some ((⟨#[]⟩ : ByteArray), false, true)) else (spec_Decode.l2 k4 a0 x5_2 x6_2 x7_2 x8_2 (Go.bits .or .i64 (wrap64 (x9_4 * 64)) t179) x10_13 (wrap64 (x51_4 + 1))))) else (none)) else (none)) = some (r1, r2, r3) := by first | (rw [hji18] at H; exact H) | (simp only [hji18] at H ⊢; exact H)
             have hji18w : (IntKind.i64.wrap (x8_2 + x51_4)) = ji18 := (i64_w _).trans hji18
             by_cases c19 : 0 ≤ (ji18)
             ·rw [if_pos c19] at H
              have c19b0 : decide (0 ≤ (ji18)) = true := decide_eq_true c19
              clear c19
              by_cases c20 : (ji18) < (a0.size : Int)
              ·rw [if_pos c20] at H
               have c20b0 : decide ((ji18) < (a0.size : Int)) = true := decide_eq_true c20
               clear c20
               replace H := Option.bind_eq_some_iff.mp H
               obtain ⟨t179, A220, H⟩ := H
               replace H : (if t179 < 0 then (some ((⟨#[]⟩ : ByteArray), false, true)) else (spec_Decode.l2 k4 a0 x5_2 x6_2 x7_2 x8_2 (Go.bits .or .i64 (wrap64 (x9_4 * 64)) t179) x10_13 (wrap64 (x51_4 + 1)))) = some (r1, r2, r3) := H
               have A22 := Aside0.mk A220
               clear A220
               by_cases c23 : t179 < 0
               ·rw [if_pos c23] at H
                have c23b0 : decide (t179 < 0) = true := decide_eq_true c23
                clear c23
                simp only [Option.some.injEq, Prod.mk.injEq] at H
                obtain ⟨rfl, rfl, rfl⟩ := H
                have p21 : 0 ≤ ((ji18) : Int) := of_decide_eq_true (by first | (with_reducible assumption) | assumption)
                have q21 : (ji18) < (a0.size : Int) := of_decide_eq_true (by first | (with_reducible assumption) | assumption)
                have hx21 := bt_at a0 (ji18)
                replace p21 := eq_true p21
                replace q21 := eq_true q21
                go_wp2_with (first | ((with_reducible refine gate_callee (f := 53) rfl ?_); refine goesL_ (some 62) rfl rfl Tryz.func53 (by kernel_rfl) rfl #[.int .u8 (bt a0 (ji18))] rfl (by (try simp only [List.map_toArray, List.map_cons, List.map_nil]); first | done | (simp only [hji18]; rfl) | rfl | (simp only [List.length_drop, List.length_take]; rfl)) ?_; (with_reducible refine (spec_figure.calls k4 (bt a0 (ji18)) t179 _ A22.out).mono ?_); rintro e w' ⟨rfl, ⟨nd, rfl⟩⟩; refine ⟨_, rfl, ?_⟩))
                go_ret3
                exact ⟨by first | rfl | (simp [errW_none, errW_some] <;> rfl) | (simp only [← hji18]; first | rfl | (simp [errW_none, errW_some] <;> rfl)) | (simp [*, errW_none, errW_some] <;> rfl), by repeat (first | (with_reducible first | exact HB.out | apply below_alloc | apply pw_below_drewN | apply below_drew1) | exact HB.out)⟩
               ·rw [if_neg c23] at H
                have c23b0 : decide (t179 < 0) = false := decide_eq_false c23
                clear c23
                have H' := Aside0.mk H
                clear H
                have p21 : 0 ≤ ((ji18) : Int) := of_decide_eq_true (by first | (with_reducible assumption) | assumption)
                have q21 : (ji18) < (a0.size : Int) := of_decide_eq_true (by first | (with_reducible assumption) | assumption)
                have hx21 := bt_at a0 (ji18)
                replace p21 := eq_true p21
                replace q21 := eq_true q21
                go_wp2_with (first | ((with_reducible refine gate_callee (f := 53) rfl ?_); refine goesL_ (some 62) rfl rfl Tryz.func53 (by kernel_rfl) rfl #[.int .u8 (bt a0 (ji18))] rfl (by (try simp only [List.map_toArray, List.map_cons, List.map_nil]); first | done | (simp only [hji18]; rfl) | rfl | (simp only [List.length_drop, List.length_take]; rfl)) ?_; (with_reducible refine (spec_figure.calls k4 (bt a0 (ji18)) t179 _ A22.out).mono ?_); rintro e w' ⟨rfl, ⟨nd, rfl⟩⟩; refine ⟨_, rfl, ?_⟩))
                go_roundg k4
                case measure => have := HJ2.out; have := HK2.out; have := HJ13.out; have := HK4.out; omega
                case rel => exact ⟨(Go.bits .or .i64 (wrap64 (x9_4 * 64)) t179), (wrap64 (x51_4 + 1)), (by first | rfl | (simp; done) | (simp [*]; done)), (by first | rfl | (simp; done) | (simp [*]; done)), H', ⟨by have := HJ2.out; have := HK2.out; have := HJ13.out; have := HK4.out; omega⟩, ⟨by (with_reducible repeat (first | apply Kd.R_alloc | apply Kd.R_drewN | apply Kd.R_drew)); exact HO_6.out⟩, ⟨by repeat (first | (with_reducible first | exact HB.out | apply below_alloc | apply pw_below_drewN | apply below_drew1) | exact HB.out)⟩⟩
              ·rw [if_neg c20] at H
               exact absurd H (by simp)
             ·rw [if_neg c19] at H
              exact absurd H (by simp)
            ·rw [if_neg c17] at H
             have c17b0 : decide (x51_4 < x10_13) = false := decide_eq_false c17
             clear c17
             have H' := Aside0.mk H
             clear H
             go_wp2
             go_roundg k4
             case measure => have := HJ2.out; have := HK2.out; have := HJ13.out; have := HK4.out; omega
             case rel => exact ⟨(Go.bits .or .i64 (wrap64 (x9_4 * 64)) 0), (wrap64 (x51_4 + 1)), (by first | rfl | (simp; done) | (simp [*]; done)), (by first | rfl | (simp; done) | (simp [*]; done)), H', ⟨by have := HJ2.out; have := HK2.out; have := HJ13.out; have := HK4.out; omega⟩, ⟨by (with_reducible repeat (first | apply Kd.R_alloc | apply Kd.R_drewN | apply Kd.R_drew)); exact HO_6.out⟩, ⟨by repeat (first | (with_reducible first | exact HB.out | apply below_alloc | apply pw_below_drewN | apply below_drew1) | exact HB.out)⟩⟩
           ·rw [if_neg c16] at H
            have c16b0 : decide (x51_4 < 4) = false := decide_eq_false c16
            clear c16
            by_cases c24 : x7_2 = true
            ·subst c24
             have H1 : (if x10_13 = 3 then (if (Go.bits .and .i64 x9_4 255) = 0 then (if x10_13 = 2 then ((some (([(x9_4 / 65536) % 256, (x9_4 / 256) % 256, (x9_4) % 256] : List Int) : List Int)).bind fun y119 => (if 0 ≤ (wrap64 (x10_13 - 1)) then (if (wrap64 (x10_13 - 1)) ≤ (y119.length : Int) then ((some (y119.take ((wrap64 (x10_13 - 1)) : Int).toNat : List Int)).bind fun y122 => (if x6_2.length + y122.length < 140737488355328 then (spec_Decode.l1 k4 a0 x5_2 (x6_2 ++ y122) ((Go.bits .and .i64 x9_4 65535) == 0) (wrap64 (x8_2 + 4))) else (none))) else (none)) else (none))) else ((some (([(x9_4 / 65536) % 256, (x9_4 / 256) % 256, (x9_4) % 256] : List Int) : List Int)).bind fun y129 => (if 0 ≤ (wrap64 (x10_13 - 1)) then (if (wrap64 (x10_13 - 1)) ≤ (y129.length : Int) then ((some (y129.take ((wrap64 (x10_13 - 1)) : Int).toNat : List Int)).bind fun y132 => (if x6_2.length + y132.length < 140737488355328 then (spec_Decode.l1 k4 a0 x5_2 (x6_2 ++ y132) true (wrap64 (x8_2 + 4))) else (none))) else (none)) else (none)))) else ((some (([(x9_4 / 65536) % 256, (x9_4 / 256) % 256, (x9_4) % 256] : List Int) : List Int)).bind fun y139 => (if 0 ≤ (wrap64 (x10_13 - 1)) then (if (wrap64 (x10_13 - 1)) ≤ (y139.length : Int) then ((some (y139.take ((wrap64 (x10_13 - 1)) : Int).toNat : List Int)).bind fun y142 => (if x6_2.length + y142.length < 140737488355328 then (spec_Decode.l1 k4 a0 x5_2 (x6_2 ++ y142) false (wrap64 (x8_2 + 4))) else (none))) else (none)) else (none)))) else (if x10_13 = 2 then ((some (([(x9_4 / 65536) % 256, (x9_4 / 256) % 256, (x9_4) % 256] : List Int) : List Int)).bind fun y149 => (if 0 ≤ (wrap64 (x10_13 - 1)) then (if (wrap64 (x10_13 - 1)) ≤ (y149.length : Int) then ((some (y149.take ((wrap64 (x10_13 - 1)) : Int).toNat : List Int)).bind fun y152 => (if x6_2.length + y152.length < 140737488355328 then (spec_Decode.l1 k4 a0 x5_2 (x6_2 ++ y152) ((Go.bits .and .i64 x9_4 65535) == 0) (wrap64 (x8_2 + 4))) else (none))) else (none)) else (none))) else ((some (([(x9_4 / 65536) % 256, (x9_4 / 256) % 256, (x9_4) % 256] : List Int) : List Int)).bind fun y159 => (if 0 ≤ (wrap64 (x10_13 - 1)) then (if (wrap64 (x10_13 - 1)) ≤ (y159.length : Int) then ((some (y159.take ((wrap64 (x10_13 - 1)) : Int).toNat : List Int)).bind fun y162 => (if x6_2.length + y162.length < 140737488355328 then (spec_Decode.l1 k4 a0 x5_2 (x6_2 ++ y162) true (wrap64 (x8_2 + 4))) else (none))) else (none)) else (none))))) = some (r1, r2, r3) := by rw [if_pos rfl] at H; exact H
             clear H
             have H := H1
             clear H1
             by_cases c25 : x10_13 = 3
             ·rw [if_pos c25] at H
              have c25b0 : (x10_13 == 3) = true := beq_iff_eq.mpr c25
              have c25b1 : (x10_13 != 3) = false := bne_eq_false_iff_eq.mpr c25
              clear c25
              by_cases c26 : (Go.bits .and .i64 x9_4 255) = 0
              ·rw [if_pos c26] at H
               have c26b0 : ((Go.bits .and .i64 x9_4 255) == 0) = true := beq_iff_eq.mpr c26
               have c26b1 : ((Go.bits .and .i64 x9_4 255) != 0) = false := bne_eq_false_iff_eq.mpr c26
               clear c26
               by_cases c27 : x10_13 = 2
               ·rw [if_pos c27] at H
                have c27b0 : (x10_13 == 2) = true := beq_iff_eq.mpr c27
                have c27b1 : (x10_13 != 2) = false := bne_eq_false_iff_eq.mpr c27
                clear c27
                obtain ⟨y119, hy119⟩ : ∃ y_ : List Int, y_ = (([(x9_4 / 65536) % 256, (x9_4 / 256) % 256, (x9_4) % 256] : List Int)) := ⟨_, rfl⟩
                replace H : (if 0 ≤ (wrap64 (x10_13 - 1)) then (if (wrap64 (x10_13 - 1)) ≤ (y119.length : Int) then ((some (y119.take ((wrap64 (x10_13 - 1)) : Int).toNat : List Int)).bind fun y122 => (if x6_2.length + y122.length < 140737488355328 then (spec_Decode.l1 k4 a0 x5_2 (x6_2 ++ y122) ((Go.bits .and .i64 x9_4 65535) == 0) (wrap64 (x8_2 + 4))) else (none))) else (none)) else (none)) = some (r1, r2, r3) := by first | (rw [hy119]; with_reducible exact H) | (have H2_ := (Option.bind_some _ _).symm.trans H; rw [hy119]; with_reducible exact H2_) | (have H2_ := (Option.bind_some _ _).symm.trans H; with_reducible exact H2_) | with_reducible exact H | (rw [hy119]; exact H) | exact H
                have Ny119 := Aside0.mk hy119
                clear hy119
                obtain ⟨ji28, hji28⟩ : ∃ j_ : Int, (wrap64 (x10_13 - 1)) = j_ := ⟨_, rfl⟩
                replace H : (if 0 ≤ (ji28) then (if (ji28) ≤ (y119.length : Int) then ((some (y119.take ((ji28) : Int).toNat : List Int)).bind fun y122 => (if x6_2.length + y122.length < 140737488355328 then (spec_Decode.l1 k4 a0 x5_2 (x6_2 ++ y122) ((Go.bits .and .i64 x9_4 65535) == 0) (wrap64 (x8_2 + 4))) else (none))) else (none)) else (none)) = some (r1, r2, r3) := by first | (rw [hji28] at H; exact H) | (simp only [hji28] at H ⊢; exact H)
                have hji28w : (IntKind.i64.wrap (x10_13 - 1)) = ji28 := (i64_w _).trans hji28
                by_cases c29 : 0 ≤ (ji28)
                ·rw [if_pos c29] at H
                 have c29b0 := eq_true c29
                 have c29b1 : decide (0 ≤ (ji28)) = true := decide_eq_true c29
                 clear c29
                 by_cases c30 : (ji28) ≤ (y119.length : Int)
                 ·rw [if_pos c30] at H
                  have c30b0 := eq_true c30
                  have c30b1 : decide ((ji28) ≤ (y119.length : Int)) = true := decide_eq_true c30
                  clear c30
                  obtain ⟨y122, hy122⟩ : ∃ y_ : List Int, y_ = (y119.take ((ji28) : Int).toNat) := ⟨_, rfl⟩
                  replace H : (if x6_2.length + y122.length < 140737488355328 then (spec_Decode.l1 k4 a0 x5_2 (x6_2 ++ y122) ((Go.bits .and .i64 x9_4 65535) == 0) (wrap64 (x8_2 + 4))) else (none)) = some (r1, r2, r3) := by first | (rw [hy122]; with_reducible exact H) | (have H2_ := (Option.bind_some _ _).symm.trans H; rw [hy122]; with_reducible exact H2_) | (have H2_ := (Option.bind_some _ _).symm.trans H; with_reducible exact H2_) | with_reducible exact H | (rw [hy122]; exact H) | exact H
                  have Ny122 := Aside0.mk hy122
                  clear hy122
                  by_cases c31 : x6_2.length + y122.length < 140737488355328
                  ·rw [if_pos c31] at H
                   have LMc31 := Aside0.mk c31
                   clear c31
                   obtain ⟨y126, hy126⟩ : ∃ y_ : List Int, y_ = (x6_2 ++ y122) := ⟨_, rfl⟩
                   replace H : (spec_Decode.l1 k4 a0 x5_2 y126 ((Go.bits .and .i64 x9_4 65535) == 0) (wrap64 (x8_2 + 4))) = some (r1, r2, r3) := by first | (rw [hy126]; with_reducible exact H) | (have H2_ := (Option.bind_some _ _).symm.trans H; rw [hy126]; with_reducible exact H2_) | (have H2_ := (Option.bind_some _ _).symm.trans H; with_reducible exact H2_) | with_reducible exact H | (rw [hy126]; exact H) | exact H
                   have Ny126 := Aside0.mk hy126
                   clear hy126
                   have H' := Aside0.mk H
                   clear H
                   go_wp2_with (first | ((with_reducible refine gate_dst (N := 98) rfl ?_); (try (refine gate_guard (by rfl) ?_; dsimp only)); refine Kd.R_lit (Kd.int .u8) _ 5 ?hg (N := 98) ?hd (xs := ([(x9_4 / 65536) % 256, (x9_4 / 256) % 256, (x9_4) % 256] : List Int)) (inner := [.int .u8 ((x9_4 / 65536) % 256), .int .u8 ((x9_4 / 256) % 256), .int .u8 ((x9_4) % 256)]) (ok := fun _ => True) (okp := fun _ => True) ?hr ?hp (fun _ hk => hk) trivial (Below.refl _ _) (Nat.le_refl _) (by simp) ?_; (case hd => rfl); (case hg => rfl); (case hr => first | (go_simp; done) | (go_simp; rfl)); (case hp => exact (Reps.one (show Kd.M (Kd.int .u8) _ _ _ ((x9_4 / 65536) % 256) [.int .u8 ((x9_4 / 65536) % 256)] from rfl) (Reps.one (show Kd.M (Kd.int .u8) _ _ _ ((x9_4 / 256) % 256) [.int .u8 ((x9_4 / 256) % 256)] from rfl) (Reps.one (show Kd.M (Kd.int .u8) _ _ _ ((x9_4) % 256) [.int .u8 ((x9_4) % 256)] from rfl) (Reps.none _ _))))); intro v120 w32 ho33 hb hg_ hnew_; clear hg_ hnew_; (first | rw [← Ny119.out] at ho33 | (simp only [Int.reduceToNat] at ho33; rw [← Ny119.out] at ho33)); have n0_ := Aside0.mk (Kd.R_elder' (by (with_reducible repeat (first | apply Kd.R_alloc | apply Kd.R_drewN | apply Kd.R_drew)); exact HO_6.out) (Kd.R_base ho33) hb); have n1_ := Aside0.mk (Kd.R_lower (Kd.R_new' ho33 (Kd.R_lt (by (with_reducible repeat (first | apply Kd.R_alloc | apply Kd.R_drewN | apply Kd.R_drew)); exact HO_6.out))) (below_size (by repeat (first | (with_reducible first | exact HB.out | apply below_alloc | apply pw_below_drewN | apply below_drew1) | exact HB.out)))); have n2_ := Aside0.mk (below_step (by repeat (first | (with_reducible first | exact HB.out | apply below_alloc | apply pw_below_drewN | apply below_drew1) | exact HB.out)) hb); clear HO_6; clear HB; have HO_6 := n0_; have HO121 := n1_; have HB := n2_; clear n0_ n1_ n2_; clear hb ho33; obtain ⟨Ao35, co35, eo35⟩ := Kd.R_slice HO121.out; subst eo35; have q34 : ((ji28) : Int) ≤ ((y119.length : Int) : Int) := of_decide_eq_true (by first | (with_reducible assumption) | assumption); obtain ⟨i034, hi034, _, hsz34, _⟩ := info_parts info5; have hroom34 : y119.length ≤ co35 := (Kd.R_reads' HO121.out).2.1; have hC34 : Kd.C (Kd.int .u8) _ Ao35 y119.length y119 := (Kd.R_reads' HO121.out).2.2; have hcut34 := cut_to (P := Tryz.prog) 72 5 .i64 Tryz.underlying72 hi034 Ao35 y119.length co35 (ji28) (of_decide_eq_true (by first | (with_reducible assumption) | assumption)) q34 hroom34; have hr34 := Kd.C_take (m := ((ji28) : Int).toNat) hC34 (by omega); have hy34 : y122.length = ((ji28) : Int).toNat := (by rw [Ny122.out, List.length_take]; omega); rw [← Ny122.out] at hr34; rw [← hy34] at hcut34; have HR125 := Aside0.mk hr34; have HC125 := Aside0.mk (show y122.length ≤ co35 from by omega); clear hr34 hC34 hroom34 hi034 hsz34; have KY34 := Aside0.mk hy34; clear hy34; have KL34 := Aside0.mk (show ((ji28) : Int).toNat ≤ y119.length from by omega); replace q34 := eq_true q34) | ((with_reducible refine gate_builtin (b := .append) (xs := #[.tmp 89, .tmp 101]) rfl ?_); (try (refine gate_guard (by rfl) ?_; dsimp only)); at_builtin; refine Kd.R_append_rows (Kd.int .u8) (w0 := w) w.heap.size rfl (.tmp 89) (.tmp 101) 72 5 (.int .u8 0) 1 rfl Tryz.underlying72 info5 rfl (by decide) (by omega) u6 x6_2 y122 _ _ _ (fun k_ => some k_ ≠ (.slice Ao35 y119.length co35 : Value).ownBlock) (fun _ => False) rfl rfl ?aO ?aR (fun _ _ h => h) (fun _ h => h.elim) ?aF ?aB ?aS ?aL ?_; (case aR => repeat (first | exact (by repeat (first | (with_reducible exact HR125.out) | (with_reducible refine Kd.C_alloc ?_ _) | (with_reducible refine Kd.C_drewN ?_ _) | (with_reducible refine Kd.C_drew ?_) | exact HR125.out)) | (with_reducible refine Kd.C_alloc ?_ _) | (with_reducible refine Kd.C_drewN ?_ _) | (with_reducible refine Kd.C_drew ?_))); (case aB => exact (by repeat (first | (with_reducible first | exact HB.out | apply below_alloc | apply pw_below_drewN | apply below_drew1) | exact HB.out))); (case aF => exact (fun k_ hk => Kd.fresh' (Kd.R_lt (by (with_reducible repeat (first | apply Kd.R_alloc | apply Kd.R_drewN | apply Kd.R_drew)); exact HO121.out)) k_ hk)); (case aO => exact (by (with_reducible repeat (first | apply Kd.R_alloc | apply Kd.R_drewN | apply Kd.R_drew)); exact Kd.R_mono HO_6.out (fun _ hk => hk.2))); (case aS => exact (below_size (by repeat (first | (with_reducible first | exact HB.out | apply below_alloc | apply pw_below_drewN | apply below_drew1) | exact HB.out)))); (case aL => have := LMc31.out; omega); intro v127 w36 ho hb hg hat; rw [← Ny126.out] at ho; have n0_ := Aside0.mk (Kd.R_after (ok := (fun _ => True)) (by (with_reducible repeat (first | apply Kd.R_alloc | apply Kd.R_drewN | apply Kd.R_drew)); exact HO121.out) hg hat); have n1_ := Aside0.mk (hb); have n2_ := Aside0.mk ((show Kd.C (Kd.int .u8) w36 Ao35 y122.length y122 from by rw [Ny122.out]; exact Kd.C_take (m := ((ji28) : Int).toNat) ((Kd.R_reads' (Kd.R_after (ok := (fun _ => True)) (by (with_reducible repeat (first | apply Kd.R_alloc | apply Kd.R_drewN | apply Kd.R_drew)); exact HO121.out) hg hat)).2.2) KL34.out)); have n3_ := Aside0.mk (ho); clear HO121; clear HB; clear HR125; clear HO_6; have HO121 := n0_; have HB := n1_; have HR125 := n2_; have HO128 := n3_; clear n0_ n1_ n2_ n3_; clear ho hb hg hat))
                   go_roundg k4
                   case measure => have := HJ2.out; have := HK2.out; have := HJ13.out; have := HK4.out; omega
                   case rel => exact ⟨(y126), (((Go.bits .and .i64 x9_4 65535) == 0)), (wrap64 (x8_2 + 4)), (by first | rfl | (simp; done) | (simp [*]; done)), (by first | rfl | (simp; done) | (simp [*]; done)), H', ⟨by have := HJ2.out; have := HK2.out; have := HJ13.out; have := HK4.out; omega⟩, ⟨by (with_reducible repeat (first | apply Kd.R_alloc | apply Kd.R_drewN | apply Kd.R_drew)); exact Kd.R_mono HO128.out (fun _ hk => trivial)⟩, ⟨by repeat (first | (with_reducible first | exact HB.out | apply below_alloc | apply pw_below_drewN | apply below_drew1) | exact HB.out)⟩⟩
                  ·rw [if_neg c31] at H
                   exact absurd H (by simp)
                 ·rw [if_neg c30] at H
                  exact absurd H (by simp)
                ·rw [if_neg c29] at H
                 exact absurd H (by simp)
               ·rw [if_neg c27] at H
                have c27b0 : (x10_13 == 2) = false := beq_eq_false_iff_ne.mpr c27
                have c27b1 : (x10_13 != 2) = true := bne_iff_ne.mpr c27
                obtain ⟨y129, hy129⟩ : ∃ y_ : List Int, y_ = (([(x9_4 / 65536) % 256, (x9_4 / 256) % 256, (x9_4) % 256] : List Int)) := ⟨_, rfl⟩
                replace H : (if 0 ≤ (wrap64 (x10_13 - 1)) then (if (wrap64 (x10_13 - 1)) ≤ (y129.length : Int) then ((some (y129.take ((wrap64 (x10_13 - 1)) : Int).toNat : List Int)).bind fun y132 => (if x6_2.length + y132.length < 140737488355328 then (spec_Decode.l1 k4 a0 x5_2 (x6_2 ++ y132) true (wrap64 (x8_2 + 4))) else (none))) else (none)) else (none)) = some (r1, r2, r3) := by first | (rw [hy129]; with_reducible exact H) | (have H2_ := (Option.bind_some _ _).symm.trans H; rw [hy129]; with_reducible exact H2_) | (have H2_ := (Option.bind_some _ _).symm.trans H; with_reducible exact H2_) | with_reducible exact H | (rw [hy129]; exact H) | exact H
                have Ny129 := Aside0.mk hy129
                clear hy129
                obtain ⟨ji37, hji37⟩ : ∃ j_ : Int, (wrap64 (x10_13 - 1)) = j_ := ⟨_, rfl⟩
                replace H : (if 0 ≤ (ji37) then (if (ji37) ≤ (y129.length : Int) then ((some (y129.take ((ji37) : Int).toNat : List Int)).bind fun y132 => (if x6_2.length + y132.length < 140737488355328 then (spec_Decode.l1 k4 a0 x5_2 (x6_2 ++ y132) true (wrap64 (x8_2 + 4))) else (none))) else (none)) else (none)) = some (r1, r2, r3) := by first | (rw [hji37] at H; exact H) | (simp only [hji37] at H ⊢; exact H)
                have hji37w : (IntKind.i64.wrap (x10_13 - 1)) = ji37 := (i64_w _).trans hji37
                by_cases c38 : 0 ≤ (ji37)
                ·rw [if_pos c38] at H
                 have c38b0 := eq_true c38
                 have c38b1 : decide (0 ≤ (ji37)) = true := decide_eq_true c38
                 clear c38
                 by_cases c39 : (ji37) ≤ (y129.length : Int)
                 ·rw [if_pos c39] at H
                  have c39b0 := eq_true c39
                  have c39b1 : decide ((ji37) ≤ (y129.length : Int)) = true := decide_eq_true c39
                  clear c39
                  obtain ⟨y132, hy132⟩ : ∃ y_ : List Int, y_ = (y129.take ((ji37) : Int).toNat) := ⟨_, rfl⟩
                  replace H : (if x6_2.length + y132.length < 140737488355328 then (spec_Decode.l1 k4 a0 x5_2 (x6_2 ++ y132) true (wrap64 (x8_2 + 4))) else (none)) = some (r1, r2, r3) := by first | (rw [hy132]; with_reducible exact H) | (have H2_ := (Option.bind_some _ _).symm.trans H; rw [hy132]; with_reducible exact H2_) | (have H2_ := (Option.bind_some _ _).symm.trans H; with_reducible exact H2_) | with_reducible exact H | (rw [hy132]; exact H) | exact H
                  have Ny132 := Aside0.mk hy132
                  clear hy132
                  by_cases c40 : x6_2.length + y132.length < 140737488355328
                  ·rw [if_pos c40] at H
                   have LMc40 := Aside0.mk c40
                   clear c40
                   obtain ⟨y136, hy136⟩ : ∃ y_ : List Int, y_ = (x6_2 ++ y132) := ⟨_, rfl⟩
                   replace H : (spec_Decode.l1 k4 a0 x5_2 y136 true (wrap64 (x8_2 + 4))) = some (r1, r2, r3) := by first | (rw [hy136]; with_reducible exact H) | (have H2_ := (Option.bind_some _ _).symm.trans H; rw [hy136]; with_reducible exact H2_) | (have H2_ := (Option.bind_some _ _).symm.trans H; with_reducible exact H2_) | with_reducible exact H | (rw [hy136]; exact H) | exact H
                   have Ny136 := Aside0.mk hy136
                   clear hy136
                   have H' := Aside0.mk H
                   clear H
                   go_wp2_with (first | ((with_reducible refine gate_dst (N := 98) rfl ?_); (try (refine gate_guard (by rfl) ?_; dsimp only)); refine Kd.R_lit (Kd.int .u8) _ 5 ?hg (N := 98) ?hd (xs := ([(x9_4 / 65536) % 256, (x9_4 / 256) % 256, (x9_4) % 256] : List Int)) (inner := [.int .u8 ((x9_4 / 65536) % 256), .int .u8 ((x9_4 / 256) % 256), .int .u8 ((x9_4) % 256)]) (ok := fun _ => True) (okp := fun _ => True) ?hr ?hp (fun _ hk => hk) trivial (Below.refl _ _) (Nat.le_refl _) (by simp) ?_; (case hd => rfl); (case hg => rfl); (case hr => first | (go_simp; done) | (go_simp; rfl)); (case hp => exact (Reps.one (show Kd.M (Kd.int .u8) _ _ _ ((x9_4 / 65536) % 256) [.int .u8 ((x9_4 / 65536) % 256)] from rfl) (Reps.one (show Kd.M (Kd.int .u8) _ _ _ ((x9_4 / 256) % 256) [.int .u8 ((x9_4 / 256) % 256)] from rfl) (Reps.one (show Kd.M (Kd.int .u8) _ _ _ ((x9_4) % 256) [.int .u8 ((x9_4) % 256)] from rfl) (Reps.none _ _))))); intro v130 w41 ho42 hb hg_ hnew_; clear hg_ hnew_; (first | rw [← Ny129.out] at ho42 | (simp only [Int.reduceToNat] at ho42; rw [← Ny129.out] at ho42)); have n0_ := Aside0.mk (Kd.R_elder' (by (with_reducible repeat (first | apply Kd.R_alloc | apply Kd.R_drewN | apply Kd.R_drew)); exact HO_6.out) (Kd.R_base ho42) hb); have n1_ := Aside0.mk (Kd.R_lower (Kd.R_new' ho42 (Kd.R_lt (by (with_reducible repeat (first | apply Kd.R_alloc | apply Kd.R_drewN | apply Kd.R_drew)); exact HO_6.out))) (below_size (by repeat (first | (with_reducible first | exact HB.out | apply below_alloc | apply pw_below_drewN | apply below_drew1) | exact HB.out)))); have n2_ := Aside0.mk (below_step (by repeat (first | (with_reducible first | exact HB.out | apply below_alloc | apply pw_below_drewN | apply below_drew1) | exact HB.out)) hb); clear HO_6; clear HB; have HO_6 := n0_; have HO131 := n1_; have HB := n2_; clear n0_ n1_ n2_; clear hb ho42; obtain ⟨Ao44, co44, eo44⟩ := Kd.R_slice HO131.out; subst eo44; have q43 : ((ji37) : Int) ≤ ((y129.length : Int) : Int) := of_decide_eq_true (by first | (with_reducible assumption) | assumption); obtain ⟨i043, hi043, _, hsz43, _⟩ := info_parts info5; have hroom43 : y129.length ≤ co44 := (Kd.R_reads' HO131.out).2.1; have hC43 : Kd.C (Kd.int .u8) _ Ao44 y129.length y129 := (Kd.R_reads' HO131.out).2.2; have hcut43 := cut_to (P := Tryz.prog) 72 5 .i64 Tryz.underlying72 hi043 Ao44 y129.length co44 (ji37) (of_decide_eq_true (by first | (with_reducible assumption) | assumption)) q43 hroom43; have hr43 := Kd.C_take (m := ((ji37) : Int).toNat) hC43 (by omega); have hy43 : y132.length = ((ji37) : Int).toNat := (by rw [Ny132.out, List.length_take]; omega); rw [← Ny132.out] at hr43; rw [← hy43] at hcut43; have HR135 := Aside0.mk hr43; have HC135 := Aside0.mk (show y132.length ≤ co44 from by omega); clear hr43 hC43 hroom43 hi043 hsz43; have KY43 := Aside0.mk hy43; clear hy43; have KL43 := Aside0.mk (show ((ji37) : Int).toNat ≤ y129.length from by omega); replace q43 := eq_true q43) | ((with_reducible refine gate_builtin (b := .append) (xs := #[.tmp 89, .tmp 101]) rfl ?_); (try (refine gate_guard (by rfl) ?_; dsimp only)); at_builtin; refine Kd.R_append_rows (Kd.int .u8) (w0 := w) w.heap.size rfl (.tmp 89) (.tmp 101) 72 5 (.int .u8 0) 1 rfl Tryz.underlying72 info5 rfl (by decide) (by omega) u6 x6_2 y132 _ _ _ (fun k_ => some k_ ≠ (.slice Ao44 y129.length co44 : Value).ownBlock) (fun _ => False) rfl rfl ?aO ?aR (fun _ _ h => h) (fun _ h => h.elim) ?aF ?aB ?aS ?aL ?_; (case aR => repeat (first | exact (by repeat (first | (with_reducible exact HR135.out) | (with_reducible refine Kd.C_alloc ?_ _) | (with_reducible refine Kd.C_drewN ?_ _) | (with_reducible refine Kd.C_drew ?_) | exact HR135.out)) | (with_reducible refine Kd.C_alloc ?_ _) | (with_reducible refine Kd.C_drewN ?_ _) | (with_reducible refine Kd.C_drew ?_))); (case aB => exact (by repeat (first | (with_reducible first | exact HB.out | apply below_alloc | apply pw_below_drewN | apply below_drew1) | exact HB.out))); (case aF => exact (fun k_ hk => Kd.fresh' (Kd.R_lt (by (with_reducible repeat (first | apply Kd.R_alloc | apply Kd.R_drewN | apply Kd.R_drew)); exact HO131.out)) k_ hk)); (case aO => exact (by (with_reducible repeat (first | apply Kd.R_alloc | apply Kd.R_drewN | apply Kd.R_drew)); exact Kd.R_mono HO_6.out (fun _ hk => hk.2))); (case aS => exact (below_size (by repeat (first | (with_reducible first | exact HB.out | apply below_alloc | apply pw_below_drewN | apply below_drew1) | exact HB.out)))); (case aL => have := LMc40.out; omega); intro v137 w45 ho hb hg hat; rw [← Ny136.out] at ho; have n0_ := Aside0.mk (Kd.R_after (ok := (fun _ => True)) (by (with_reducible repeat (first | apply Kd.R_alloc | apply Kd.R_drewN | apply Kd.R_drew)); exact HO131.out) hg hat); have n1_ := Aside0.mk (hb); have n2_ := Aside0.mk ((show Kd.C (Kd.int .u8) w45 Ao44 y132.length y132 from by rw [Ny132.out]; exact Kd.C_take (m := ((ji37) : Int).toNat) ((Kd.R_reads' (Kd.R_after (ok := (fun _ => True)) (by (with_reducible repeat (first | apply Kd.R_alloc | apply Kd.R_drewN | apply Kd.R_drew)); exact HO131.out) hg hat)).2.2) KL43.out)); have n3_ := Aside0.mk (ho); clear HO131; clear HB; clear HR135; clear HO_6; have HO131 := n0_; have HB := n1_; have HR135 := n2_; have HO138 := n3_; clear n0_ n1_ n2_ n3_; clear ho hb hg hat))
                   go_roundg k4
                   case measure => have := HJ2.out; have := HK2.out; have := HJ13.out; have := HK4.out; omega
                   case rel => exact ⟨(y136), (true), (wrap64 (x8_2 + 4)), (by first | rfl | (simp; done) | (simp [*]; done)), (by first | rfl | (simp; done) | (simp [*]; done)), H', ⟨by have := HJ2.out; have := HK2.out; have := HJ13.out; have := HK4.out; omega⟩, ⟨by (with_reducible repeat (first | apply Kd.R_alloc | apply Kd.R_drewN | apply Kd.R_drew)); exact Kd.R_mono HO138.out (fun _ hk => trivial)⟩, ⟨by repeat (first | (with_reducible first | exact HB.out | apply below_alloc | apply pw_below_drewN | apply below_drew1) | exact HB.out)⟩⟩
                  ·rw [if_neg c40] at H
                   exact absurd H (by simp)
                 ·rw [if_neg c39] at H
                  exact absurd H (by simp)
                ·rw [if_neg c38] at H
                 exact absurd H (by simp)
              ·rw [if_neg c26] at H
               have c26b0 : ((Go.bits .and .i64 x9_4 255) == 0) = false := beq_eq_false_iff_ne.mpr c26
               have c26b1 : ((Go.bits .and .i64 x9_4 255) != 0) = true := bne_iff_ne.mpr c26
               obtain ⟨y139, hy139⟩ : ∃ y_ : List Int, y_ = (([(x9_4 / 65536) % 256, (x9_4 / 256) % 256, (x9_4) % 256] : List Int)) := ⟨_, rfl⟩
               replace H : (if 0 ≤ (wrap64 (x10_13 - 1)) then (if (wrap64 (x10_13 - 1)) ≤ (y139.length : Int) then ((some (y139.take ((wrap64 (x10_13 - 1)) : Int).toNat : List Int)).bind fun y142 => (if x6_2.length + y142.length < 140737488355328 then (spec_Decode.l1 k4 a0 x5_2 (x6_2 ++ y142) false (wrap64 (x8_2 + 4))) else (none))) else (none)) else (none)) = some (r1, r2, r3) := by first | (rw [hy139]; with_reducible exact H) | (have H2_ := (Option.bind_some _ _).symm.trans H; rw [hy139]; with_reducible exact H2_) | (have H2_ := (Option.bind_some _ _).symm.trans H; with_reducible exact H2_) | with_reducible exact H | (rw [hy139]; exact H) | exact H
               have Ny139 := Aside0.mk hy139
               clear hy139
               obtain ⟨ji46, hji46⟩ : ∃ j_ : Int, (wrap64 (x10_13 - 1)) = j_ := ⟨_, rfl⟩
               replace H : (if 0 ≤ (ji46) then (if (ji46) ≤ (y139.length : Int) then ((some (y139.take ((ji46) : Int).toNat : List Int)).bind fun y142 => (if x6_2.length + y142.length < 140737488355328 then (spec_Decode.l1 k4 a0 x5_2 (x6_2 ++ y142) false (wrap64 (x8_2 + 4))) else (none))) else (none)) else (none)) = some (r1, r2, r3) := by first | (rw [hji46] at H; exact H) | (simp only [hji46] at H ⊢; exact H)
               have hji46w : (IntKind.i64.wrap (x10_13 - 1)) = ji46 := (i64_w _).trans hji46
               by_cases c47 : 0 ≤ (ji46)
               ·rw [if_pos c47] at H
                have c47b0 := eq_true c47
                have c47b1 : decide (0 ≤ (ji46)) = true := decide_eq_true c47
                clear c47
                by_cases c48 : (ji46) ≤ (y139.length : Int)
                ·rw [if_pos c48] at H
                 have c48b0 := eq_true c48
                 have c48b1 : decide ((ji46) ≤ (y139.length : Int)) = true := decide_eq_true c48
                 clear c48
                 obtain ⟨y142, hy142⟩ : ∃ y_ : List Int, y_ = (y139.take ((ji46) : Int).toNat) := ⟨_, rfl⟩
                 replace H : (if x6_2.length + y142.length < 140737488355328 then (spec_Decode.l1 k4 a0 x5_2 (x6_2 ++ y142) false (wrap64 (x8_2 + 4))) else (none)) = some (r1, r2, r3) := by first | (rw [hy142]; with_reducible exact H) | (have H2_ := (Option.bind_some _ _).symm.trans H; rw [hy142]; with_reducible exact H2_) | (have H2_ := (Option.bind_some _ _).symm.trans H; with_reducible exact H2_) | with_reducible exact H | (rw [hy142]; exact H) | exact H
                 have Ny142 := Aside0.mk hy142
                 clear hy142
                 by_cases c49 : x6_2.length + y142.length < 140737488355328
                 ·rw [if_pos c49] at H
                  have LMc49 := Aside0.mk c49
                  clear c49
                  obtain ⟨y146, hy146⟩ : ∃ y_ : List Int, y_ = (x6_2 ++ y142) := ⟨_, rfl⟩
                  replace H : (spec_Decode.l1 k4 a0 x5_2 y146 false (wrap64 (x8_2 + 4))) = some (r1, r2, r3) := by first | (rw [hy146]; with_reducible exact H) | (have H2_ := (Option.bind_some _ _).symm.trans H; rw [hy146]; with_reducible exact H2_) | (have H2_ := (Option.bind_some _ _).symm.trans H; with_reducible exact H2_) | with_reducible exact H | (rw [hy146]; exact H) | exact H
                  have Ny146 := Aside0.mk hy146
                  clear hy146
                  have H' := Aside0.mk H
                  clear H
                  go_wp2_with (first | ((with_reducible refine gate_dst (N := 98) rfl ?_); (try (refine gate_guard (by rfl) ?_; dsimp only)); refine Kd.R_lit (Kd.int .u8) _ 5 ?hg (N := 98) ?hd (xs := ([(x9_4 / 65536) % 256, (x9_4 / 256) % 256, (x9_4) % 256] : List Int)) (inner := [.int .u8 ((x9_4 / 65536) % 256), .int .u8 ((x9_4 / 256) % 256), .int .u8 ((x9_4) % 256)]) (ok := fun _ => True) (okp := fun _ => True) ?hr ?hp (fun _ hk => hk) trivial (Below.refl _ _) (Nat.le_refl _) (by simp) ?_; (case hd => rfl); (case hg => rfl); (case hr => first | (go_simp; done) | (go_simp; rfl)); (case hp => exact (Reps.one (show Kd.M (Kd.int .u8) _ _ _ ((x9_4 / 65536) % 256) [.int .u8 ((x9_4 / 65536) % 256)] from rfl) (Reps.one (show Kd.M (Kd.int .u8) _ _ _ ((x9_4 / 256) % 256) [.int .u8 ((x9_4 / 256) % 256)] from rfl) (Reps.one (show Kd.M (Kd.int .u8) _ _ _ ((x9_4) % 256) [.int .u8 ((x9_4) % 256)] from rfl) (Reps.none _ _))))); intro v140 w50 ho51 hb hg_ hnew_; clear hg_ hnew_; (first | rw [← Ny139.out] at ho51 | (simp only [Int.reduceToNat] at ho51; rw [← Ny139.out] at ho51)); have n0_ := Aside0.mk (Kd.R_elder' (by (with_reducible repeat (first | apply Kd.R_alloc | apply Kd.R_drewN | apply Kd.R_drew)); exact HO_6.out) (Kd.R_base ho51) hb); have n1_ := Aside0.mk (Kd.R_lower (Kd.R_new' ho51 (Kd.R_lt (by (with_reducible repeat (first | apply Kd.R_alloc | apply Kd.R_drewN | apply Kd.R_drew)); exact HO_6.out))) (below_size (by repeat (first | (with_reducible first | exact HB.out | apply below_alloc | apply pw_below_drewN | apply below_drew1) | exact HB.out)))); have n2_ := Aside0.mk (below_step (by repeat (first | (with_reducible first | exact HB.out | apply below_alloc | apply pw_below_drewN | apply below_drew1) | exact HB.out)) hb); clear HO_6; clear HB; have HO_6 := n0_; have HO141 := n1_; have HB := n2_; clear n0_ n1_ n2_; clear hb ho51; obtain ⟨Ao53, co53, eo53⟩ := Kd.R_slice HO141.out; subst eo53; have q52 : ((ji46) : Int) ≤ ((y139.length : Int) : Int) := of_decide_eq_true (by first | (with_reducible assumption) | assumption); obtain ⟨i052, hi052, _, hsz52, _⟩ := info_parts info5; have hroom52 : y139.length ≤ co53 := (Kd.R_reads' HO141.out).2.1; have hC52 : Kd.C (Kd.int .u8) _ Ao53 y139.length y139 := (Kd.R_reads' HO141.out).2.2; have hcut52 := cut_to (P := Tryz.prog) 72 5 .i64 Tryz.underlying72 hi052 Ao53 y139.length co53 (ji46) (of_decide_eq_true (by first | (with_reducible assumption) | assumption)) q52 hroom52; have hr52 := Kd.C_take (m := ((ji46) : Int).toNat) hC52 (by omega); have hy52 : y142.length = ((ji46) : Int).toNat := (by rw [Ny142.out, List.length_take]; omega); rw [← Ny142.out] at hr52; rw [← hy52] at hcut52; have HR145 := Aside0.mk hr52; have HC145 := Aside0.mk (show y142.length ≤ co53 from by omega); clear hr52 hC52 hroom52 hi052 hsz52; have KY52 := Aside0.mk hy52; clear hy52; have KL52 := Aside0.mk (show ((ji46) : Int).toNat ≤ y139.length from by omega); replace q52 := eq_true q52) | ((with_reducible refine gate_builtin (b := .append) (xs := #[.tmp 89, .tmp 101]) rfl ?_); (try (refine gate_guard (by rfl) ?_; dsimp only)); at_builtin; refine Kd.R_append_rows (Kd.int .u8) (w0 := w) w.heap.size rfl (.tmp 89) (.tmp 101) 72 5 (.int .u8 0) 1 rfl Tryz.underlying72 info5 rfl (by decide) (by omega) u6 x6_2 y142 _ _ _ (fun k_ => some k_ ≠ (.slice Ao53 y139.length co53 : Value).ownBlock) (fun _ => False) rfl rfl ?aO ?aR (fun _ _ h => h) (fun _ h => h.elim) ?aF ?aB ?aS ?aL ?_; (case aR => repeat (first | exact (by repeat (first | (with_reducible exact HR145.out) | (with_reducible refine Kd.C_alloc ?_ _) | (with_reducible refine Kd.C_drewN ?_ _) | (with_reducible refine Kd.C_drew ?_) | exact HR145.out)) | (with_reducible refine Kd.C_alloc ?_ _) | (with_reducible refine Kd.C_drewN ?_ _) | (with_reducible refine Kd.C_drew ?_))); (case aB => exact (by repeat (first | (with_reducible first | exact HB.out | apply below_alloc | apply pw_below_drewN | apply below_drew1) | exact HB.out))); (case aF => exact (fun k_ hk => Kd.fresh' (Kd.R_lt (by (with_reducible repeat (first | apply Kd.R_alloc | apply Kd.R_drewN | apply Kd.R_drew)); exact HO141.out)) k_ hk)); (case aO => exact (by (with_reducible repeat (first | apply Kd.R_alloc | apply Kd.R_drewN | apply Kd.R_drew)); exact Kd.R_mono HO_6.out (fun _ hk => hk.2))); (case aS => exact (below_size (by repeat (first | (with_reducible first | exact HB.out | apply below_alloc | apply pw_below_drewN | apply below_drew1) | exact HB.out)))); (case aL => have := LMc49.out; omega); intro v147 w54 ho hb hg hat; rw [← Ny146.out] at ho; have n0_ := Aside0.mk (Kd.R_after (ok := (fun _ => True)) (by (with_reducible repeat (first | apply Kd.R_alloc | apply Kd.R_drewN | apply Kd.R_drew)); exact HO141.out) hg hat); have n1_ := Aside0.mk (hb); have n2_ := Aside0.mk ((show Kd.C (Kd.int .u8) w54 Ao53 y142.length y142 from by rw [Ny142.out]; exact Kd.C_take (m := ((ji46) : Int).toNat) ((Kd.R_reads' (Kd.R_after (ok := (fun _ => True)) (by (with_reducible repeat (first | apply Kd.R_alloc | apply Kd.R_drewN | apply Kd.R_drew)); exact HO141.out) hg hat)).2.2) KL52.out)); have n3_ := Aside0.mk (ho); clear HO141; clear HB; clear HR145; clear HO_6; have HO141 := n0_; have HB := n1_; have HR145 := n2_; have HO148 := n3_; clear n0_ n1_ n2_ n3_; clear ho hb hg hat))
                  go_roundg k4
                  case measure => have := HJ2.out; have := HK2.out; have := HJ13.out; have := HK4.out; omega
                  case rel => exact ⟨(y146), (false), (wrap64 (x8_2 + 4)), (by first | rfl | (simp; done) | (simp [*]; done)), (by first | rfl | (simp; done) | (simp [*]; done)), H', ⟨by have := HJ2.out; have := HK2.out; have := HJ13.out; have := HK4.out; omega⟩, ⟨by (with_reducible repeat (first | apply Kd.R_alloc | apply Kd.R_drewN | apply Kd.R_drew)); exact Kd.R_mono HO148.out (fun _ hk => trivial)⟩, ⟨by repeat (first | (with_reducible first | exact HB.out | apply below_alloc | apply pw_below_drewN | apply below_drew1) | exact HB.out)⟩⟩
                 ·rw [if_neg c49] at H
                  exact absurd H (by simp)
                ·rw [if_neg c48] at H
                 exact absurd H (by simp)
               ·rw [if_neg c47] at H
                exact absurd H (by simp)
             ·rw [if_neg c25] at H
              have c25b0 : (x10_13 == 3) = false := beq_eq_false_iff_ne.mpr c25
              have c25b1 : (x10_13 != 3) = true := bne_iff_ne.mpr c25
              by_cases c55 : x10_13 = 2
              ·rw [if_pos c55] at H
               have c55b0 : (x10_13 == 2) = true := beq_iff_eq.mpr c55
               have c55b1 : (x10_13 != 2) = false := bne_eq_false_iff_eq.mpr c55
               clear c55
               obtain ⟨y149, hy149⟩ : ∃ y_ : List Int, y_ = (([(x9_4 / 65536) % 256, (x9_4 / 256) % 256, (x9_4) % 256] : List Int)) := ⟨_, rfl⟩
               replace H : (if 0 ≤ (wrap64 (x10_13 - 1)) then (if (wrap64 (x10_13 - 1)) ≤ (y149.length : Int) then ((some (y149.take ((wrap64 (x10_13 - 1)) : Int).toNat : List Int)).bind fun y152 => (if x6_2.length + y152.length < 140737488355328 then (spec_Decode.l1 k4 a0 x5_2 (x6_2 ++ y152) ((Go.bits .and .i64 x9_4 65535) == 0) (wrap64 (x8_2 + 4))) else (none))) else (none)) else (none)) = some (r1, r2, r3) := by first | (rw [hy149]; with_reducible exact H) | (have H2_ := (Option.bind_some _ _).symm.trans H; rw [hy149]; with_reducible exact H2_) | (have H2_ := (Option.bind_some _ _).symm.trans H; with_reducible exact H2_) | with_reducible exact H | (rw [hy149]; exact H) | exact H
               have Ny149 := Aside0.mk hy149
               clear hy149
               obtain ⟨ji56, hji56⟩ : ∃ j_ : Int, (wrap64 (x10_13 - 1)) = j_ := ⟨_, rfl⟩
               replace H : (if 0 ≤ (ji56) then (if (ji56) ≤ (y149.length : Int) then ((some (y149.take ((ji56) : Int).toNat : List Int)).bind fun y152 => (if x6_2.length + y152.length < 140737488355328 then (spec_Decode.l1 k4 a0 x5_2 (x6_2 ++ y152) ((Go.bits .and .i64 x9_4 65535) == 0) (wrap64 (x8_2 + 4))) else (none))) else (none)) else (none)) = some (r1, r2, r3) := by first | (rw [hji56] at H; exact H) | (simp only [hji56] at H ⊢; exact H)
               have hji56w : (IntKind.i64.wrap (x10_13 - 1)) = ji56 := (i64_w _).trans hji56
               by_cases c57 : 0 ≤ (ji56)
               ·rw [if_pos c57] at H
                have c57b0 := eq_true c57
                have c57b1 : decide (0 ≤ (ji56)) = true := decide_eq_true c57
                clear c57
                by_cases c58 : (ji56) ≤ (y149.length : Int)
                ·rw [if_pos c58] at H
                 have c58b0 := eq_true c58
                 have c58b1 : decide ((ji56) ≤ (y149.length : Int)) = true := decide_eq_true c58
                 clear c58
                 obtain ⟨y152, hy152⟩ : ∃ y_ : List Int, y_ = (y149.take ((ji56) : Int).toNat) := ⟨_, rfl⟩
                 replace H : (if x6_2.length + y152.length < 140737488355328 then (spec_Decode.l1 k4 a0 x5_2 (x6_2 ++ y152) ((Go.bits .and .i64 x9_4 65535) == 0) (wrap64 (x8_2 + 4))) else (none)) = some (r1, r2, r3) := by first | (rw [hy152]; with_reducible exact H) | (have H2_ := (Option.bind_some _ _).symm.trans H; rw [hy152]; with_reducible exact H2_) | (have H2_ := (Option.bind_some _ _).symm.trans H; with_reducible exact H2_) | with_reducible exact H | (rw [hy152]; exact H) | exact H
                 have Ny152 := Aside0.mk hy152
                 clear hy152
                 by_cases c59 : x6_2.length + y152.length < 140737488355328
                 ·rw [if_pos c59] at H
                  have LMc59 := Aside0.mk c59
                  clear c59
                  obtain ⟨y156, hy156⟩ : ∃ y_ : List Int, y_ = (x6_2 ++ y152) := ⟨_, rfl⟩
                  replace H : (spec_Decode.l1 k4 a0 x5_2 y156 ((Go.bits .and .i64 x9_4 65535) == 0) (wrap64 (x8_2 + 4))) = some (r1, r2, r3) := by first | (rw [hy156]; with_reducible exact H) | (have H2_ := (Option.bind_some _ _).symm.trans H; rw [hy156]; with_reducible exact H2_) | (have H2_ := (Option.bind_some _ _).symm.trans H; with_reducible exact H2_) | with_reducible exact H | (rw [hy156]; exact H) | exact H
                  have Ny156 := Aside0.mk hy156
                  clear hy156
                  have H' := Aside0.mk H
                  clear H
                  go_wp2_with (first | ((with_reducible refine gate_dst (N := 98) rfl ?_); (try (refine gate_guard (by rfl) ?_; dsimp only)); refine Kd.R_lit (Kd.int .u8) _ 5 ?hg (N := 98) ?hd (xs := ([(x9_4 / 65536) % 256, (x9_4 / 256) % 256, (x9_4) % 256] : List Int)) (inner := [.int .u8 ((x9_4 / 65536) % 256), .int .u8 ((x9_4 / 256) % 256), .int .u8 ((x9_4) % 256)]) (ok := fun _ => True) (okp := fun _ => True) ?hr ?hp (fun _ hk => hk) trivial (Below.refl _ _) (Nat.le_refl _) (by simp) ?_; (case hd => rfl); (case hg => rfl); (case hr => first | (go_simp; done) | (go_simp; rfl)); (case hp => exact (Reps.one (show Kd.M (Kd.int .u8) _ _ _ ((x9_4 / 65536) % 256) [.int .u8 ((x9_4 / 65536) % 256)] from rfl) (Reps.one (show Kd.M (Kd.int .u8) _ _ _ ((x9_4 / 256) % 256) [.int .u8 ((x9_4 / 256) % 256)] from rfl) (Reps.one (show Kd.M (Kd.int .u8) _ _ _ ((x9_4) % 256) [.int .u8 ((x9_4) % 256)] from rfl) (Reps.none _ _))))); intro v150 w60 ho61 hb hg_ hnew_; clear hg_ hnew_; (first | rw [← Ny149.out] at ho61 | (simp only [Int.reduceToNat] at ho61; rw [← Ny149.out] at ho61)); have n0_ := Aside0.mk (Kd.R_elder' (by (with_reducible repeat (first | apply Kd.R_alloc | apply Kd.R_drewN | apply Kd.R_drew)); exact HO_6.out) (Kd.R_base ho61) hb); have n1_ := Aside0.mk (Kd.R_lower (Kd.R_new' ho61 (Kd.R_lt (by (with_reducible repeat (first | apply Kd.R_alloc | apply Kd.R_drewN | apply Kd.R_drew)); exact HO_6.out))) (below_size (by repeat (first | (with_reducible first | exact HB.out | apply below_alloc | apply pw_below_drewN | apply below_drew1) | exact HB.out)))); have n2_ := Aside0.mk (below_step (by repeat (first | (with_reducible first | exact HB.out | apply below_alloc | apply pw_below_drewN | apply below_drew1) | exact HB.out)) hb); clear HO_6; clear HB; have HO_6 := n0_; have HO151 := n1_; have HB := n2_; clear n0_ n1_ n2_; clear hb ho61; obtain ⟨Ao63, co63, eo63⟩ := Kd.R_slice HO151.out; subst eo63; have q62 : ((ji56) : Int) ≤ ((y149.length : Int) : Int) := of_decide_eq_true (by first | (with_reducible assumption) | assumption); obtain ⟨i062, hi062, _, hsz62, _⟩ := info_parts info5; have hroom62 : y149.length ≤ co63 := (Kd.R_reads' HO151.out).2.1; have hC62 : Kd.C (Kd.int .u8) _ Ao63 y149.length y149 := (Kd.R_reads' HO151.out).2.2; have hcut62 := cut_to (P := Tryz.prog) 72 5 .i64 Tryz.underlying72 hi062 Ao63 y149.length co63 (ji56) (of_decide_eq_true (by first | (with_reducible assumption) | assumption)) q62 hroom62; have hr62 := Kd.C_take (m := ((ji56) : Int).toNat) hC62 (by omega); have hy62 : y152.length = ((ji56) : Int).toNat := (by rw [Ny152.out, List.length_take]; omega); rw [← Ny152.out] at hr62; rw [← hy62] at hcut62; have HR155 := Aside0.mk hr62; have HC155 := Aside0.mk (show y152.length ≤ co63 from by omega); clear hr62 hC62 hroom62 hi062 hsz62; have KY62 := Aside0.mk hy62; clear hy62; have KL62 := Aside0.mk (show ((ji56) : Int).toNat ≤ y149.length from by omega); replace q62 := eq_true q62) | ((with_reducible refine gate_builtin (b := .append) (xs := #[.tmp 89, .tmp 101]) rfl ?_); (try (refine gate_guard (by rfl) ?_; dsimp only)); at_builtin; refine Kd.R_append_rows (Kd.int .u8) (w0 := w) w.heap.size rfl (.tmp 89) (.tmp 101) 72 5 (.int .u8 0) 1 rfl Tryz.underlying72 info5 rfl (by decide) (by omega) u6 x6_2 y152 _ _ _ (fun k_ => some k_ ≠ (.slice Ao63 y149.length co63 : Value).ownBlock) (fun _ => False) rfl rfl ?aO ?aR (fun _ _ h => h) (fun _ h => h.elim) ?aF ?aB ?aS ?aL ?_; (case aR => repeat (first | exact (by repeat (first | (with_reducible exact HR155.out) | (with_reducible refine Kd.C_alloc ?_ _) | (with_reducible refine Kd.C_drewN ?_ _) | (with_reducible refine Kd.C_drew ?_) | exact HR155.out)) | (with_reducible refine Kd.C_alloc ?_ _) | (with_reducible refine Kd.C_drewN ?_ _) | (with_reducible refine Kd.C_drew ?_))); (case aB => exact (by repeat (first | (with_reducible first | exact HB.out | apply below_alloc | apply pw_below_drewN | apply below_drew1) | exact HB.out))); (case aF => exact (fun k_ hk => Kd.fresh' (Kd.R_lt (by (with_reducible repeat (first | apply Kd.R_alloc | apply Kd.R_drewN | apply Kd.R_drew)); exact HO151.out)) k_ hk)); (case aO => exact (by (with_reducible repeat (first | apply Kd.R_alloc | apply Kd.R_drewN | apply Kd.R_drew)); exact Kd.R_mono HO_6.out (fun _ hk => hk.2))); (case aS => exact (below_size (by repeat (first | (with_reducible first | exact HB.out | apply below_alloc | apply pw_below_drewN | apply below_drew1) | exact HB.out)))); (case aL => have := LMc59.out; omega); intro v157 w64 ho hb hg hat; rw [← Ny156.out] at ho; have n0_ := Aside0.mk (Kd.R_after (ok := (fun _ => True)) (by (with_reducible repeat (first | apply Kd.R_alloc | apply Kd.R_drewN | apply Kd.R_drew)); exact HO151.out) hg hat); have n1_ := Aside0.mk (hb); have n2_ := Aside0.mk ((show Kd.C (Kd.int .u8) w64 Ao63 y152.length y152 from by rw [Ny152.out]; exact Kd.C_take (m := ((ji56) : Int).toNat) ((Kd.R_reads' (Kd.R_after (ok := (fun _ => True)) (by (with_reducible repeat (first | apply Kd.R_alloc | apply Kd.R_drewN | apply Kd.R_drew)); exact HO151.out) hg hat)).2.2) KL62.out)); have n3_ := Aside0.mk (ho); clear HO151; clear HB; clear HR155; clear HO_6; have HO151 := n0_; have HB := n1_; have HR155 := n2_; have HO158 := n3_; clear n0_ n1_ n2_ n3_; clear ho hb hg hat))
                  go_roundg k4
                  case measure => have := HJ2.out; have := HK2.out; have := HJ13.out; have := HK4.out; omega
                  case rel => exact ⟨(y156), (((Go.bits .and .i64 x9_4 65535) == 0)), (wrap64 (x8_2 + 4)), (by first | rfl | (simp; done) | (simp [*]; done)), (by first | rfl | (simp; done) | (simp [*]; done)), H', ⟨by have := HJ2.out; have := HK2.out; have := HJ13.out; have := HK4.out; omega⟩, ⟨by (with_reducible repeat (first | apply Kd.R_alloc | apply Kd.R_drewN | apply Kd.R_drew)); exact Kd.R_mono HO158.out (fun _ hk => trivial)⟩, ⟨by repeat (first | (with_reducible first | exact HB.out | apply below_alloc | apply pw_below_drewN | apply below_drew1) | exact HB.out)⟩⟩
                 ·rw [if_neg c59] at H
                  exact absurd H (by simp)
                ·rw [if_neg c58] at H
                 exact absurd H (by simp)
               ·rw [if_neg c57] at H
                exact absurd H (by simp)
              ·rw [if_neg c55] at H
               have c55b0 : (x10_13 == 2) = false := beq_eq_false_iff_ne.mpr c55
               have c55b1 : (x10_13 != 2) = true := bne_iff_ne.mpr c55
               obtain ⟨y159, hy159⟩ : ∃ y_ : List Int, y_ = (([(x9_4 / 65536) % 256, (x9_4 / 256) % 256, (x9_4) % 256] : List Int)) := ⟨_, rfl⟩
               replace H : (if 0 ≤ (wrap64 (x10_13 - 1)) then (if (wrap64 (x10_13 - 1)) ≤ (y159.length : Int) then ((some (y159.take ((wrap64 (x10_13 - 1)) : Int).toNat : List Int)).bind fun y162 => (if x6_2.length + y162.length < 140737488355328 then (spec_Decode.l1 k4 a0 x5_2 (x6_2 ++ y162) true (wrap64 (x8_2 + 4))) else (none))) else (none)) else (none)) = some (r1, r2, r3) := by first | (rw [hy159]; with_reducible exact H) | (have H2_ := (Option.bind_some _ _).symm.trans H; rw [hy159]; with_reducible exact H2_) | (have H2_ := (Option.bind_some _ _).symm.trans H; with_reducible exact H2_) | with_reducible exact H | (rw [hy159]; exact H) | exact H
               have Ny159 := Aside0.mk hy159
               clear hy159
               obtain ⟨ji65, hji65⟩ : ∃ j_ : Int, (wrap64 (x10_13 - 1)) = j_ := ⟨_, rfl⟩
               replace H : (if 0 ≤ (ji65) then (if (ji65) ≤ (y159.length : Int) then ((some (y159.take ((ji65) : Int).toNat : List Int)).bind fun y162 => (if x6_2.length + y162.length < 140737488355328 then (spec_Decode.l1 k4 a0 x5_2 (x6_2 ++ y162) true (wrap64 (x8_2 + 4))) else (none))) else (none)) else (none)) = some (r1, r2, r3) := by first | (rw [hji65] at H; exact H) | (simp only [hji65] at H ⊢; exact H)
               have hji65w : (IntKind.i64.wrap (x10_13 - 1)) = ji65 := (i64_w _).trans hji65
               by_cases c66 : 0 ≤ (ji65)
               ·rw [if_pos c66] at H
                have c66b0 := eq_true c66
                have c66b1 : decide (0 ≤ (ji65)) = true := decide_eq_true c66
                clear c66
                by_cases c67 : (ji65) ≤ (y159.length : Int)
                ·rw [if_pos c67] at H
                 have c67b0 := eq_true c67
                 have c67b1 : decide ((ji65) ≤ (y159.length : Int)) = true := decide_eq_true c67
                 clear c67
                 obtain ⟨y162, hy162⟩ : ∃ y_ : List Int, y_ = (y159.take ((ji65) : Int).toNat) := ⟨_, rfl⟩
                 replace H : (if x6_2.length + y162.length < 140737488355328 then (spec_Decode.l1 k4 a0 x5_2 (x6_2 ++ y162) true (wrap64 (x8_2 + 4))) else (none)) = some (r1, r2, r3) := by first | (rw [hy162]; with_reducible exact H) | (have H2_ := (Option.bind_some _ _).symm.trans H; rw [hy162]; with_reducible exact H2_) | (have H2_ := (Option.bind_some _ _).symm.trans H; with_reducible exact H2_) | with_reducible exact H | (rw [hy162]; exact H) | exact H
                 have Ny162 := Aside0.mk hy162
                 clear hy162
                 by_cases c68 : x6_2.length + y162.length < 140737488355328
                 ·rw [if_pos c68] at H
                  have LMc68 := Aside0.mk c68
                  clear c68
                  obtain ⟨y166, hy166⟩ : ∃ y_ : List Int, y_ = (x6_2 ++ y162) := ⟨_, rfl⟩
                  replace H : (spec_Decode.l1 k4 a0 x5_2 y166 true (wrap64 (x8_2 + 4))) = some (r1, r2, r3) := by first | (rw [hy166]; with_reducible exact H) | (have H2_ := (Option.bind_some _ _).symm.trans H; rw [hy166]; with_reducible exact H2_) | (have H2_ := (Option.bind_some _ _).symm.trans H; with_reducible exact H2_) | with_reducible exact H | (rw [hy166]; exact H) | exact H
                  have Ny166 := Aside0.mk hy166
                  clear hy166
                  have H' := Aside0.mk H
                  clear H
                  go_wp2_with (first | ((with_reducible refine gate_dst (N := 98) rfl ?_); (try (refine gate_guard (by rfl) ?_; dsimp only)); refine Kd.R_lit (Kd.int .u8) _ 5 ?hg (N := 98) ?hd (xs := ([(x9_4 / 65536) % 256, (x9_4 / 256) % 256, (x9_4) % 256] : List Int)) (inner := [.int .u8 ((x9_4 / 65536) % 256), .int .u8 ((x9_4 / 256) % 256), .int .u8 ((x9_4) % 256)]) (ok := fun _ => True) (okp := fun _ => True) ?hr ?hp (fun _ hk => hk) trivial (Below.refl _ _) (Nat.le_refl _) (by simp) ?_; (case hd => rfl); (case hg => rfl); (case hr => first | (go_simp; done) | (go_simp; rfl)); (case hp => exact (Reps.one (show Kd.M (Kd.int .u8) _ _ _ ((x9_4 / 65536) % 256) [.int .u8 ((x9_4 / 65536) % 256)] from rfl) (Reps.one (show Kd.M (Kd.int .u8) _ _ _ ((x9_4 / 256) % 256) [.int .u8 ((x9_4 / 256) % 256)] from rfl) (Reps.one (show Kd.M (Kd.int .u8) _ _ _ ((x9_4) % 256) [.int .u8 ((x9_4) % 256)] from rfl) (Reps.none _ _))))); intro v160 w69 ho70 hb hg_ hnew_; clear hg_ hnew_; (first | rw [← Ny159.out] at ho70 | (simp only [Int.reduceToNat] at ho70; rw [← Ny159.out] at ho70)); have n0_ := Aside0.mk (Kd.R_elder' (by (with_reducible repeat (first | apply Kd.R_alloc | apply Kd.R_drewN | apply Kd.R_drew)); exact HO_6.out) (Kd.R_base ho70) hb); have n1_ := Aside0.mk (Kd.R_lower (Kd.R_new' ho70 (Kd.R_lt (by (with_reducible repeat (first | apply Kd.R_alloc | apply Kd.R_drewN | apply Kd.R_drew)); exact HO_6.out))) (below_size (by repeat (first | (with_reducible first | exact HB.out | apply below_alloc | apply pw_below_drewN | apply below_drew1) | exact HB.out)))); have n2_ := Aside0.mk (below_step (by repeat (first | (with_reducible first | exact HB.out | apply below_alloc | apply pw_below_drewN | apply below_drew1) | exact HB.out)) hb); clear HO_6; clear HB; have HO_6 := n0_; have HO161 := n1_; have HB := n2_; clear n0_ n1_ n2_; clear hb ho70; obtain ⟨Ao72, co72, eo72⟩ := Kd.R_slice HO161.out; subst eo72; have q71 : ((ji65) : Int) ≤ ((y159.length : Int) : Int) := of_decide_eq_true (by first | (with_reducible assumption) | assumption); obtain ⟨i071, hi071, _, hsz71, _⟩ := info_parts info5; have hroom71 : y159.length ≤ co72 := (Kd.R_reads' HO161.out).2.1; have hC71 : Kd.C (Kd.int .u8) _ Ao72 y159.length y159 := (Kd.R_reads' HO161.out).2.2; have hcut71 := cut_to (P := Tryz.prog) 72 5 .i64 Tryz.underlying72 hi071 Ao72 y159.length co72 (ji65) (of_decide_eq_true (by first | (with_reducible assumption) | assumption)) q71 hroom71; have hr71 := Kd.C_take (m := ((ji65) : Int).toNat) hC71 (by omega); have hy71 : y162.length = ((ji65) : Int).toNat := (by rw [Ny162.out, List.length_take]; omega); rw [← Ny162.out] at hr71; rw [← hy71] at hcut71; have HR165 := Aside0.mk hr71; have HC165 := Aside0.mk (show y162.length ≤ co72 from by omega); clear hr71 hC71 hroom71 hi071 hsz71; have KY71 := Aside0.mk hy71; clear hy71; have KL71 := Aside0.mk (show ((ji65) : Int).toNat ≤ y159.length from by omega); replace q71 := eq_true q71) | ((with_reducible refine gate_builtin (b := .append) (xs := #[.tmp 89, .tmp 101]) rfl ?_); (try (refine gate_guard (by rfl) ?_; dsimp only)); at_builtin; refine Kd.R_append_rows (Kd.int .u8) (w0 := w) w.heap.size rfl (.tmp 89) (.tmp 101) 72 5 (.int .u8 0) 1 rfl Tryz.underlying72 info5 rfl (by decide) (by omega) u6 x6_2 y162 _ _ _ (fun k_ => some k_ ≠ (.slice Ao72 y159.length co72 : Value).ownBlock) (fun _ => False) rfl rfl ?aO ?aR (fun _ _ h => h) (fun _ h => h.elim) ?aF ?aB ?aS ?aL ?_; (case aR => repeat (first | exact (by repeat (first | (with_reducible exact HR165.out) | (with_reducible refine Kd.C_alloc ?_ _) | (with_reducible refine Kd.C_drewN ?_ _) | (with_reducible refine Kd.C_drew ?_) | exact HR165.out)) | (with_reducible refine Kd.C_alloc ?_ _) | (with_reducible refine Kd.C_drewN ?_ _) | (with_reducible refine Kd.C_drew ?_))); (case aB => exact (by repeat (first | (with_reducible first | exact HB.out | apply below_alloc | apply pw_below_drewN | apply below_drew1) | exact HB.out))); (case aF => exact (fun k_ hk => Kd.fresh' (Kd.R_lt (by (with_reducible repeat (first | apply Kd.R_alloc | apply Kd.R_drewN | apply Kd.R_drew)); exact HO161.out)) k_ hk)); (case aO => exact (by (with_reducible repeat (first | apply Kd.R_alloc | apply Kd.R_drewN | apply Kd.R_drew)); exact Kd.R_mono HO_6.out (fun _ hk => hk.2))); (case aS => exact (below_size (by repeat (first | (with_reducible first | exact HB.out | apply below_alloc | apply pw_below_drewN | apply below_drew1) | exact HB.out)))); (case aL => have := LMc68.out; omega); intro v167 w73 ho hb hg hat; rw [← Ny166.out] at ho; have n0_ := Aside0.mk (Kd.R_after (ok := (fun _ => True)) (by (with_reducible repeat (first | apply Kd.R_alloc | apply Kd.R_drewN | apply Kd.R_drew)); exact HO161.out) hg hat); have n1_ := Aside0.mk (hb); have n2_ := Aside0.mk ((show Kd.C (Kd.int .u8) w73 Ao72 y162.length y162 from by rw [Ny162.out]; exact Kd.C_take (m := ((ji65) : Int).toNat) ((Kd.R_reads' (Kd.R_after (ok := (fun _ => True)) (by (with_reducible repeat (first | apply Kd.R_alloc | apply Kd.R_drewN | apply Kd.R_drew)); exact HO161.out) hg hat)).2.2) KL71.out)); have n3_ := Aside0.mk (ho); clear HO161; clear HB; clear HR165; clear HO_6; have HO161 := n0_; have HB := n1_; have HR165 := n2_; have HO168 := n3_; clear n0_ n1_ n2_ n3_; clear ho hb hg hat))
                  go_roundg k4
                  case measure => have := HJ2.out; have := HK2.out; have := HJ13.out; have := HK4.out; omega
                  case rel => exact ⟨(y166), (true), (wrap64 (x8_2 + 4)), (by first | rfl | (simp; done) | (simp [*]; done)), (by first | rfl | (simp; done) | (simp [*]; done)), H', ⟨by have := HJ2.out; have := HK2.out; have := HJ13.out; have := HK4.out; omega⟩, ⟨by (with_reducible repeat (first | apply Kd.R_alloc | apply Kd.R_drewN | apply Kd.R_drew)); exact Kd.R_mono HO168.out (fun _ hk => trivial)⟩, ⟨by repeat (first | (with_reducible first | exact HB.out | apply below_alloc | apply pw_below_drewN | apply below_drew1) | exact HB.out)⟩⟩
                 ·rw [if_neg c68] at H
                  exact absurd H (by simp)
                ·rw [if_neg c67] at H
                 exact absurd H (by simp)
               ·rw [if_neg c66] at H
                exact absurd H (by simp)
            ·replace c24 := Bool.eq_false_iff.mpr c24
             subst c24
             have H1 : ((some (([(x9_4 / 65536) % 256, (x9_4 / 256) % 256, (x9_4) % 256] : List Int) : List Int)).bind fun y169 => (if 0 ≤ (wrap64 (x10_13 - 1)) then (if (wrap64 (x10_13 - 1)) ≤ (y169.length : Int) then ((some (y169.take ((wrap64 (x10_13 - 1)) : Int).toNat : List Int)).bind fun y172 => (if x6_2.length + y172.length < 140737488355328 then (spec_Decode.l1 k4 a0 x5_2 (x6_2 ++ y172) false (wrap64 (x8_2 + 4))) else (none))) else (none)) else (none))) = some (r1, r2, r3) := by rw [if_neg (show ¬ (false = true) by decide)] at H; exact H
             clear H
             have H := H1
             clear H1
             obtain ⟨y169, hy169⟩ : ∃ y_ : List Int, y_ = (([(x9_4 / 65536) % 256, (x9_4 / 256) % 256, (x9_4) % 256] : List Int)) := ⟨_, rfl⟩
             replace H : (if 0 ≤ (wrap64 (x10_13 - 1)) then (if (wrap64 (x10_13 - 1)) ≤ (y169.length : Int) then ((some (y169.take ((wrap64 (x10_13 - 1)) : Int).toNat : List Int)).bind fun y172 => (if x6_2.length + y172.length < 140737488355328 then (spec_Decode.l1 k4 a0 x5_2 (x6_2 ++ y172) false (wrap64 (x8_2 + 4))) else (none))) else (none)) else (none)) = some (r1, r2, r3) := by first | (rw [hy169]; with_reducible exact H) | (have H2_ := (Option.bind_some _ _).symm.trans H; rw [hy169]; with_reducible exact H2_) | (have H2_ := (Option.bind_some _ _).symm.trans H; with_reducible exact H2_) | with_reducible exact H | (rw [hy169]; exact H) | exact H
             have Ny169 := Aside0.mk hy169
             clear hy169
             obtain ⟨ji74, hji74⟩ : ∃ j_ : Int, (wrap64 (x10_13 - 1)) = j_ := ⟨_, rfl⟩
             replace H : (if 0 ≤ (ji74) then (if (ji74) ≤ (y169.length : Int) then ((some (y169.take ((ji74) : Int).toNat : List Int)).bind fun y172 => (if x6_2.length + y172.length < 140737488355328 then (spec_Decode.l1 k4 a0 x5_2 (x6_2 ++ y172) false (wrap64 (x8_2 + 4))) else (none))) else (none)) else (none)) = some (r1, r2, r3) := by first | (rw [hji74] at H; exact H) | (simp only [hji74] at H ⊢; exact H)
             have hji74w : (IntKind.i64.wrap (x10_13 - 1)) = ji74 := (i64_w _).trans hji74
             by_cases c75 : 0 ≤ (ji74)
             ·rw [if_pos c75] at H
              have c75b0 := eq_true c75
              have c75b1 : decide (0 ≤ (ji74)) = true := decide_eq_true c75
              clear c75
              by_cases c76 : (ji74) ≤ (y169.length : Int)
              ·rw [if_pos c76] at H
               have c76b0 := eq_true c76
               have c76b1 : decide ((ji74) ≤ (y169.length : Int)) = true := decide_eq_true c76
               clear c76
               obtain ⟨y172, hy172⟩ : ∃ y_ : List Int, y_ = (y169.take ((ji74) : Int).toNat) := ⟨_, rfl⟩
               replace H : (if x6_2.length + y172.length < 140737488355328 then (spec_Decode.l1 k4 a0 x5_2 (x6_2 ++ y172) false (wrap64 (x8_2 + 4))) else (none)) = some (r1, r2, r3) := by first | (rw [hy172]; with_reducible exact H) | (have H2_ := (Option.bind_some _ _).symm.trans H; rw [hy172]; with_reducible exact H2_) | (have H2_ := (Option.bind_some _ _).symm.trans H; with_reducible exact H2_) | with_reducible exact H | (rw [hy172]; exact H) | exact H
               have Ny172 := Aside0.mk hy172
               clear hy172
               by_cases c77 : x6_2.length + y172.length < 140737488355328
               ·rw [if_pos c77] at H
                have LMc77 := Aside0.mk c77
                clear c77
                obtain ⟨y176, hy176⟩ : ∃ y_ : List Int, y_ = (x6_2 ++ y172) := ⟨_, rfl⟩
                replace H : (spec_Decode.l1 k4 a0 x5_2 y176 false (wrap64 (x8_2 + 4))) = some (r1, r2, r3) := by first | (rw [hy176]; with_reducible exact H) | (have H2_ := (Option.bind_some _ _).symm.trans H; rw [hy176]; with_reducible exact H2_) | (have H2_ := (Option.bind_some _ _).symm.trans H; with_reducible exact H2_) | with_reducible exact H | (rw [hy176]; exact H) | exact H
                have Ny176 := Aside0.mk hy176
                clear hy176
                have H' := Aside0.mk H
                clear H
                go_wp2_with (first | ((with_reducible refine gate_dst (N := 98) rfl ?_); (try (refine gate_guard (by rfl) ?_; dsimp only)); refine Kd.R_lit (Kd.int .u8) _ 5 ?hg (N := 98) ?hd (xs := ([(x9_4 / 65536) % 256, (x9_4 / 256) % 256, (x9_4) % 256] : List Int)) (inner := [.int .u8 ((x9_4 / 65536) % 256), .int .u8 ((x9_4 / 256) % 256), .int .u8 ((x9_4) % 256)]) (ok := fun _ => True) (okp := fun _ => True) ?hr ?hp (fun _ hk => hk) trivial (Below.refl _ _) (Nat.le_refl _) (by simp) ?_; (case hd => rfl); (case hg => rfl); (case hr => first | (go_simp; done) | (go_simp; rfl)); (case hp => exact (Reps.one (show Kd.M (Kd.int .u8) _ _ _ ((x9_4 / 65536) % 256) [.int .u8 ((x9_4 / 65536) % 256)] from rfl) (Reps.one (show Kd.M (Kd.int .u8) _ _ _ ((x9_4 / 256) % 256) [.int .u8 ((x9_4 / 256) % 256)] from rfl) (Reps.one (show Kd.M (Kd.int .u8) _ _ _ ((x9_4) % 256) [.int .u8 ((x9_4) % 256)] from rfl) (Reps.none _ _))))); intro v170 w78 ho79 hb hg_ hnew_; clear hg_ hnew_; (first | rw [← Ny169.out] at ho79 | (simp only [Int.reduceToNat] at ho79; rw [← Ny169.out] at ho79)); have n0_ := Aside0.mk (Kd.R_elder' (by (with_reducible repeat (first | apply Kd.R_alloc | apply Kd.R_drewN | apply Kd.R_drew)); exact HO_6.out) (Kd.R_base ho79) hb); have n1_ := Aside0.mk (Kd.R_lower (Kd.R_new' ho79 (Kd.R_lt (by (with_reducible repeat (first | apply Kd.R_alloc | apply Kd.R_drewN | apply Kd.R_drew)); exact HO_6.out))) (below_size (by repeat (first | (with_reducible first | exact HB.out | apply below_alloc | apply pw_below_drewN | apply below_drew1) | exact HB.out)))); have n2_ := Aside0.mk (below_step (by repeat (first | (with_reducible first | exact HB.out | apply below_alloc | apply pw_below_drewN | apply below_drew1) | exact HB.out)) hb); clear HO_6; clear HB; have HO_6 := n0_; have HO171 := n1_; have HB := n2_; clear n0_ n1_ n2_; clear hb ho79; obtain ⟨Ao81, co81, eo81⟩ := Kd.R_slice HO171.out; subst eo81; have q80 : ((ji74) : Int) ≤ ((y169.length : Int) : Int) := of_decide_eq_true (by first | (with_reducible assumption) | assumption); obtain ⟨i080, hi080, _, hsz80, _⟩ := info_parts info5; have hroom80 : y169.length ≤ co81 := (Kd.R_reads' HO171.out).2.1; have hC80 : Kd.C (Kd.int .u8) _ Ao81 y169.length y169 := (Kd.R_reads' HO171.out).2.2; have hcut80 := cut_to (P := Tryz.prog) 72 5 .i64 Tryz.underlying72 hi080 Ao81 y169.length co81 (ji74) (of_decide_eq_true (by first | (with_reducible assumption) | assumption)) q80 hroom80; have hr80 := Kd.C_take (m := ((ji74) : Int).toNat) hC80 (by omega); have hy80 : y172.length = ((ji74) : Int).toNat := (by rw [Ny172.out, List.length_take]; omega); rw [← Ny172.out] at hr80; rw [← hy80] at hcut80; have HR175 := Aside0.mk hr80; have HC175 := Aside0.mk (show y172.length ≤ co81 from by omega); clear hr80 hC80 hroom80 hi080 hsz80; have KY80 := Aside0.mk hy80; clear hy80; have KL80 := Aside0.mk (show ((ji74) : Int).toNat ≤ y169.length from by omega); replace q80 := eq_true q80) | ((with_reducible refine gate_builtin (b := .append) (xs := #[.tmp 89, .tmp 101]) rfl ?_); (try (refine gate_guard (by rfl) ?_; dsimp only)); at_builtin; refine Kd.R_append_rows (Kd.int .u8) (w0 := w) w.heap.size rfl (.tmp 89) (.tmp 101) 72 5 (.int .u8 0) 1 rfl Tryz.underlying72 info5 rfl (by decide) (by omega) u6 x6_2 y172 _ _ _ (fun k_ => some k_ ≠ (.slice Ao81 y169.length co81 : Value).ownBlock) (fun _ => False) rfl rfl ?aO ?aR (fun _ _ h => h) (fun _ h => h.elim) ?aF ?aB ?aS ?aL ?_; (case aR => repeat (first | exact (by repeat (first | (with_reducible exact HR175.out) | (with_reducible refine Kd.C_alloc ?_ _) | (with_reducible refine Kd.C_drewN ?_ _) | (with_reducible refine Kd.C_drew ?_) | exact HR175.out)) | (with_reducible refine Kd.C_alloc ?_ _) | (with_reducible refine Kd.C_drewN ?_ _) | (with_reducible refine Kd.C_drew ?_))); (case aB => exact (by repeat (first | (with_reducible first | exact HB.out | apply below_alloc | apply pw_below_drewN | apply below_drew1) | exact HB.out))); (case aF => exact (fun k_ hk => Kd.fresh' (Kd.R_lt (by (with_reducible repeat (first | apply Kd.R_alloc | apply Kd.R_drewN | apply Kd.R_drew)); exact HO171.out)) k_ hk)); (case aO => exact (by (with_reducible repeat (first | apply Kd.R_alloc | apply Kd.R_drewN | apply Kd.R_drew)); exact Kd.R_mono HO_6.out (fun _ hk => hk.2))); (case aS => exact (below_size (by repeat (first | (with_reducible first | exact HB.out | apply below_alloc | apply pw_below_drewN | apply below_drew1) | exact HB.out)))); (case aL => have := LMc77.out; omega); intro v177 w82 ho hb hg hat; rw [← Ny176.out] at ho; have n0_ := Aside0.mk (Kd.R_after (ok := (fun _ => True)) (by (with_reducible repeat (first | apply Kd.R_alloc | apply Kd.R_drewN | apply Kd.R_drew)); exact HO171.out) hg hat); have n1_ := Aside0.mk (hb); have n2_ := Aside0.mk ((show Kd.C (Kd.int .u8) w82 Ao81 y172.length y172 from by rw [Ny172.out]; exact Kd.C_take (m := ((ji74) : Int).toNat) ((Kd.R_reads' (Kd.R_after (ok := (fun _ => True)) (by (with_reducible repeat (first | apply Kd.R_alloc | apply Kd.R_drewN | apply Kd.R_drew)); exact HO171.out) hg hat)).2.2) KL80.out)); have n3_ := Aside0.mk (ho); clear HO171; clear HB; clear HR175; clear HO_6; have HO171 := n0_; have HB := n1_; have HR175 := n2_; have HO178 := n3_; clear n0_ n1_ n2_ n3_; clear ho hb hg hat))
                go_roundg k4
                case measure => have := HJ2.out; have := HK2.out; have := HJ13.out; have := HK4.out; omega
                case rel => exact ⟨(y176), (false), (wrap64 (x8_2 + 4)), (by first | rfl | (simp; done) | (simp [*]; done)), (by first | rfl | (simp; done) | (simp [*]; done)), H', ⟨by have := HJ2.out; have := HK2.out; have := HJ13.out; have := HK4.out; omega⟩, ⟨by (with_reducible repeat (first | apply Kd.R_alloc | apply Kd.R_drewN | apply Kd.R_drew)); exact Kd.R_mono HO178.out (fun _ hk => trivial)⟩, ⟨by repeat (first | (with_reducible first | exact HB.out | apply below_alloc | apply pw_below_drewN | apply below_drew1) | exact HB.out)⟩⟩
               ·rw [if_neg c77] at H
                exact absurd H (by simp)
              ·rw [if_neg c76] at H
               exact absurd H (by simp)
             ·rw [if_neg c75] at H
              exact absurd H (by simp)
      ·rw [if_neg c13] at H
       have c13b0 : decide (x8_2 < (a0.size : Int)) = false := decide_eq_false c13
       clear c13
       simp only [Option.some.injEq, Prod.mk.injEq] at H
       obtain ⟨rfl, rfl, rfl⟩ := H
       have hcv83 := own_string (P := Tryz.prog) Tryz.underlying72 Tryz.underlying5 Tryz.underlying9 (Kd.own_of_R HO_6.out)
       go_wp2
       go_ret3
       exact ⟨by first | rfl | (simp [errW_none, errW_some] <;> rfl) | (simp [*, errW_none, errW_some] <;> rfl), by repeat (first | (with_reducible first | exact HB.out | apply below_alloc | apply pw_below_drewN | apply below_drew1) | exact HB.out)⟩
 ·rw [if_neg c2] at H
  have c2b0 : (((a0.size : Int) % 4) == 0) = false := beq_eq_false_iff_ne.mpr c2
  have c2b1 : (((a0.size : Int) % 4) != 0) = true := bne_iff_ne.mpr c2
  simp only [Option.some.injEq, Prod.mk.injEq] at H
  obtain ⟨rfl, rfl, rfl⟩ := H
  go_enter Tryz.func34, Tryz.ntmps34
  go_wp2
  go_ret3
  exact ⟨by first | rfl | (simp [errW_none, errW_some] <;> rfl) | (simp [*, errW_none, errW_some] <;> rfl), by repeat (first | (with_reducible first | exact HB.out | apply below_alloc | apply pw_below_drewN | apply below_drew1) | exact HB.out)⟩
def spec_Hash.f (a0 : ByteArray) : Option (Int) := if 0 < (a0.size : Int) then (if 1 < (a0.size : Int) then (if 2 < (a0.size : Int) then (if 3 < (a0.size : Int) then (some (Go.bits .or .u32 (Go.bits .or .u32 (Go.bits .or .u32 ((((bt a0 0) % 4294967296) * 16777216) % 4294967296) ((((bt a0 1) % 4294967296) * 65536) % 4294967296)) ((((bt a0 2) % 4294967296) * 256) % 4294967296)) ((bt a0 3) % 4294967296))) else (none)) else (none)) else (none)) else (none)
set_option maxHeartbeats 8000000 in
set_option maxRecDepth 100000 in
theorem spec_Hash.calls (a0 : ByteArray) (r : Int) (w : World) (h : spec_Hash.f a0 = some r) :
  Calls Tryz.prog 35 #[.string a0] w fun e w' => e = .returned (.int .u32 r) ∧ Drawn0 w w' := by
 have H : (if 0 < (a0.size : Int) then (if 1 < (a0.size : Int) then (if 2 < (a0.size : Int) then (if 3 < (a0.size : Int) then (some (Go.bits .or .u32 (Go.bits .or .u32 (Go.bits .or .u32 ((((bt a0 0) % 4294967296) * 16777216) % 4294967296) ((((bt a0 1) % 4294967296) * 65536) % 4294967296)) ((((bt a0 2) % 4294967296) * 256) % 4294967296)) ((bt a0 3) % 4294967296))) else (none)) else (none)) else (none)) else (none)) = some r := h
 clear h
 by_cases c2 : 0 < (a0.size : Int)
 ·rw [if_pos c2] at H
  have c2b0 : decide (0 < (a0.size : Int)) = true := decide_eq_true c2
  have c2b1 : decide (0 < a0.size) = true := decide_eq_true (by omega)
  clear c2
  by_cases c4 : 1 < (a0.size : Int)
  ·rw [if_pos c4] at H
   have c4b0 : decide (1 < (a0.size : Int)) = true := decide_eq_true c4
   have c4b1 : decide (1 < a0.size) = true := decide_eq_true (by omega)
   clear c4
   by_cases c6 : 2 < (a0.size : Int)
   ·rw [if_pos c6] at H
    have c6b0 : decide (2 < (a0.size : Int)) = true := decide_eq_true c6
    have c6b1 : decide (2 < a0.size) = true := decide_eq_true (by omega)
    clear c6
    by_cases c8 : 3 < (a0.size : Int)
    ·rw [if_pos c8] at H
     have c8b0 : decide (3 < (a0.size : Int)) = true := decide_eq_true c8
     have c8b1 : decide (3 < a0.size) = true := decide_eq_true (by omega)
     clear c8
     obtain rfl := Option.some.inj H
     have p3 : 0 ≤ (0 : Int) := (by omega)
     have q3 : 0 < a0.size := (by have : (0 : Int) < (a0.size : Int) := of_decide_eq_true (by first | (with_reducible assumption) | assumption); omega)
     have hx3 : ∀ h : 0 < a0.size, ((a0[0]'h).toNat : Int) = bt a0 0 := bt_at a0 0
     clear p3
     have qi3 : (0 < (a0.size : Int)) = True := eq_true (of_decide_eq_true (by first | (with_reducible assumption) | assumption))
     replace q3 := eq_true q3
     have p5 : 0 ≤ (1 : Int) := (by omega)
     have q5 : 1 < a0.size := (by have : (1 : Int) < (a0.size : Int) := of_decide_eq_true (by first | (with_reducible assumption) | assumption); omega)
     have hx5 : ∀ h : 1 < a0.size, ((a0[1]'h).toNat : Int) = bt a0 1 := bt_at a0 1
     clear p5
     have qi5 : (1 < (a0.size : Int)) = True := eq_true (of_decide_eq_true (by first | (with_reducible assumption) | assumption))
     replace q5 := eq_true q5
     have p7 : 0 ≤ (2 : Int) := (by omega)
     have q7 : 2 < a0.size := (by have : (2 : Int) < (a0.size : Int) := of_decide_eq_true (by first | (with_reducible assumption) | assumption); omega)
     have hx7 : ∀ h : 2 < a0.size, ((a0[2]'h).toNat : Int) = bt a0 2 := bt_at a0 2
     clear p7
     have qi7 : (2 < (a0.size : Int)) = True := eq_true (of_decide_eq_true (by first | (with_reducible assumption) | assumption))
     replace q7 := eq_true q7
     have p9 : 0 ≤ (3 : Int) := (by omega)
     have q9 : 3 < a0.size := (by have : (3 : Int) < (a0.size : Int) := of_decide_eq_true (by first | (with_reducible assumption) | assumption); omega)
     have hx9 : ∀ h : 3 < a0.size, ((a0[3]'h).toNat : Int) = bt a0 3 := bt_at a0 3
     clear p9
     have qi9 : (3 < (a0.size : Int)) = True := eq_true (of_decide_eq_true (by first | (with_reducible assumption) | assumption))
     replace q9 := eq_true q9
     go_enter Tryz.func35, Tryz.ntmps35
     go_wp2
     repeat (go_quiet (fail); try go_wp2)
     go_ret
     exact ⟨by first | rfl | (simp; done) | (simp [*]; done), by repeat (first | exact Drawn0.refl _ | apply Drawn0.step)⟩
    ·rw [if_neg c8] at H
     exact absurd H (by simp)
   ·rw [if_neg c6] at H
    exact absurd H (by simp)
  ·rw [if_neg c4] at H
   exact absurd H (by simp)
 ·rw [if_neg c2] at H
  exact absurd H (by simp)
end Go.Proofs.YtkbegfihdpiacaaGreatDoor.PX
