/- Part 6 of the proof: what the theorem reaches of the texts PX4. -/
import Derived.Test.YtkbegfihdpiacaaDoorKS5

namespace Go.Proofs.YtkbegfihdpiacaaDoor.PX
open Go.RowKit Go.Proofs.YtkbegfihdpiacaaDoorW.PrintWords Go.Proofs.YtkbegfihdpiacaaDoorW.PrintLast Go.Proofs.YtkbegfihdpiacaaDoorW.PrintMore
attribute [local go_sem] max2_int min2_int max_two min_two max_three min_three max_four min_four   -- for this text's walks alone
set_option linter.unusedVariables false
set_option linter.unusedSimpArgs false
mutual
def spec_Decode.j1 : Nat → ByteArray → Int → Option (ByteArray × Bool × Bool)
  | 0, _, _ => none
  | k + 1, x0, x5 => spec_Decode.l1 k x0 x5 (([] : List Int)) true 0
def spec_Decode.l1 : Nat → ByteArray → Int → List Int → Bool → Int → Option (ByteArray × Bool × Bool)
  | 0, _, _, _, _, _ => none
  | k + 1, x0, x5, x6, x7, x8 => if x8 < (x0.size : Int) then (if (wrap64 (x8 + 4)) = (x0.size : Int) then (spec_Decode.j3 k x0 x5 x6 x7 x8 0 (wrap64 (4 - x5))) else (spec_Decode.j3 k x0 x5 x6 x7 x8 0 4)) else (some (strOfNums x6, true, x7))
def spec_Decode.j3 : Nat → ByteArray → Int → List Int → Bool → Int → Int → Int → Option (ByteArray × Bool × Bool)
  | 0, _, _, _, _, _, _, _ => none
  | k + 1, x0, x5, x6, x7, x8, x9, x10 => spec_Decode.l2 k x0 x5 x6 x7 x8 x9 x10 0
def spec_Decode.l2 : Nat → ByteArray → Int → List Int → Bool → Int → Int → Int → Int → Option (ByteArray × Bool × Bool)
  | 0, _, _, _, _, _, _, _, _ => none
  | k + 1, x0, x5, x6, x7, x8, x9, x10, x51 => if x51 < 4 then (if x51 < x10 then (if 0 ≤ (wrap64 (x8 + x51)) then (if (wrap64 (x8 + x51)) < (x0.size : Int) then ((spec_figure.f k (bt x0 (wrap64 (x8 + x51)))).bind fun t178 => (if t178 < 0 then (some ((⟨#[]⟩ : ByteArray), false, true)) else (spec_Decode.l2 k x0 x5 x6 x7 x8 (Go.bits .or .i64 (wrap64 (x9 * 64)) t178) x10 (wrap64 (x51 + 1))))) else (none)) else (none)) else (spec_Decode.l2 k x0 x5 x6 x7 x8 (Go.bits .or .i64 (wrap64 (x9 * 64)) 0) x10 (wrap64 (x51 + 1)))) else (if x7 = true then (if x10 = 3 then (if (Go.bits .and .i64 x9 255) = 0 then (if x10 = 2 then ((some (([(x9 / 65536) % 256, (x9 / 256) % 256, (x9) % 256] : List Int) : List Int)).bind fun y118 => (if 0 ≤ (wrap64 (x10 - 1)) then (if (wrap64 (x10 - 1)) ≤ (y118.length : Int) then ((some (y118.take ((wrap64 (x10 - 1)) : Int).toNat : List Int)).bind fun y121 => (if x6.length + y121.length < 140737488355328 then (spec_Decode.l1 k x0 x5 (x6 ++ y121) ((Go.bits .and .i64 x9 65535) == 0) (wrap64 (x8 + 4))) else (none))) else (none)) else (none))) else ((some (([(x9 / 65536) % 256, (x9 / 256) % 256, (x9) % 256] : List Int) : List Int)).bind fun y128 => (if 0 ≤ (wrap64 (x10 - 1)) then (if (wrap64 (x10 - 1)) ≤ (y128.length : Int) then ((some (y128.take ((wrap64 (x10 - 1)) : Int).toNat : List Int)).bind fun y131 => (if x6.length + y131.length < 140737488355328 then (spec_Decode.l1 k x0 x5 (x6 ++ y131) true (wrap64 (x8 + 4))) else (none))) else (none)) else (none)))) else ((some (([(x9 / 65536) % 256, (x9 / 256) % 256, (x9) % 256] : List Int) : List Int)).bind fun y138 => (if 0 ≤ (wrap64 (x10 - 1)) then (if (wrap64 (x10 - 1)) ≤ (y138.length : Int) then ((some (y138.take ((wrap64 (x10 - 1)) : Int).toNat : List Int)).bind fun y141 => (if x6.length + y141.length < 140737488355328 then (spec_Decode.l1 k x0 x5 (x6 ++ y141) false (wrap64 (x8 + 4))) else (none))) else (none)) else (none)))) else (if x10 = 2 then ((some (([(x9 / 65536) % 256, (x9 / 256) % 256, (x9) % 256] : List Int) : List Int)).bind fun y148 => (if 0 ≤ (wrap64 (x10 - 1)) then (if (wrap64 (x10 - 1)) ≤ (y148.length : Int) then ((some (y148.take ((wrap64 (x10 - 1)) : Int).toNat : List Int)).bind fun y151 => (if x6.length + y151.length < 140737488355328 then (spec_Decode.l1 k x0 x5 (x6 ++ y151) ((Go.bits .and .i64 x9 65535) == 0) (wrap64 (x8 + 4))) else (none))) else (none)) else (none))) else ((some (([(x9 / 65536) % 256, (x9 / 256) % 256, (x9) % 256] : List Int) : List Int)).bind fun y158 => (if 0 ≤ (wrap64 (x10 - 1)) then (if (wrap64 (x10 - 1)) ≤ (y158.length : Int) then ((some (y158.take ((wrap64 (x10 - 1)) : Int).toNat : List Int)).bind fun y161 => (if x6.length + y161.length < 140737488355328 then (spec_Decode.l1 k x0 x5 (x6 ++ y161) true (wrap64 (x8 + 4))) else (none))) else (none)) else (none))))) else ((some (([(x9 / 65536) % 256, (x9 / 256) % 256, (x9) % 256] : List Int) : List Int)).bind fun y168 => (if 0 ≤ (wrap64 (x10 - 1)) then (if (wrap64 (x10 - 1)) ≤ (y168.length : Int) then ((some (y168.take ((wrap64 (x10 - 1)) : Int).toNat : List Int)).bind fun y171 => (if x6.length + y171.length < 140737488355328 then (spec_Decode.l1 k x0 x5 (x6 ++ y171) false (wrap64 (x8 + 4))) else (none))) else (none)) else (none))))
def spec_Decode.l0 : Nat → ByteArray → Int → Option (ByteArray × Bool × Bool)
  | 0, _, _ => none
  | k + 1, x0, x5 => if x5 < 2 then (if x5 < (x0.size : Int) then (if 0 ≤ (wrap64 ((wrap64 ((x0.size : Int) - 1)) - x5)) then (if (wrap64 ((wrap64 ((x0.size : Int) - 1)) - x5)) < (x0.size : Int) then (if (bt x0 (wrap64 ((wrap64 ((x0.size : Int) - 1)) - x5))) = 61 then (spec_Decode.l0 k x0 (wrap64 (x5 + 1))) else (spec_Decode.j1 k x0 x5)) else (none)) else (none)) else (spec_Decode.j1 k x0 x5)) else (spec_Decode.j1 k x0 x5)
end
def spec_Decode.f (k : Nat) (a0 : ByteArray) : Option (ByteArray × Bool × Bool) := if ((a0.size : Int) % 4) = 0 then (spec_Decode.l0 k a0 0) else (some ((⟨#[]⟩ : ByteArray), false, true))
theorem spec_Decode.mono_l : ∀ k, (∀ y0 y1, LeO (spec_Decode.j1 k y0 y1) (spec_Decode.j1 (k + 1) y0 y1)) ∧ (∀ y0 y1 y2 y3 y4, LeO (spec_Decode.l1 k y0 y1 y2 y3 y4) (spec_Decode.l1 (k + 1) y0 y1 y2 y3 y4)) ∧ (∀ y0 y1 y2 y3 y4 y5 y6, LeO (spec_Decode.j3 k y0 y1 y2 y3 y4 y5 y6) (spec_Decode.j3 (k + 1) y0 y1 y2 y3 y4 y5 y6)) ∧ (∀ y0 y1 y2 y3 y4 y5 y6 y7, LeO (spec_Decode.l2 k y0 y1 y2 y3 y4 y5 y6 y7) (spec_Decode.l2 (k + 1) y0 y1 y2 y3 y4 y5 y6 y7)) ∧ (∀ y0 y1, LeO (spec_Decode.l0 k y0 y1) (spec_Decode.l0 (k + 1) y0 y1))
  | 0 => ⟨fun _ _ r h => by simp [spec_Decode.j1] at h, fun _ _ _ _ _ r h => by simp [spec_Decode.l1] at h, fun _ _ _ _ _ _ _ r h => by simp [spec_Decode.j3] at h, fun _ _ _ _ _ _ _ _ r h => by simp [spec_Decode.l2] at h, fun _ _ r h => by simp [spec_Decode.l0] at h⟩
  | k + 1 => by
    obtain ⟨ih0, ih1, ih2, ih3, ih4⟩ := spec_Decode.mono_l k
    refine ⟨?_, ?_, ?_, ?_, ?_⟩
    · intro y0 y1
      unfold spec_Decode.j1
      repeat' first
      | (with_reducible exact ih0 _ _)
      | (with_reducible exact ih1 _ _ _ _ _)
      | (with_reducible exact ih2 _ _ _ _ _ _ _)
      | (with_reducible exact ih3 _ _ _ _ _ _ _ _)
      | (with_reducible exact ih4 _ _)
      | (with_reducible exact spec_figure.mono _ _)
      | (with_reducible exact LeO.refl _)
      | (with_reducible exact LeO.none _)
      | (with_reducible refine LeO.ite ?_ ?_)
      | (with_reducible refine LeO.bind ?_ (fun _ => ?_))
      | exact ih0 _ _
      | exact ih1 _ _ _ _ _
      | exact ih2 _ _ _ _ _ _ _
      | exact ih3 _ _ _ _ _ _ _ _
      | exact ih4 _ _
      | exact spec_figure.mono _ _
      | exact LeO.none _
      | refine LeO.ite ?_ ?_
      | refine LeO.bind ?_ (fun _ => ?_)
    · intro y0 y1 y2 y3 y4
      unfold spec_Decode.l1
      repeat' first
      | (with_reducible exact ih0 _ _)
      | (with_reducible exact ih1 _ _ _ _ _)
      | (with_reducible exact ih2 _ _ _ _ _ _ _)
      | (with_reducible exact ih3 _ _ _ _ _ _ _ _)
      | (with_reducible exact ih4 _ _)
      | (with_reducible exact spec_figure.mono _ _)
      | (with_reducible exact LeO.refl _)
      | (with_reducible exact LeO.none _)
      | (with_reducible refine LeO.ite ?_ ?_)
      | (with_reducible refine LeO.bind ?_ (fun _ => ?_))
      | exact ih0 _ _
      | exact ih1 _ _ _ _ _
      | exact ih2 _ _ _ _ _ _ _
      | exact ih3 _ _ _ _ _ _ _ _
      | exact ih4 _ _
      | exact spec_figure.mono _ _
      | exact LeO.none _
      | refine LeO.ite ?_ ?_
      | refine LeO.bind ?_ (fun _ => ?_)
    · intro y0 y1 y2 y3 y4 y5 y6
      unfold spec_Decode.j3
      repeat' first
      | (with_reducible exact ih0 _ _)
      | (with_reducible exact ih1 _ _ _ _ _)
      | (with_reducible exact ih2 _ _ _ _ _ _ _)
      | (with_reducible exact ih3 _ _ _ _ _ _ _ _)
      | (with_reducible exact ih4 _ _)
      | (with_reducible exact spec_figure.mono _ _)
      | (with_reducible exact LeO.refl _)
      | (with_reducible exact LeO.none _)
      | (with_reducible refine LeO.ite ?_ ?_)
      | (with_reducible refine LeO.bind ?_ (fun _ => ?_))
      | exact ih0 _ _
      | exact ih1 _ _ _ _ _
      | exact ih2 _ _ _ _ _ _ _
      | exact ih3 _ _ _ _ _ _ _ _
      | exact ih4 _ _
      | exact spec_figure.mono _ _
      | exact LeO.none _
      | refine LeO.ite ?_ ?_
      | refine LeO.bind ?_ (fun _ => ?_)
    · intro y0 y1 y2 y3 y4 y5 y6 y7
      unfold spec_Decode.l2
      repeat' first
      | (with_reducible exact ih0 _ _)
      | (with_reducible exact ih1 _ _ _ _ _)
      | (with_reducible exact ih2 _ _ _ _ _ _ _)
      | (with_reducible exact ih3 _ _ _ _ _ _ _ _)
      | (with_reducible exact ih4 _ _)
      | (with_reducible exact spec_figure.mono _ _)
      | (with_reducible exact LeO.refl _)
      | (with_reducible exact LeO.none _)
      | (with_reducible refine LeO.ite ?_ ?_)
      | (with_reducible refine LeO.bind ?_ (fun _ => ?_))
      | exact ih0 _ _
      | exact ih1 _ _ _ _ _
      | exact ih2 _ _ _ _ _ _ _
      | exact ih3 _ _ _ _ _ _ _ _
      | exact ih4 _ _
      | exact spec_figure.mono _ _
      | exact LeO.none _
      | refine LeO.ite ?_ ?_
      | refine LeO.bind ?_ (fun _ => ?_)
    · intro y0 y1
      unfold spec_Decode.l0
      repeat' first
      | (with_reducible exact ih0 _ _)
      | (with_reducible exact ih1 _ _ _ _ _)
      | (with_reducible exact ih2 _ _ _ _ _ _ _)
      | (with_reducible exact ih3 _ _ _ _ _ _ _ _)
      | (with_reducible exact ih4 _ _)
      | (with_reducible exact spec_figure.mono _ _)
      | (with_reducible exact LeO.refl _)
      | (with_reducible exact LeO.none _)
      | (with_reducible refine LeO.ite ?_ ?_)
      | (with_reducible refine LeO.bind ?_ (fun _ => ?_))
      | exact ih0 _ _
      | exact ih1 _ _ _ _ _
      | exact ih2 _ _ _ _ _ _ _
      | exact ih3 _ _ _ _ _ _ _ _
      | exact ih4 _ _
      | exact spec_figure.mono _ _
      | exact LeO.none _
      | refine LeO.ite ?_ ?_
      | refine LeO.bind ?_ (fun _ => ?_)
theorem spec_Decode.mono : ∀ a0 k, LeO (spec_Decode.f k a0) (spec_Decode.f (k + 1) a0) := by
  intro a0 k
  obtain ⟨ih0, ih1, ih2, ih3, ih4⟩ := spec_Decode.mono_l k
  unfold spec_Decode.f
  repeat' first
      | (with_reducible exact ih0 _ _)
      | (with_reducible exact ih1 _ _ _ _ _)
      | (with_reducible exact ih2 _ _ _ _ _ _ _)
      | (with_reducible exact ih3 _ _ _ _ _ _ _ _)
      | (with_reducible exact ih4 _ _)
      | (with_reducible exact spec_figure.mono _ _)
      | (with_reducible exact LeO.refl _)
      | (with_reducible exact LeO.none _)
      | (with_reducible refine LeO.ite ?_ ?_)
      | (with_reducible refine LeO.bind ?_ (fun _ => ?_))
      | exact ih0 _ _
      | exact ih1 _ _ _ _ _
      | exact ih2 _ _ _ _ _ _ _
      | exact ih3 _ _ _ _ _ _ _ _
      | exact ih4 _ _
      | exact spec_figure.mono _ _
      | exact LeO.none _
      | refine LeO.ite ?_ ?_
      | refine LeO.bind ?_ (fun _ => ?_)
set_option maxHeartbeats 8000000 in
set_option maxRecDepth 100000 in
theorem spec_Decode.calls (k : Nat) (a0 : ByteArray) (r1 : ByteArray) (r2 : Bool) (r3 : Bool) (w : World) (h : spec_Decode.f k a0 = some (r1, r2, r3)) :
    Calls Tryd.prog 33 #[.string a0] w fun e w' => e = .returned (.tuple #[.string r1, .bool r2, .bool r3]) ∧ Below w.heap.size w w' := by
  have HB := Aside0.mk (Below.refl w.heap.size w)
  have H : (if ((a0.size : Int) % 4) = 0 then (spec_Decode.l0 k a0 0) else (some ((⟨#[]⟩ : ByteArray), false, true))) = some (r1, r2, r3) := h
  clear h
  by_cases c2 : ((a0.size : Int) % 4) = 0
  · rw [if_pos c2] at H
    have c2b0 : (((a0.size : Int) % 4) == 0) = true := beq_iff_eq.mpr c2
    have c2b1 : (((a0.size : Int) % 4) != 0) = false := bne_eq_false_iff_eq.mpr c2
    clear c2
    have HC3 := Aside0.mk H
    clear H
    go_enter Tryd.func33, Tryd.ntmps33
    go_upto_block 0 with (fail)
    go_cut [5] (fun v5 wc => ∃ (kq : Nat) (x5_2 : Int), v5 = .int .i64 x5_2 ∧ Aside0 (spec_Decode.j1 kq a0 x5_2 = some (r1, r2, r3)) ∧ Aside0 (kq ≤ k) ∧ Aside0 (Below w.heap.size w wc))
    case first =>
      have H := HC3.out
      clear HC3
      have H' := Aside0.mk H
      clear H
      go_wp2
      go_loopg [5] k (fun kq v5 w' => ∃ (x5_1 : Int), v5 = .int .i64 x5_1 ∧ Aside0 (spec_Decode.l0 kq a0 x5_1 = some (r1, r2, r3)) ∧ Aside0 (kq ≤ k) ∧ Aside0 (Below w.heap.size w w'))
      case atStart => exact ⟨(0), (by first | rfl | (simp; done) | (simp [*]; done)), H', ⟨Nat.le_refl _⟩, ⟨by repeat (first | (with_reducible first | exact HB.out | apply below_alloc | apply pw_below_drewN | apply below_drew1) | exact HB.out)⟩⟩
      case round =>
        clear H'
        try clear c2
        try clear c2b0
        try clear c2b1
        try clear p2
        try clear c3
        obtain ⟨x5_1, rfl, HA, HK1, HB⟩ := hrel
        cases gk with
        | zero => exact absurd HA.out (by simp [spec_Decode.l0])
        | succ k1 =>
          have H := HA.out
          clear HA
          simp only [spec_Decode.l0] at H
          by_cases c4 : x5_1 < 2
          · rw [if_pos c4] at H
            have c4b0 : decide (x5_1 < 2) = true := decide_eq_true c4
            clear c4
            (first | rw [c4b0] | (simp only [i64_w, i32_w]; rw [c4b0]) | skip)
            by_cases c5 : x5_1 < (a0.size : Int)
            · rw [if_pos c5] at H
              have c5b0 : decide (x5_1 < (a0.size : Int)) = true := decide_eq_true c5
              clear c5
              obtain ⟨ji6, hji6⟩ : ∃ j_ : Int, (wrap64 ((wrap64 ((a0.size : Int) - 1)) - x5_1)) = j_ := ⟨_, rfl⟩
              replace H : (if 0 ≤ (ji6) then (if (ji6) < (a0.size : Int) then (if (bt a0 (ji6)) = 61 then (spec_Decode.l0 k1 a0 (wrap64 (x5_1 + 1))) else (spec_Decode.j1 k1 a0 x5_1)) else (none)) else (none)) = some (r1, r2, r3) := by first | (rw [hji6] at H; exact H) | (simp only [hji6] at H ⊢; exact H)
              have hji6w : (IntKind.i64.wrap ((wrap64 ((a0.size : Int) - 1)) - x5_1)) = ji6 := (i64_w _).trans hji6
              by_cases c7 : 0 ≤ (ji6)
              · rw [if_pos c7] at H
                have c7b0 : decide (0 ≤ (ji6)) = true := decide_eq_true c7
                clear c7
                by_cases c8 : (ji6) < (a0.size : Int)
                · rw [if_pos c8] at H
                  have c8b0 : decide ((ji6) < (a0.size : Int)) = true := decide_eq_true c8
                  clear c8
                  by_cases c10 : (bt a0 (ji6)) = 61
                  · rw [if_pos c10] at H
                    have c10b0 : ((bt a0 (ji6)) == 61) = true := beq_iff_eq.mpr c10
                    have c10b1 : ((bt a0 (ji6)) != 61) = false := bne_eq_false_iff_eq.mpr c10
                    clear c10
                    have H' := Aside0.mk H
                    clear H
                    have p9 : 0 ≤ ((ji6) : Int) := of_decide_eq_true (by first | (with_reducible assumption) | assumption)
                    have q9 : (ji6) < (a0.size : Int) := of_decide_eq_true (by first | (with_reducible assumption) | assumption)
                    have hx9 := bt_at a0 (ji6)
                    replace p9 := eq_true p9
                    replace q9 := eq_true q9
                    go_wp2
                    go_roundg k1
                    case measure => have := HK1.out; omega
                    case rel => exact ⟨(wrap64 (x5_1 + 1)), (by first | rfl | (simp; done) | (simp [*]; done)), H', ⟨by have := HK1.out; omega⟩, ⟨by repeat (first | (with_reducible first | exact HB.out | apply below_alloc | apply pw_below_drewN | apply below_drew1) | exact HB.out)⟩⟩
                  · rw [if_neg c10] at H
                    have c10b0 : ((bt a0 (ji6)) == 61) = false := beq_eq_false_iff_ne.mpr c10
                    have c10b1 : ((bt a0 (ji6)) != 61) = true := bne_iff_ne.mpr c10
                    have H' := Aside0.mk H
                    clear H
                    have p9 : 0 ≤ ((ji6) : Int) := of_decide_eq_true (by first | (with_reducible assumption) | assumption)
                    have q9 : (ji6) < (a0.size : Int) := of_decide_eq_true (by first | (with_reducible assumption) | assumption)
                    have hx9 := bt_at a0 (ji6)
                    replace p9 := eq_true p9
                    replace q9 := eq_true q9
                    go_wp2
                    go_meet
                    case rel => exact ⟨_, (x5_1), (by first | rfl | (simp; done) | (simp [*]; done)), H', ⟨by have := HK1.out; first | omega | exact Nat.le_refl _⟩, ⟨by repeat (first | (with_reducible first | exact HB.out | apply below_alloc | apply pw_below_drewN | apply below_drew1) | exact HB.out)⟩⟩
                · rw [if_neg c8] at H
                  exact absurd H (by simp)
              · rw [if_neg c7] at H
                exact absurd H (by simp)
            · rw [if_neg c5] at H
              have c5b0 : decide (x5_1 < (a0.size : Int)) = false := decide_eq_false c5
              clear c5
              have H' := Aside0.mk H
              clear H
              go_wp2
              go_meet
              case rel => exact ⟨_, (x5_1), (by first | rfl | (simp; done) | (simp [*]; done)), H', ⟨by have := HK1.out; first | omega | exact Nat.le_refl _⟩, ⟨by repeat (first | (with_reducible first | exact HB.out | apply below_alloc | apply pw_below_drewN | apply below_drew1) | exact HB.out)⟩⟩
          · rw [if_neg c4] at H
            have c4b0 : decide (x5_1 < 2) = false := decide_eq_false c4
            clear c4
            (first | rw [c4b0] | (simp only [i64_w, i32_w]; rw [c4b0]) | skip)
            have H' := Aside0.mk H
            clear H
            go_wp2
            go_meet
            case rel => exact ⟨_, (x5_1), (by first | rfl | (simp; done) | (simp [*]; done)), H', ⟨by have := HK1.out; first | omega | exact Nat.le_refl _⟩, ⟨by repeat (first | (with_reducible first | exact HB.out | apply below_alloc | apply pw_below_drewN | apply below_drew1) | exact HB.out)⟩⟩
    case rest =>
      clear HC3
      try clear c1
      try clear c2
      try clear c2b0
      try clear c2b1
      try clear p2
      try clear c3
      try clear c4
      try clear c4b0
      try clear c5
      try clear c5b0
      try clear p6
      try clear c7
      try clear c7b0
      try clear c8
      try clear c8b0
      try clear p9
      try clear q9
      try clear hx9
      try clear c10
      try clear c10b0
      try clear c10b1
      try clear p2
      try clear p9
      try clear q9
      obtain ⟨kq, x5_2, rfl, HA, HJ2, HB⟩ := hcut
      cases kq with
      | zero => exact absurd HA.out (by simp [spec_Decode.j1])
      | succ kj2 =>
        have H := HA.out
        clear HA
        simp only [spec_Decode.j1] at H
        obtain ⟨y115, hy115⟩ : ∃ y_ : List Int, y_ = (([] : List Int)) := ⟨_, rfl⟩
        replace H : (spec_Decode.l1 kj2 a0 x5_2 y115 true 0) = some (r1, r2, r3) := by first | (rw [hy115]; with_reducible exact H) | (have H2_ := (Option.bind_some _ _).symm.trans H; rw [hy115]; with_reducible exact H2_) | (have H2_ := (Option.bind_some _ _).symm.trans H; with_reducible exact H2_) | with_reducible exact H | (rw [hy115]; exact H) | exact H
        have Ny115 := Aside0.mk hy115
        clear hy115
        have H' := Aside0.mk H
        clear H
        go_wp2_with (first | ((with_reducible refine gate_dst (N := 37) rfl ?_); (try (refine gate_guard (by rfl) ?_; dsimp only)); refine Kd.R_lit (Kd.int .u8) _ 5 ?hg (N := 37) ?hd (xs := ([] : List Int)) (inner := []) (ok := fun _ => True) (okp := fun _ => True) ?hr ?hp (fun _ hk => hk) trivial (Below.refl _ _) (Nat.le_refl _) (by simp) ?_; (case hd => rfl); (case hg => rfl); (case hr => first | (go_simp; done) | (go_simp; rfl)); (case hp => exact (Reps.none _ _)); intro v116 w11 ho12 hb hg_ hnew_; clear hg_ hnew_; (first | rw [← Ny115.out] at ho12 | (simp only [Int.reduceToNat] at ho12; rw [← Ny115.out] at ho12)); have n0_ := Aside0.mk (Kd.R_lower ho12 (below_size (by repeat (first | (with_reducible first | exact HB.out | apply below_alloc | apply pw_below_drewN | apply below_drew1) | exact HB.out)))); have n1_ := Aside0.mk (below_step (by repeat (first | (with_reducible first | exact HB.out | apply below_alloc | apply pw_below_drewN | apply below_drew1) | exact HB.out)) hb); clear HB; have HO117 := n0_; have HB := n1_; clear n0_ n1_; clear hb ho12))
        go_loopg [6, 7, 8] kj2 (fun kq v6 v7 v8 w' => ∃ (x6_2 : List Int) (x7_2 : Bool) (x8_2 : Int), v7 = .bool x7_2 ∧ v8 = .int .i64 x8_2 ∧ Aside0 (spec_Decode.l1 kq a0 x5_2 x6_2 x7_2 x8_2 = some (r1, r2, r3)) ∧ Aside0 (kq ≤ kj2) ∧ Aside0 (Kd.R (Kd.int .u8) 5 w' w.heap.size (fun _ => True) v6 x6_2) ∧ Aside0 (Below w.heap.size w w'))
        case atStart => exact ⟨(y115), (true), (0), (by first | rfl | (simp; done) | (simp [*]; done)), (by first | rfl | (simp; done) | (simp [*]; done)), H', ⟨Nat.le_refl _⟩, ⟨by (with_reducible repeat (first | apply Kd.R_alloc | apply Kd.R_drewN | apply Kd.R_drew)); exact HO117.out⟩, ⟨by repeat (first | (with_reducible first | exact HB.out | apply below_alloc | apply pw_below_drewN | apply below_drew1) | exact HB.out)⟩⟩
        case round =>
          clear H'
          try clear c1
          try clear c2
          try clear c2b0
          try clear c2b1
          try clear p2
          try clear c3
          try clear c4
          try clear c4b0
          try clear c5
          try clear c5b0
          try clear p6
          try clear c7
          try clear c7b0
          try clear c8
          try clear c8b0
          try clear p9
          try clear q9
          try clear hx9
          try clear c10
          try clear c10b0
          try clear c10b1
          try clear p2
          try clear p6
          try clear p9
          try clear q9
          obtain ⟨x6_2, x7_2, x8_2, rfl, rfl, HA, HK2, HO_6, HB⟩ := hrel
          cases gk with
          | zero => exact absurd HA.out (by simp [spec_Decode.l1])
          | succ k2 =>
            have H := HA.out
            clear HA
            simp only [spec_Decode.l1] at H
            by_cases c13 : x8_2 < (a0.size : Int)
            · rw [if_pos c13] at H
              have c13b0 : decide (x8_2 < (a0.size : Int)) = true := decide_eq_true c13
              clear c13
              have HC14 := Aside0.mk H
              clear H
              go_upto_if 48 with (fail)
              go_cut [10] (fun v10 wc => ∃ (kq : Nat) (x10_13 : Int), v10 = .int .i64 x10_13 ∧ Aside0 (spec_Decode.j3 kq a0 x5_2 x6_2 x7_2 x8_2 0 x10_13 = some (r1, r2, r3)) ∧ Aside0 (kq ≤ k2) ∧ Aside0 (Kd.R (Kd.int .u8) 5 wc w.heap.size (fun _ => True) u6 x6_2) ∧ Aside0 (Below w.heap.size w wc))
              case first =>
                have H := HC14.out
                clear HC14
                by_cases c15 : (wrap64 (x8_2 + 4)) = (a0.size : Int)
                · rw [if_pos c15] at H
                  have c15b0 : ((wrap64 (x8_2 + 4)) == (a0.size : Int)) = true := beq_iff_eq.mpr c15
                  have c15b1 : ((wrap64 (x8_2 + 4)) != (a0.size : Int)) = false := bne_eq_false_iff_eq.mpr c15
                  clear c15
                  (first | rw [c15b0] | (simp only [i64_w, i32_w]; rw [c15b0]) | skip)
                  have H' := Aside0.mk H
                  clear H
                  go_wp2
                  go_meet
                  case rel => exact ⟨_, (wrap64 (4 - x5_2)), (by first | rfl | (simp; done) | (simp [*]; done)), H', ⟨by have := HJ2.out; have := HK2.out; first | omega | exact Nat.le_refl _⟩, ⟨by (with_reducible repeat (first | apply Kd.R_alloc | apply Kd.R_drewN | apply Kd.R_drew)); exact HO_6.out⟩, ⟨by repeat (first | (with_reducible first | exact HB.out | apply below_alloc | apply pw_below_drewN | apply below_drew1) | exact HB.out)⟩⟩
                · rw [if_neg c15] at H
                  have c15b0 : ((wrap64 (x8_2 + 4)) == (a0.size : Int)) = false := beq_eq_false_iff_ne.mpr c15
                  have c15b1 : ((wrap64 (x8_2 + 4)) != (a0.size : Int)) = true := bne_iff_ne.mpr c15
                  (first | rw [c15b0] | (simp only [i64_w, i32_w]; rw [c15b0]) | skip)
                  have H' := Aside0.mk H
                  clear H
                  go_wp2
                  go_meet
                  case rel => exact ⟨_, (4), (by first | rfl | (simp; done) | (simp [*]; done)), H', ⟨by have := HJ2.out; have := HK2.out; first | omega | exact Nat.le_refl _⟩, ⟨by (with_reducible repeat (first | apply Kd.R_alloc | apply Kd.R_drewN | apply Kd.R_drew)); exact HO_6.out⟩, ⟨by repeat (first | (with_reducible first | exact HB.out | apply below_alloc | apply pw_below_drewN | apply below_drew1) | exact HB.out)⟩⟩
              case rest =>
                clear HC14
                try clear c1
                try clear c2
                try clear c2b0
                try clear c2b1
                try clear p2
                try clear c3
                try clear c4
                try clear c4b0
                try clear c5
                try clear c5b0
                try clear p6
                try clear c7
                try clear c7b0
                try clear c8
                try clear c8b0
                try clear p9
                try clear q9
                try clear hx9
                try clear c10
                try clear c10b0
                try clear c10b1
                try clear c13
                try clear c13b0
                try clear c15
                try clear c15b0
                try clear c15b1
                try clear p2
                try clear p6
                try clear p9
                try clear q9
                obtain ⟨kq, x10_13, rfl, HA, HJ13, HO_6, HB⟩ := hcut
                cases kq with
                | zero => exact absurd HA.out (by simp [spec_Decode.j3])
                | succ kj13 =>
                  have H := HA.out
                  clear HA
                  simp only [spec_Decode.j3] at H
                  have H' := Aside0.mk H
                  clear H
                  go_wp2
                  go_loopg [9, 51] kj13 (fun kq v9 v51 w' => ∃ (x9_4 : Int) (x51_4 : Int), v9 = .int .i64 x9_4 ∧ v51 = .int .i64 x51_4 ∧ Aside0 (spec_Decode.l2 kq a0 x5_2 x6_2 x7_2 x8_2 x9_4 x10_13 x51_4 = some (r1, r2, r3)) ∧ Aside0 (kq ≤ kj13) ∧ Aside0 (Kd.R (Kd.int .u8) 5 w' w.heap.size (fun _ => True) u6 x6_2) ∧ Aside0 (Below w.heap.size w w'))
                  case atStart => exact ⟨(0), (0), (by first | rfl | (simp; done) | (simp [*]; done)), (by first | rfl | (simp; done) | (simp [*]; done)), H', ⟨Nat.le_refl _⟩, ⟨by (with_reducible repeat (first | apply Kd.R_alloc | apply Kd.R_drewN | apply Kd.R_drew)); exact HO_6.out⟩, ⟨by repeat (first | (with_reducible first | exact HB.out | apply below_alloc | apply pw_below_drewN | apply below_drew1) | exact HB.out)⟩⟩
                  case round =>
                    clear H'
                    try clear c1
                    try clear c2
                    try clear c2b0
                    try clear c2b1
                    try clear p2
                    try clear c3
                    try clear c4
                    try clear c4b0
                    try clear c5
                    try clear c5b0
                    try clear p6
                    try clear c7
                    try clear c7b0
                    try clear c8
                    try clear c8b0
                    try clear p9
                    try clear q9
                    try clear hx9
                    try clear c10
                    try clear c10b0
                    try clear c10b1
                    try clear c13
                    try clear c13b0
                    try clear c15
                    try clear c15b0
                    try clear c15b1
                    try clear p2
                    try clear p6
                    try clear p9
                    try clear q9
                    obtain ⟨x9_4, x51_4, rfl, rfl, HA, HK4, HO_6, HB⟩ := hrel
                    cases gk with
                    | zero => exact absurd HA.out (by simp [spec_Decode.l2])
                    | succ k4 =>
                      have H := HA.out
                      clear HA
                      simp only [spec_Decode.l2] at H
                      by_cases c16 : x51_4 < 4
                      · rw [if_pos c16] at H
                        have c16b0 : decide (x51_4 < 4) = true := decide_eq_true c16
                        clear c16
                        by_cases c17 : x51_4 < x10_13
                        · rw [if_pos c17] at H
                          have c17b0 : decide (x51_4 < x10_13) = true := decide_eq_true c17
                          clear c17
                          obtain ⟨ji18, hji18⟩ : ∃ j_ : Int, (wrap64 (x8_2 + x51_4)) = j_ := ⟨_, rfl⟩
                          replace H : (if 0 ≤ (ji18) then (if (ji18) < (a0.size : Int) then ((spec_figure.f k4 (bt a0 (ji18))).bind fun t178 => (if t178 < 0 then (some ((⟨#[]⟩ : ByteArray), false, true)) else (spec_Decode.l2 k4 a0 x5_2 x6_2 x7_2 x8_2 (Go.bits .or .i64 (wrap64 (x9_4 * 64)) t178) x10_13 (wrap64 (x51_4 + 1))))) else (none)) else (none)) = some (r1, r2, r3) := by first | (rw [hji18] at H; exact H) | (simp only [hji18] at H ⊢; exact H)
                          have hji18w : (IntKind.i64.wrap (x8_2 + x51_4)) = ji18 := (i64_w _).trans hji18
                          by_cases c19 : 0 ≤ (ji18)
                          · rw [if_pos c19] at H
                            have c19b0 : decide (0 ≤ (ji18)) = true := decide_eq_true c19
                            clear c19
                            by_cases c20 : (ji18) < (a0.size : Int)
                            · rw [if_pos c20] at H
                              have c20b0 : decide ((ji18) < (a0.size : Int)) = true := decide_eq_true c20
                              clear c20
                              replace H := Option.bind_eq_some_iff.mp H
                              obtain ⟨t178, A220, H⟩ := H
                              replace H : (if t178 < 0 then (some ((⟨#[]⟩ : ByteArray), false, true)) else (spec_Decode.l2 k4 a0 x5_2 x6_2 x7_2 x8_2 (Go.bits .or .i64 (wrap64 (x9_4 * 64)) t178) x10_13 (wrap64 (x51_4 + 1)))) = some (r1, r2, r3) := H
                              have A22 := Aside0.mk A220
                              clear A220
                              by_cases c23 : t178 < 0
                              · rw [if_pos c23] at H
                                have c23b0 : decide (t178 < 0) = true := decide_eq_true c23
                                clear c23
                                simp only [Option.some.injEq, Prod.mk.injEq] at H
                                obtain ⟨rfl, rfl, rfl⟩ := H
                                have p21 : 0 ≤ ((ji18) : Int) := of_decide_eq_true (by first | (with_reducible assumption) | assumption)
                                have q21 : (ji18) < (a0.size : Int) := of_decide_eq_true (by first | (with_reducible assumption) | assumption)
                                have hx21 := bt_at a0 (ji18)
                                replace p21 := eq_true p21
                                replace q21 := eq_true q21
                                go_wp2_with (first | ((with_reducible refine gate_callee (f := 52) rfl ?_); refine goesL_ (some 62) rfl rfl Tryd.func52 (by kernel_rfl) rfl #[.int .u8 (bt a0 (ji18))] rfl (by (try simp only [List.map_toArray, List.map_cons, List.map_nil]); first | done | (simp only [hji18]; rfl) | rfl | (simp only [List.length_drop, List.length_take]; rfl)) ?_; (with_reducible refine (spec_figure.calls k4 (bt a0 (ji18)) t178 _ A22.out).mono ?_); rintro e w' ⟨rfl, ⟨nd, rfl⟩⟩; refine ⟨_, rfl, ?_⟩))
                                go_ret3
                                exact ⟨by first | rfl | (simp [errW_none, errW_some] <;> rfl) | (simp only [← hji18]; first | rfl | (simp [errW_none, errW_some] <;> rfl)) | (simp [*, errW_none, errW_some] <;> rfl), by repeat (first | (with_reducible first | exact HB.out | apply below_alloc | apply pw_below_drewN | apply below_drew1) | exact HB.out)⟩
                              · rw [if_neg c23] at H
                                have c23b0 : decide (t178 < 0) = false := decide_eq_false c23
                                clear c23
                                have H' := Aside0.mk H
                                clear H
                                have p21 : 0 ≤ ((ji18) : Int) := of_decide_eq_true (by first | (with_reducible assumption) | assumption)
                                have q21 : (ji18) < (a0.size : Int) := of_decide_eq_true (by first | (with_reducible assumption) | assumption)
                                have hx21 := bt_at a0 (ji18)
                                replace p21 := eq_true p21
                                replace q21 := eq_true q21
                                go_wp2_with (first | ((with_reducible refine gate_callee (f := 52) rfl ?_); refine goesL_ (some 62) rfl rfl Tryd.func52 (by kernel_rfl) rfl #[.int .u8 (bt a0 (ji18))] rfl (by (try simp only [List.map_toArray, List.map_cons, List.map_nil]); first | done | (simp only [hji18]; rfl) | rfl | (simp only [List.length_drop, List.length_take]; rfl)) ?_; (with_reducible refine (spec_figure.calls k4 (bt a0 (ji18)) t178 _ A22.out).mono ?_); rintro e w' ⟨rfl, ⟨nd, rfl⟩⟩; refine ⟨_, rfl, ?_⟩))
                                go_roundg k4
                                case measure => have := HJ2.out; have := HK2.out; have := HJ13.out; have := HK4.out; omega
                                case rel => exact ⟨(Go.bits .or .i64 (wrap64 (x9_4 * 64)) t178), (wrap64 (x51_4 + 1)), (by first | rfl | (simp; done) | (simp [*]; done)), (by first | rfl | (simp; done) | (simp [*]; done)), H', ⟨by have := HJ2.out; have := HK2.out; have := HJ13.out; have := HK4.out; omega⟩, ⟨by (with_reducible repeat (first | apply Kd.R_alloc | apply Kd.R_drewN | apply Kd.R_drew)); exact HO_6.out⟩, ⟨by repeat (first | (with_reducible first | exact HB.out | apply below_alloc | apply pw_below_drewN | apply below_drew1) | exact HB.out)⟩⟩
                            · rw [if_neg c20] at H
                              exact absurd H (by simp)
                          · rw [if_neg c19] at H
                            exact absurd H (by simp)
                        · rw [if_neg c17] at H
                          have c17b0 : decide (x51_4 < x10_13) = false := decide_eq_false c17
                          clear c17
                          have H' := Aside0.mk H
                          clear H
                          go_wp2
                          go_roundg k4
                          case measure => have := HJ2.out; have := HK2.out; have := HJ13.out; have := HK4.out; omega
                          case rel => exact ⟨(Go.bits .or .i64 (wrap64 (x9_4 * 64)) 0), (wrap64 (x51_4 + 1)), (by first | rfl | (simp; done) | (simp [*]; done)), (by first | rfl | (simp; done) | (simp [*]; done)), H', ⟨by have := HJ2.out; have := HK2.out; have := HJ13.out; have := HK4.out; omega⟩, ⟨by (with_reducible repeat (first | apply Kd.R_alloc | apply Kd.R_drewN | apply Kd.R_drew)); exact HO_6.out⟩, ⟨by repeat (first | (with_reducible first | exact HB.out | apply below_alloc | apply pw_below_drewN | apply below_drew1) | exact HB.out)⟩⟩
                      · rw [if_neg c16] at H
                        have c16b0 : decide (x51_4 < 4) = false := decide_eq_false c16
                        clear c16
                        by_cases c24 : x7_2 = true
                        · subst c24
                          have H1 : (if x10_13 = 3 then (if (Go.bits .and .i64 x9_4 255) = 0 then (if x10_13 = 2 then ((some (([(x9_4 / 65536) % 256, (x9_4 / 256) % 256, (x9_4) % 256] : List Int) : List Int)).bind fun y118 => (if 0 ≤ (wrap64 (x10_13 - 1)) then (if (wrap64 (x10_13 - 1)) ≤ (y118.length : Int) then ((some (y118.take ((wrap64 (x10_13 - 1)) : Int).toNat : List Int)).bind fun y121 => (if x6_2.length + y121.length < 140737488355328 then (spec_Decode.l1 k4 a0 x5_2 (x6_2 ++ y121) ((Go.bits .and .i64 x9_4 65535) == 0) (wrap64 (x8_2 + 4))) else (none))) else (none)) else (none))) else ((some (([(x9_4 / 65536) % 256, (x9_4 / 256) % 256, (x9_4) % 256] : List Int) : List Int)).bind fun y128 => (if 0 ≤ (wrap64 (x10_13 - 1)) then (if (wrap64 (x10_13 - 1)) ≤ (y128.length : Int) then ((some (y128.take ((wrap64 (x10_13 - 1)) : Int).toNat : List Int)).bind fun y131 => (if x6_2.length + y131.length < 140737488355328 then (spec_Decode.l1 k4 a0 x5_2 (x6_2 ++ y131) true (wrap64 (x8_2 + 4))) else (none))) else (none)) else (none)))) else ((some (([(x9_4 / 65536) % 256, (x9_4 / 256) % 256, (x9_4) % 256] : List Int) : List Int)).bind fun y138 => (if 0 ≤ (wrap64 (x10_13 - 1)) then (if (wrap64 (x10_13 - 1)) ≤ (y138.length : Int) then ((some (y138.take ((wrap64 (x10_13 - 1)) : Int).toNat : List Int)).bind fun y141 => (if x6_2.length + y141.length < 140737488355328 then (spec_Decode.l1 k4 a0 x5_2 (x6_2 ++ y141) false (wrap64 (x8_2 + 4))) else (none))) else (none)) else (none)))) else (if x10_13 = 2 then ((some (([(x9_4 / 65536) % 256, (x9_4 / 256) % 256, (x9_4) % 256] : List Int) : List Int)).bind fun y148 => (if 0 ≤ (wrap64 (x10_13 - 1)) then (if (wrap64 (x10_13 - 1)) ≤ (y148.length : Int) then ((some (y148.take ((wrap64 (x10_13 - 1)) : Int).toNat : List Int)).bind fun y151 => (if x6_2.length + y151.length < 140737488355328 then (spec_Decode.l1 k4 a0 x5_2 (x6_2 ++ y151) ((Go.bits .and .i64 x9_4 65535) == 0) (wrap64 (x8_2 + 4))) else (none))) else (none)) else (none))) else ((some (([(x9_4 / 65536) % 256, (x9_4 / 256) % 256, (x9_4) % 256] : List Int) : List Int)).bind fun y158 => (if 0 ≤ (wrap64 (x10_13 - 1)) then (if (wrap64 (x10_13 - 1)) ≤ (y158.length : Int) then ((some (y158.take ((wrap64 (x10_13 - 1)) : Int).toNat : List Int)).bind fun y161 => (if x6_2.length + y161.length < 140737488355328 then (spec_Decode.l1 k4 a0 x5_2 (x6_2 ++ y161) true (wrap64 (x8_2 + 4))) else (none))) else (none)) else (none))))) = some (r1, r2, r3) := by rw [if_pos rfl] at H; exact H
                          clear H
                          have H := H1
                          clear H1
                          by_cases c25 : x10_13 = 3
                          · rw [if_pos c25] at H
                            have c25b0 : (x10_13 == 3) = true := beq_iff_eq.mpr c25
                            have c25b1 : (x10_13 != 3) = false := bne_eq_false_iff_eq.mpr c25
                            clear c25
                            by_cases c26 : (Go.bits .and .i64 x9_4 255) = 0
                            · rw [if_pos c26] at H
                              have c26b0 : ((Go.bits .and .i64 x9_4 255) == 0) = true := beq_iff_eq.mpr c26
                              have c26b1 : ((Go.bits .and .i64 x9_4 255) != 0) = false := bne_eq_false_iff_eq.mpr c26
                              clear c26
                              by_cases c27 : x10_13 = 2
                              · rw [if_pos c27] at H
                                have c27b0 : (x10_13 == 2) = true := beq_iff_eq.mpr c27
                                have c27b1 : (x10_13 != 2) = false := bne_eq_false_iff_eq.mpr c27
                                clear c27
                                obtain ⟨y118, hy118⟩ : ∃ y_ : List Int, y_ = (([(x9_4 / 65536) % 256, (x9_4 / 256) % 256, (x9_4) % 256] : List Int)) := ⟨_, rfl⟩
                                replace H : (if 0 ≤ (wrap64 (x10_13 - 1)) then (if (wrap64 (x10_13 - 1)) ≤ (y118.length : Int) then ((some (y118.take ((wrap64 (x10_13 - 1)) : Int).toNat : List Int)).bind fun y121 => (if x6_2.length + y121.length < 140737488355328 then (spec_Decode.l1 k4 a0 x5_2 (x6_2 ++ y121) ((Go.bits .and .i64 x9_4 65535) == 0) (wrap64 (x8_2 + 4))) else (none))) else (none)) else (none)) = some (r1, r2, r3) := by first | (rw [hy118]; with_reducible exact H) | (have H2_ := (Option.bind_some _ _).symm.trans H; rw [hy118]; with_reducible exact H2_) | (have H2_ := (Option.bind_some _ _).symm.trans H; with_reducible exact H2_) | with_reducible exact H | (rw [hy118]; exact H) | exact H
                                have Ny118 := Aside0.mk hy118
                                clear hy118
                                obtain ⟨ji28, hji28⟩ : ∃ j_ : Int, (wrap64 (x10_13 - 1)) = j_ := ⟨_, rfl⟩
                                replace H : (if 0 ≤ (ji28) then (if (ji28) ≤ (y118.length : Int) then ((some (y118.take ((ji28) : Int).toNat : List Int)).bind fun y121 => (if x6_2.length + y121.length < 140737488355328 then (spec_Decode.l1 k4 a0 x5_2 (x6_2 ++ y121) ((Go.bits .and .i64 x9_4 65535) == 0) (wrap64 (x8_2 + 4))) else (none))) else (none)) else (none)) = some (r1, r2, r3) := by first | (rw [hji28] at H; exact H) | (simp only [hji28] at H ⊢; exact H)
                                have hji28w : (IntKind.i64.wrap (x10_13 - 1)) = ji28 := (i64_w _).trans hji28
                                by_cases c29 : 0 ≤ (ji28)
                                · rw [if_pos c29] at H
                                  have c29b0 := eq_true c29
                                  have c29b1 : decide (0 ≤ (ji28)) = true := decide_eq_true c29
                                  clear c29
                                  by_cases c30 : (ji28) ≤ (y118.length : Int)
                                  · rw [if_pos c30] at H
                                    have c30b0 := eq_true c30
                                    have c30b1 : decide ((ji28) ≤ (y118.length : Int)) = true := decide_eq_true c30
                                    clear c30
                                    obtain ⟨y121, hy121⟩ : ∃ y_ : List Int, y_ = (y118.take ((ji28) : Int).toNat) := ⟨_, rfl⟩
                                    replace H : (if x6_2.length + y121.length < 140737488355328 then (spec_Decode.l1 k4 a0 x5_2 (x6_2 ++ y121) ((Go.bits .and .i64 x9_4 65535) == 0) (wrap64 (x8_2 + 4))) else (none)) = some (r1, r2, r3) := by first | (rw [hy121]; with_reducible exact H) | (have H2_ := (Option.bind_some _ _).symm.trans H; rw [hy121]; with_reducible exact H2_) | (have H2_ := (Option.bind_some _ _).symm.trans H; with_reducible exact H2_) | with_reducible exact H | (rw [hy121]; exact H) | exact H
                                    have Ny121 := Aside0.mk hy121
                                    clear hy121
                                    by_cases c31 : x6_2.length + y121.length < 140737488355328
                                    · rw [if_pos c31] at H
                                      have LMc31 := Aside0.mk c31
                                      clear c31
                                      obtain ⟨y125, hy125⟩ : ∃ y_ : List Int, y_ = (x6_2 ++ y121) := ⟨_, rfl⟩
                                      replace H : (spec_Decode.l1 k4 a0 x5_2 y125 ((Go.bits .and .i64 x9_4 65535) == 0) (wrap64 (x8_2 + 4))) = some (r1, r2, r3) := by first | (rw [hy125]; with_reducible exact H) | (have H2_ := (Option.bind_some _ _).symm.trans H; rw [hy125]; with_reducible exact H2_) | (have H2_ := (Option.bind_some _ _).symm.trans H; with_reducible exact H2_) | with_reducible exact H | (rw [hy125]; exact H) | exact H
                                      have Ny125 := Aside0.mk hy125
                                      clear hy125
                                      have H' := Aside0.mk H
                                      clear H
                                      go_wp2_with (first | ((with_reducible refine gate_dst (N := 98) rfl ?_); (try (refine gate_guard (by rfl) ?_; dsimp only)); refine Kd.R_lit (Kd.int .u8) _ 5 ?hg (N := 98) ?hd (xs := ([(x9_4 / 65536) % 256, (x9_4 / 256) % 256, (x9_4) % 256] : List Int)) (inner := [.int .u8 ((x9_4 / 65536) % 256), .int .u8 ((x9_4 / 256) % 256), .int .u8 ((x9_4) % 256)]) (ok := fun _ => True) (okp := fun _ => True) ?hr ?hp (fun _ hk => hk) trivial (Below.refl _ _) (Nat.le_refl _) (by simp) ?_; (case hd => rfl); (case hg => rfl); (case hr => first | (go_simp; done) | (go_simp; rfl)); (case hp => exact (Reps.one (show Kd.M (Kd.int .u8) _ _ _ ((x9_4 / 65536) % 256) [.int .u8 ((x9_4 / 65536) % 256)] from rfl) (Reps.one (show Kd.M (Kd.int .u8) _ _ _ ((x9_4 / 256) % 256) [.int .u8 ((x9_4 / 256) % 256)] from rfl) (Reps.one (show Kd.M (Kd.int .u8) _ _ _ ((x9_4) % 256) [.int .u8 ((x9_4) % 256)] from rfl) (Reps.none _ _))))); intro v119 w32 ho33 hb hg_ hnew_; clear hg_ hnew_; (first | rw [← Ny118.out] at ho33 | (simp only [Int.reduceToNat] at ho33; rw [← Ny118.out] at ho33)); have n0_ := Aside0.mk (Kd.R_elder' (by (with_reducible repeat (first | apply Kd.R_alloc | apply Kd.R_drewN | apply Kd.R_drew)); exact HO_6.out) (Kd.R_base ho33) hb); have n1_ := Aside0.mk (Kd.R_lower (Kd.R_new' ho33 (Kd.R_lt (by (with_reducible repeat (first | apply Kd.R_alloc | apply Kd.R_drewN | apply Kd.R_drew)); exact HO_6.out))) (below_size (by repeat (first | (with_reducible first | exact HB.out | apply below_alloc | apply pw_below_drewN | apply below_drew1) | exact HB.out)))); have n2_ := Aside0.mk (below_step (by repeat (first | (with_reducible first | exact HB.out | apply below_alloc | apply pw_below_drewN | apply below_drew1) | exact HB.out)) hb); clear HO_6; clear HB; have HO_6 := n0_; have HO120 := n1_; have HB := n2_; clear n0_ n1_ n2_; clear hb ho33; obtain ⟨Ao35, co35, eo35⟩ := Kd.R_slice HO120.out; subst eo35; have q34 : ((ji28) : Int) ≤ ((y118.length : Int) : Int) := of_decide_eq_true (by first | (with_reducible assumption) | assumption); obtain ⟨i034, hi034, _, hsz34, _⟩ := info_parts info5; have hroom34 : y118.length ≤ co35 := (Kd.R_reads' HO120.out).2.1; have hC34 : Kd.C (Kd.int .u8) _ Ao35 y118.length y118 := (Kd.R_reads' HO120.out).2.2; have hcut34 := cut_to (P := Tryd.prog) 65 5 .i64 Tryd.underlying65 hi034 Ao35 y118.length co35 (ji28) (of_decide_eq_true (by first | (with_reducible assumption) | assumption)) q34 hroom34; have hr34 := Kd.C_take (m := ((ji28) : Int).toNat) hC34 (by omega); have hy34 : y121.length = ((ji28) : Int).toNat := (by rw [Ny121.out, List.length_take]; omega); rw [← Ny121.out] at hr34; rw [← hy34] at hcut34; have HR124 := Aside0.mk hr34; have HC124 := Aside0.mk (show y121.length ≤ co35 from by omega); clear hr34 hC34 hroom34 hi034 hsz34; have KY34 := Aside0.mk hy34; clear hy34; have KL34 := Aside0.mk (show ((ji28) : Int).toNat ≤ y118.length from by omega); replace q34 := eq_true q34) | ((with_reducible refine gate_builtin (b := .append) (xs := #[.tmp 89, .tmp 101]) rfl ?_); (try (refine gate_guard (by rfl) ?_; dsimp only)); at_builtin; refine Kd.R_append_rows (Kd.int .u8) (w0 := w) w.heap.size rfl (.tmp 89) (.tmp 101) 65 5 (.int .u8 0) 1 rfl Tryd.underlying65 info5 rfl (by decide) (by omega) u6 x6_2 y121 _ _ _ (fun k_ => some k_ ≠ (.slice Ao35 y118.length co35 : Value).ownBlock) (fun _ => False) rfl rfl ?aO ?aR (fun _ _ h => h) (fun _ h => h.elim) ?aF ?aB ?aS ?aL ?_; (case aR => repeat (first | exact (by repeat (first | (with_reducible exact HR124.out) | (with_reducible refine Kd.C_alloc ?_ _) | (with_reducible refine Kd.C_drewN ?_ _) | (with_reducible refine Kd.C_drew ?_) | exact HR124.out)) | (with_reducible refine Kd.C_alloc ?_ _) | (with_reducible refine Kd.C_drewN ?_ _) | (with_reducible refine Kd.C_drew ?_))); (case aB => exact (by repeat (first | (with_reducible first | exact HB.out | apply below_alloc | apply pw_below_drewN | apply below_drew1) | exact HB.out))); (case aF => exact (fun k_ hk => Kd.fresh' (Kd.R_lt (by (with_reducible repeat (first | apply Kd.R_alloc | apply Kd.R_drewN | apply Kd.R_drew)); exact HO120.out)) k_ hk)); (case aO => exact (by (with_reducible repeat (first | apply Kd.R_alloc | apply Kd.R_drewN | apply Kd.R_drew)); exact Kd.R_mono HO_6.out (fun _ hk => hk.2))); (case aS => exact (below_size (by repeat (first | (with_reducible first | exact HB.out | apply below_alloc | apply pw_below_drewN | apply below_drew1) | exact HB.out)))); (case aL => have := LMc31.out; omega); intro v126 w36 ho hb hg hat; rw [← Ny125.out] at ho; have n0_ := Aside0.mk (Kd.R_after (ok := (fun _ => True)) (by (with_reducible repeat (first | apply Kd.R_alloc | apply Kd.R_drewN | apply Kd.R_drew)); exact HO120.out) hg hat); have n1_ := Aside0.mk (hb); have n2_ := Aside0.mk ((show Kd.C (Kd.int .u8) w36 Ao35 y121.length y121 from by rw [Ny121.out]; exact Kd.C_take (m := ((ji28) : Int).toNat) ((Kd.R_reads' (Kd.R_after (ok := (fun _ => True)) (by (with_reducible repeat (first | apply Kd.R_alloc | apply Kd.R_drewN | apply Kd.R_drew)); exact HO120.out) hg hat)).2.2) KL34.out)); have n3_ := Aside0.mk (ho); clear HO120; clear HB; clear HR124; clear HO_6; have HO120 := n0_; have HB := n1_; have HR124 := n2_; have HO127 := n3_; clear n0_ n1_ n2_ n3_; clear ho hb hg hat))
                                      go_roundg k4
                                      case measure => have := HJ2.out; have := HK2.out; have := HJ13.out; have := HK4.out; omega
                                      case rel => exact ⟨(y125), (((Go.bits .and .i64 x9_4 65535) == 0)), (wrap64 (x8_2 + 4)), (by first | rfl | (simp; done) | (simp [*]; done)), (by first | rfl | (simp; done) | (simp [*]; done)), H', ⟨by have := HJ2.out; have := HK2.out; have := HJ13.out; have := HK4.out; omega⟩, ⟨by (with_reducible repeat (first | apply Kd.R_alloc | apply Kd.R_drewN | apply Kd.R_drew)); exact Kd.R_mono HO127.out (fun _ hk => trivial)⟩, ⟨by repeat (first | (with_reducible first | exact HB.out | apply below_alloc | apply pw_below_drewN | apply below_drew1) | exact HB.out)⟩⟩
                                    · rw [if_neg c31] at H
                                      exact absurd H (by simp)
                                  · rw [if_neg c30] at H
                                    exact absurd H (by simp)
                                · rw [if_neg c29] at H
                                  exact absurd H (by simp)
                              · rw [if_neg c27] at H
                                have c27b0 : (x10_13 == 2) = false := beq_eq_false_iff_ne.mpr c27
                                have c27b1 : (x10_13 != 2) = true := bne_iff_ne.mpr c27
                                obtain ⟨y128, hy128⟩ : ∃ y_ : List Int, y_ = (([(x9_4 / 65536) % 256, (x9_4 / 256) % 256, (x9_4) % 256] : List Int)) := ⟨_, rfl⟩
                                replace H : (if 0 ≤ (wrap64 (x10_13 - 1)) then (if (wrap64 (x10_13 - 1)) ≤ (y128.length : Int) then ((some (y128.take ((wrap64 (x10_13 - 1)) : Int).toNat : List Int)).bind fun y131 => (if x6_2.length + y131.length < 140737488355328 then (spec_Decode.l1 k4 a0 x5_2 (x6_2 ++ y131) true (wrap64 (x8_2 + 4))) else (none))) else (none)) else (none)) = some (r1, r2, r3) := by first | (rw [hy128]; with_reducible exact H) | (have H2_ := (Option.bind_some _ _).symm.trans H; rw [hy128]; with_reducible exact H2_) | (have H2_ := (Option.bind_some _ _).symm.trans H; with_reducible exact H2_) | with_reducible exact H | (rw [hy128]; exact H) | exact H
                                have Ny128 := Aside0.mk hy128
                                clear hy128
                                obtain ⟨ji37, hji37⟩ : ∃ j_ : Int, (wrap64 (x10_13 - 1)) = j_ := ⟨_, rfl⟩
                                replace H : (if 0 ≤ (ji37) then (if (ji37) ≤ (y128.length : Int) then ((some (y128.take ((ji37) : Int).toNat : List Int)).bind fun y131 => (if x6_2.length + y131.length < 140737488355328 then (spec_Decode.l1 k4 a0 x5_2 (x6_2 ++ y131) true (wrap64 (x8_2 + 4))) else (none))) else (none)) else (none)) = some (r1, r2, r3) := by first | (rw [hji37] at H; exact H) | (simp only [hji37] at H ⊢; exact H)
                                have hji37w : (IntKind.i64.wrap (x10_13 - 1)) = ji37 := (i64_w _).trans hji37
                                by_cases c38 : 0 ≤ (ji37)
                                · rw [if_pos c38] at H
                                  have c38b0 := eq_true c38
                                  have c38b1 : decide (0 ≤ (ji37)) = true := decide_eq_true c38
                                  clear c38
                                  by_cases c39 : (ji37) ≤ (y128.length : Int)
                                  · rw [if_pos c39] at H
                                    have c39b0 := eq_true c39
                                    have c39b1 : decide ((ji37) ≤ (y128.length : Int)) = true := decide_eq_true c39
                                    clear c39
                                    obtain ⟨y131, hy131⟩ : ∃ y_ : List Int, y_ = (y128.take ((ji37) : Int).toNat) := ⟨_, rfl⟩
                                    replace H : (if x6_2.length + y131.length < 140737488355328 then (spec_Decode.l1 k4 a0 x5_2 (x6_2 ++ y131) true (wrap64 (x8_2 + 4))) else (none)) = some (r1, r2, r3) := by first | (rw [hy131]; with_reducible exact H) | (have H2_ := (Option.bind_some _ _).symm.trans H; rw [hy131]; with_reducible exact H2_) | (have H2_ := (Option.bind_some _ _).symm.trans H; with_reducible exact H2_) | with_reducible exact H | (rw [hy131]; exact H) | exact H
                                    have Ny131 := Aside0.mk hy131
                                    clear hy131
                                    by_cases c40 : x6_2.length + y131.length < 140737488355328
                                    · rw [if_pos c40] at H
                                      have LMc40 := Aside0.mk c40
                                      clear c40
                                      obtain ⟨y135, hy135⟩ : ∃ y_ : List Int, y_ = (x6_2 ++ y131) := ⟨_, rfl⟩
                                      replace H : (spec_Decode.l1 k4 a0 x5_2 y135 true (wrap64 (x8_2 + 4))) = some (r1, r2, r3) := by first | (rw [hy135]; with_reducible exact H) | (have H2_ := (Option.bind_some _ _).symm.trans H; rw [hy135]; with_reducible exact H2_) | (have H2_ := (Option.bind_some _ _).symm.trans H; with_reducible exact H2_) | with_reducible exact H | (rw [hy135]; exact H) | exact H
                                      have Ny135 := Aside0.mk hy135
                                      clear hy135
                                      have H' := Aside0.mk H
                                      clear H
                                      go_wp2_with (first | ((with_reducible refine gate_dst (N := 98) rfl ?_); (try (refine gate_guard (by rfl) ?_; dsimp only)); refine Kd.R_lit (Kd.int .u8) _ 5 ?hg (N := 98) ?hd (xs := ([(x9_4 / 65536) % 256, (x9_4 / 256) % 256, (x9_4) % 256] : List Int)) (inner := [.int .u8 ((x9_4 / 65536) % 256), .int .u8 ((x9_4 / 256) % 256), .int .u8 ((x9_4) % 256)]) (ok := fun _ => True) (okp := fun _ => True) ?hr ?hp (fun _ hk => hk) trivial (Below.refl _ _) (Nat.le_refl _) (by simp) ?_; (case hd => rfl); (case hg => rfl); (case hr => first | (go_simp; done) | (go_simp; rfl)); (case hp => exact (Reps.one (show Kd.M (Kd.int .u8) _ _ _ ((x9_4 / 65536) % 256) [.int .u8 ((x9_4 / 65536) % 256)] from rfl) (Reps.one (show Kd.M (Kd.int .u8) _ _ _ ((x9_4 / 256) % 256) [.int .u8 ((x9_4 / 256) % 256)] from rfl) (Reps.one (show Kd.M (Kd.int .u8) _ _ _ ((x9_4) % 256) [.int .u8 ((x9_4) % 256)] from rfl) (Reps.none _ _))))); intro v129 w41 ho42 hb hg_ hnew_; clear hg_ hnew_; (first | rw [← Ny128.out] at ho42 | (simp only [Int.reduceToNat] at ho42; rw [← Ny128.out] at ho42)); have n0_ := Aside0.mk (Kd.R_elder' (by (with_reducible repeat (first | apply Kd.R_alloc | apply Kd.R_drewN | apply Kd.R_drew)); exact HO_6.out) (Kd.R_base ho42) hb); have n1_ := Aside0.mk (Kd.R_lower (Kd.R_new' ho42 (Kd.R_lt (by (with_reducible repeat (first | apply Kd.R_alloc | apply Kd.R_drewN | apply Kd.R_drew)); exact HO_6.out))) (below_size (by repeat (first | (with_reducible first | exact HB.out | apply below_alloc | apply pw_below_drewN | apply below_drew1) | exact HB.out)))); have n2_ := Aside0.mk (below_step (by repeat (first | (with_reducible first | exact HB.out | apply below_alloc | apply pw_below_drewN | apply below_drew1) | exact HB.out)) hb); clear HO_6; clear HB; have HO_6 := n0_; have HO130 := n1_; have HB := n2_; clear n0_ n1_ n2_; clear hb ho42; obtain ⟨Ao44, co44, eo44⟩ := Kd.R_slice HO130.out; subst eo44; have q43 : ((ji37) : Int) ≤ ((y128.length : Int) : Int) := of_decide_eq_true (by first | (with_reducible assumption) | assumption); obtain ⟨i043, hi043, _, hsz43, _⟩ := info_parts info5; have hroom43 : y128.length ≤ co44 := (Kd.R_reads' HO130.out).2.1; have hC43 : Kd.C (Kd.int .u8) _ Ao44 y128.length y128 := (Kd.R_reads' HO130.out).2.2; have hcut43 := cut_to (P := Tryd.prog) 65 5 .i64 Tryd.underlying65 hi043 Ao44 y128.length co44 (ji37) (of_decide_eq_true (by first | (with_reducible assumption) | assumption)) q43 hroom43; have hr43 := Kd.C_take (m := ((ji37) : Int).toNat) hC43 (by omega); have hy43 : y131.length = ((ji37) : Int).toNat := (by rw [Ny131.out, List.length_take]; omega); rw [← Ny131.out] at hr43; rw [← hy43] at hcut43; have HR134 := Aside0.mk hr43; have HC134 := Aside0.mk (show y131.length ≤ co44 from by omega); clear hr43 hC43 hroom43 hi043 hsz43; have KY43 := Aside0.mk hy43; clear hy43; have KL43 := Aside0.mk (show ((ji37) : Int).toNat ≤ y128.length from by omega); replace q43 := eq_true q43) | ((with_reducible refine gate_builtin (b := .append) (xs := #[.tmp 89, .tmp 101]) rfl ?_); (try (refine gate_guard (by rfl) ?_; dsimp only)); at_builtin; refine Kd.R_append_rows (Kd.int .u8) (w0 := w) w.heap.size rfl (.tmp 89) (.tmp 101) 65 5 (.int .u8 0) 1 rfl Tryd.underlying65 info5 rfl (by decide) (by omega) u6 x6_2 y131 _ _ _ (fun k_ => some k_ ≠ (.slice Ao44 y128.length co44 : Value).ownBlock) (fun _ => False) rfl rfl ?aO ?aR (fun _ _ h => h) (fun _ h => h.elim) ?aF ?aB ?aS ?aL ?_; (case aR => repeat (first | exact (by repeat (first | (with_reducible exact HR134.out) | (with_reducible refine Kd.C_alloc ?_ _) | (with_reducible refine Kd.C_drewN ?_ _) | (with_reducible refine Kd.C_drew ?_) | exact HR134.out)) | (with_reducible refine Kd.C_alloc ?_ _) | (with_reducible refine Kd.C_drewN ?_ _) | (with_reducible refine Kd.C_drew ?_))); (case aB => exact (by repeat (first | (with_reducible first | exact HB.out | apply below_alloc | apply pw_below_drewN | apply below_drew1) | exact HB.out))); (case aF => exact (fun k_ hk => Kd.fresh' (Kd.R_lt (by (with_reducible repeat (first | apply Kd.R_alloc | apply Kd.R_drewN | apply Kd.R_drew)); exact HO130.out)) k_ hk)); (case aO => exact (by (with_reducible repeat (first | apply Kd.R_alloc | apply Kd.R_drewN | apply Kd.R_drew)); exact Kd.R_mono HO_6.out (fun _ hk => hk.2))); (case aS => exact (below_size (by repeat (first | (with_reducible first | exact HB.out | apply below_alloc | apply pw_below_drewN | apply below_drew1) | exact HB.out)))); (case aL => have := LMc40.out; omega); intro v136 w45 ho hb hg hat; rw [← Ny135.out] at ho; have n0_ := Aside0.mk (Kd.R_after (ok := (fun _ => True)) (by (with_reducible repeat (first | apply Kd.R_alloc | apply Kd.R_drewN | apply Kd.R_drew)); exact HO130.out) hg hat); have n1_ := Aside0.mk (hb); have n2_ := Aside0.mk ((show Kd.C (Kd.int .u8) w45 Ao44 y131.length y131 from by rw [Ny131.out]; exact Kd.C_take (m := ((ji37) : Int).toNat) ((Kd.R_reads' (Kd.R_after (ok := (fun _ => True)) (by (with_reducible repeat (first | apply Kd.R_alloc | apply Kd.R_drewN | apply Kd.R_drew)); exact HO130.out) hg hat)).2.2) KL43.out)); have n3_ := Aside0.mk (ho); clear HO130; clear HB; clear HR134; clear HO_6; have HO130 := n0_; have HB := n1_; have HR134 := n2_; have HO137 := n3_; clear n0_ n1_ n2_ n3_; clear ho hb hg hat))
                                      go_roundg k4
                                      case measure => have := HJ2.out; have := HK2.out; have := HJ13.out; have := HK4.out; omega
                                      case rel => exact ⟨(y135), (true), (wrap64 (x8_2 + 4)), (by first | rfl | (simp; done) | (simp [*]; done)), (by first | rfl | (simp; done) | (simp [*]; done)), H', ⟨by have := HJ2.out; have := HK2.out; have := HJ13.out; have := HK4.out; omega⟩, ⟨by (with_reducible repeat (first | apply Kd.R_alloc | apply Kd.R_drewN | apply Kd.R_drew)); exact Kd.R_mono HO137.out (fun _ hk => trivial)⟩, ⟨by repeat (first | (with_reducible first | exact HB.out | apply below_alloc | apply pw_below_drewN | apply below_drew1) | exact HB.out)⟩⟩
                                    · rw [if_neg c40] at H
                                      exact absurd H (by simp)
                                  · rw [if_neg c39] at H
                                    exact absurd H (by simp)
                                · rw [if_neg c38] at H
                                  exact absurd H (by simp)
                            · rw [if_neg c26] at H
                              have c26b0 : ((Go.bits .and .i64 x9_4 255) == 0) = false := beq_eq_false_iff_ne.mpr c26
                              have c26b1 : ((Go.bits .and .i64 x9_4 255) != 0) = true := bne_iff_ne.mpr c26
                              obtain ⟨y138, hy138⟩ : ∃ y_ : List Int, y_ = (([(x9_4 / 65536) % 256, (x9_4 / 256) % 256, (x9_4) % 256] : List Int)) := ⟨_, rfl⟩
                              replace H : (if 0 ≤ (wrap64 (x10_13 - 1)) then (if (wrap64 (x10_13 - 1)) ≤ (y138.length : Int) then ((some (y138.take ((wrap64 (x10_13 - 1)) : Int).toNat : List Int)).bind fun y141 => (if x6_2.length + y141.length < 140737488355328 then (spec_Decode.l1 k4 a0 x5_2 (x6_2 ++ y141) false (wrap64 (x8_2 + 4))) else (none))) else (none)) else (none)) = some (r1, r2, r3) := by first | (rw [hy138]; with_reducible exact H) | (have H2_ := (Option.bind_some _ _).symm.trans H; rw [hy138]; with_reducible exact H2_) | (have H2_ := (Option.bind_some _ _).symm.trans H; with_reducible exact H2_) | with_reducible exact H | (rw [hy138]; exact H) | exact H
                              have Ny138 := Aside0.mk hy138
                              clear hy138
                              obtain ⟨ji46, hji46⟩ : ∃ j_ : Int, (wrap64 (x10_13 - 1)) = j_ := ⟨_, rfl⟩
                              replace H : (if 0 ≤ (ji46) then (if (ji46) ≤ (y138.length : Int) then ((some (y138.take ((ji46) : Int).toNat : List Int)).bind fun y141 => (if x6_2.length + y141.length < 140737488355328 then (spec_Decode.l1 k4 a0 x5_2 (x6_2 ++ y141) false (wrap64 (x8_2 + 4))) else (none))) else (none)) else (none)) = some (r1, r2, r3) := by first | (rw [hji46] at H; exact H) | (simp only [hji46] at H ⊢; exact H)
                              have hji46w : (IntKind.i64.wrap (x10_13 - 1)) = ji46 := (i64_w _).trans hji46
                              by_cases c47 : 0 ≤ (ji46)
                              · rw [if_pos c47] at H
                                have c47b0 := eq_true c47
                                have c47b1 : decide (0 ≤ (ji46)) = true := decide_eq_true c47
                                clear c47
                                by_cases c48 : (ji46) ≤ (y138.length : Int)
                                · rw [if_pos c48] at H
                                  have c48b0 := eq_true c48
                                  have c48b1 : decide ((ji46) ≤ (y138.length : Int)) = true := decide_eq_true c48
                                  clear c48
                                  obtain ⟨y141, hy141⟩ : ∃ y_ : List Int, y_ = (y138.take ((ji46) : Int).toNat) := ⟨_, rfl⟩
                                  replace H : (if x6_2.length + y141.length < 140737488355328 then (spec_Decode.l1 k4 a0 x5_2 (x6_2 ++ y141) false (wrap64 (x8_2 + 4))) else (none)) = some (r1, r2, r3) := by first | (rw [hy141]; with_reducible exact H) | (have H2_ := (Option.bind_some _ _).symm.trans H; rw [hy141]; with_reducible exact H2_) | (have H2_ := (Option.bind_some _ _).symm.trans H; with_reducible exact H2_) | with_reducible exact H | (rw [hy141]; exact H) | exact H
                                  have Ny141 := Aside0.mk hy141
                                  clear hy141
                                  by_cases c49 : x6_2.length + y141.length < 140737488355328
                                  · rw [if_pos c49] at H
                                    have LMc49 := Aside0.mk c49
                                    clear c49
                                    obtain ⟨y145, hy145⟩ : ∃ y_ : List Int, y_ = (x6_2 ++ y141) := ⟨_, rfl⟩
                                    replace H : (spec_Decode.l1 k4 a0 x5_2 y145 false (wrap64 (x8_2 + 4))) = some (r1, r2, r3) := by first | (rw [hy145]; with_reducible exact H) | (have H2_ := (Option.bind_some _ _).symm.trans H; rw [hy145]; with_reducible exact H2_) | (have H2_ := (Option.bind_some _ _).symm.trans H; with_reducible exact H2_) | with_reducible exact H | (rw [hy145]; exact H) | exact H
                                    have Ny145 := Aside0.mk hy145
                                    clear hy145
                                    have H' := Aside0.mk H
                                    clear H
                                    go_wp2_with (first | ((with_reducible refine gate_dst (N := 98) rfl ?_); (try (refine gate_guard (by rfl) ?_; dsimp only)); refine Kd.R_lit (Kd.int .u8) _ 5 ?hg (N := 98) ?hd (xs := ([(x9_4 / 65536) % 256, (x9_4 / 256) % 256, (x9_4) % 256] : List Int)) (inner := [.int .u8 ((x9_4 / 65536) % 256), .int .u8 ((x9_4 / 256) % 256), .int .u8 ((x9_4) % 256)]) (ok := fun _ => True) (okp := fun _ => True) ?hr ?hp (fun _ hk => hk) trivial (Below.refl _ _) (Nat.le_refl _) (by simp) ?_; (case hd => rfl); (case hg => rfl); (case hr => first | (go_simp; done) | (go_simp; rfl)); (case hp => exact (Reps.one (show Kd.M (Kd.int .u8) _ _ _ ((x9_4 / 65536) % 256) [.int .u8 ((x9_4 / 65536) % 256)] from rfl) (Reps.one (show Kd.M (Kd.int .u8) _ _ _ ((x9_4 / 256) % 256) [.int .u8 ((x9_4 / 256) % 256)] from rfl) (Reps.one (show Kd.M (Kd.int .u8) _ _ _ ((x9_4) % 256) [.int .u8 ((x9_4) % 256)] from rfl) (Reps.none _ _))))); intro v139 w50 ho51 hb hg_ hnew_; clear hg_ hnew_; (first | rw [← Ny138.out] at ho51 | (simp only [Int.reduceToNat] at ho51; rw [← Ny138.out] at ho51)); have n0_ := Aside0.mk (Kd.R_elder' (by (with_reducible repeat (first | apply Kd.R_alloc | apply Kd.R_drewN | apply Kd.R_drew)); exact HO_6.out) (Kd.R_base ho51) hb); have n1_ := Aside0.mk (Kd.R_lower (Kd.R_new' ho51 (Kd.R_lt (by (with_reducible repeat (first | apply Kd.R_alloc | apply Kd.R_drewN | apply Kd.R_drew)); exact HO_6.out))) (below_size (by repeat (first | (with_reducible first | exact HB.out | apply below_alloc | apply pw_below_drewN | apply below_drew1) | exact HB.out)))); have n2_ := Aside0.mk (below_step (by repeat (first | (with_reducible first | exact HB.out | apply below_alloc | apply pw_below_drewN | apply below_drew1) | exact HB.out)) hb); clear HO_6; clear HB; have HO_6 := n0_; have HO140 := n1_; have HB := n2_; clear n0_ n1_ n2_; clear hb ho51; obtain ⟨Ao53, co53, eo53⟩ := Kd.R_slice HO140.out; subst eo53; have q52 : ((ji46) : Int) ≤ ((y138.length : Int) : Int) := of_decide_eq_true (by first | (with_reducible assumption) | assumption); obtain ⟨i052, hi052, _, hsz52, _⟩ := info_parts info5; have hroom52 : y138.length ≤ co53 := (Kd.R_reads' HO140.out).2.1; have hC52 : Kd.C (Kd.int .u8) _ Ao53 y138.length y138 := (Kd.R_reads' HO140.out).2.2; have hcut52 := cut_to (P := Tryd.prog) 65 5 .i64 Tryd.underlying65 hi052 Ao53 y138.length co53 (ji46) (of_decide_eq_true (by first | (with_reducible assumption) | assumption)) q52 hroom52; have hr52 := Kd.C_take (m := ((ji46) : Int).toNat) hC52 (by omega); have hy52 : y141.length = ((ji46) : Int).toNat := (by rw [Ny141.out, List.length_take]; omega); rw [← Ny141.out] at hr52; rw [← hy52] at hcut52; have HR144 := Aside0.mk hr52; have HC144 := Aside0.mk (show y141.length ≤ co53 from by omega); clear hr52 hC52 hroom52 hi052 hsz52; have KY52 := Aside0.mk hy52; clear hy52; have KL52 := Aside0.mk (show ((ji46) : Int).toNat ≤ y138.length from by omega); replace q52 := eq_true q52) | ((with_reducible refine gate_builtin (b := .append) (xs := #[.tmp 89, .tmp 101]) rfl ?_); (try (refine gate_guard (by rfl) ?_; dsimp only)); at_builtin; refine Kd.R_append_rows (Kd.int .u8) (w0 := w) w.heap.size rfl (.tmp 89) (.tmp 101) 65 5 (.int .u8 0) 1 rfl Tryd.underlying65 info5 rfl (by decide) (by omega) u6 x6_2 y141 _ _ _ (fun k_ => some k_ ≠ (.slice Ao53 y138.length co53 : Value).ownBlock) (fun _ => False) rfl rfl ?aO ?aR (fun _ _ h => h) (fun _ h => h.elim) ?aF ?aB ?aS ?aL ?_; (case aR => repeat (first | exact (by repeat (first | (with_reducible exact HR144.out) | (with_reducible refine Kd.C_alloc ?_ _) | (with_reducible refine Kd.C_drewN ?_ _) | (with_reducible refine Kd.C_drew ?_) | exact HR144.out)) | (with_reducible refine Kd.C_alloc ?_ _) | (with_reducible refine Kd.C_drewN ?_ _) | (with_reducible refine Kd.C_drew ?_))); (case aB => exact (by repeat (first | (with_reducible first | exact HB.out | apply below_alloc | apply pw_below_drewN | apply below_drew1) | exact HB.out))); (case aF => exact (fun k_ hk => Kd.fresh' (Kd.R_lt (by (with_reducible repeat (first | apply Kd.R_alloc | apply Kd.R_drewN | apply Kd.R_drew)); exact HO140.out)) k_ hk)); (case aO => exact (by (with_reducible repeat (first | apply Kd.R_alloc | apply Kd.R_drewN | apply Kd.R_drew)); exact Kd.R_mono HO_6.out (fun _ hk => hk.2))); (case aS => exact (below_size (by repeat (first | (with_reducible first | exact HB.out | apply below_alloc | apply pw_below_drewN | apply below_drew1) | exact HB.out)))); (case aL => have := LMc49.out; omega); intro v146 w54 ho hb hg hat; rw [← Ny145.out] at ho; have n0_ := Aside0.mk (Kd.R_after (ok := (fun _ => True)) (by (with_reducible repeat (first | apply Kd.R_alloc | apply Kd.R_drewN | apply Kd.R_drew)); exact HO140.out) hg hat); have n1_ := Aside0.mk (hb); have n2_ := Aside0.mk ((show Kd.C (Kd.int .u8) w54 Ao53 y141.length y141 from by rw [Ny141.out]; exact Kd.C_take (m := ((ji46) : Int).toNat) ((Kd.R_reads' (Kd.R_after (ok := (fun _ => True)) (by (with_reducible repeat (first | apply Kd.R_alloc | apply Kd.R_drewN | apply Kd.R_drew)); exact HO140.out) hg hat)).2.2) KL52.out)); have n3_ := Aside0.mk (ho); clear HO140; clear HB; clear HR144; clear HO_6; have HO140 := n0_; have HB := n1_; have HR144 := n2_; have HO147 := n3_; clear n0_ n1_ n2_ n3_; clear ho hb hg hat))
                                    go_roundg k4
                                    case measure => have := HJ2.out; have := HK2.out; have := HJ13.out; have := HK4.out; omega
                                    case rel => exact ⟨(y145), (false), (wrap64 (x8_2 + 4)), (by first | rfl | (simp; done) | (simp [*]; done)), (by first | rfl | (simp; done) | (simp [*]; done)), H', ⟨by have := HJ2.out; have := HK2.out; have := HJ13.out; have := HK4.out; omega⟩, ⟨by (with_reducible repeat (first | apply Kd.R_alloc | apply Kd.R_drewN | apply Kd.R_drew)); exact Kd.R_mono HO147.out (fun _ hk => trivial)⟩, ⟨by repeat (first | (with_reducible first | exact HB.out | apply below_alloc | apply pw_below_drewN | apply below_drew1) | exact HB.out)⟩⟩
                                  · rw [if_neg c49] at H
                                    exact absurd H (by simp)
                                · rw [if_neg c48] at H
                                  exact absurd H (by simp)
                              · rw [if_neg c47] at H
                                exact absurd H (by simp)
                          · rw [if_neg c25] at H
                            have c25b0 : (x10_13 == 3) = false := beq_eq_false_iff_ne.mpr c25
                            have c25b1 : (x10_13 != 3) = true := bne_iff_ne.mpr c25
                            by_cases c55 : x10_13 = 2
                            · rw [if_pos c55] at H
                              have c55b0 : (x10_13 == 2) = true := beq_iff_eq.mpr c55
                              have c55b1 : (x10_13 != 2) = false := bne_eq_false_iff_eq.mpr c55
                              clear c55
                              obtain ⟨y148, hy148⟩ : ∃ y_ : List Int, y_ = (([(x9_4 / 65536) % 256, (x9_4 / 256) % 256, (x9_4) % 256] : List Int)) := ⟨_, rfl⟩
                              replace H : (if 0 ≤ (wrap64 (x10_13 - 1)) then (if (wrap64 (x10_13 - 1)) ≤ (y148.length : Int) then ((some (y148.take ((wrap64 (x10_13 - 1)) : Int).toNat : List Int)).bind fun y151 => (if x6_2.length + y151.length < 140737488355328 then (spec_Decode.l1 k4 a0 x5_2 (x6_2 ++ y151) ((Go.bits .and .i64 x9_4 65535) == 0) (wrap64 (x8_2 + 4))) else (none))) else (none)) else (none)) = some (r1, r2, r3) := by first | (rw [hy148]; with_reducible exact H) | (have H2_ := (Option.bind_some _ _).symm.trans H; rw [hy148]; with_reducible exact H2_) | (have H2_ := (Option.bind_some _ _).symm.trans H; with_reducible exact H2_) | with_reducible exact H | (rw [hy148]; exact H) | exact H
                              have Ny148 := Aside0.mk hy148
                              clear hy148
                              obtain ⟨ji56, hji56⟩ : ∃ j_ : Int, (wrap64 (x10_13 - 1)) = j_ := ⟨_, rfl⟩
                              replace H : (if 0 ≤ (ji56) then (if (ji56) ≤ (y148.length : Int) then ((some (y148.take ((ji56) : Int).toNat : List Int)).bind fun y151 => (if x6_2.length + y151.length < 140737488355328 then (spec_Decode.l1 k4 a0 x5_2 (x6_2 ++ y151) ((Go.bits .and .i64 x9_4 65535) == 0) (wrap64 (x8_2 + 4))) else (none))) else (none)) else (none)) = some (r1, r2, r3) := by first | (rw [hji56] at H; exact H) | (simp only [hji56] at H ⊢; exact H)
                              have hji56w : (IntKind.i64.wrap (x10_13 - 1)) = ji56 := (i64_w _).trans hji56
                              by_cases c57 : 0 ≤ (ji56)
                              · rw [if_pos c57] at H
                                have c57b0 := eq_true c57
                                have c57b1 : decide (0 ≤ (ji56)) = true := decide_eq_true c57
                                clear c57
                                by_cases c58 : (ji56) ≤ (y148.length : Int)
                                · rw [if_pos c58] at H
                                  have c58b0 := eq_true c58
                                  have c58b1 : decide ((ji56) ≤ (y148.length : Int)) = true := decide_eq_true c58
                                  clear c58
                                  obtain ⟨y151, hy151⟩ : ∃ y_ : List Int, y_ = (y148.take ((ji56) : Int).toNat) := ⟨_, rfl⟩
                                  replace H : (if x6_2.length + y151.length < 140737488355328 then (spec_Decode.l1 k4 a0 x5_2 (x6_2 ++ y151) ((Go.bits .and .i64 x9_4 65535) == 0) (wrap64 (x8_2 + 4))) else (none)) = some (r1, r2, r3) := by first | (rw [hy151]; with_reducible exact H) | (have H2_ := (Option.bind_some _ _).symm.trans H; rw [hy151]; with_reducible exact H2_) | (have H2_ := (Option.bind_some _ _).symm.trans H; with_reducible exact H2_) | with_reducible exact H | (rw [hy151]; exact H) | exact H
                                  have Ny151 := Aside0.mk hy151
                                  clear hy151
                                  by_cases c59 : x6_2.length + y151.length < 140737488355328
                                  · rw [if_pos c59] at H
                                    have LMc59 := Aside0.mk c59
                                    clear c59
                                    obtain ⟨y155, hy155⟩ : ∃ y_ : List Int, y_ = (x6_2 ++ y151) := ⟨_, rfl⟩
                                    replace H : (spec_Decode.l1 k4 a0 x5_2 y155 ((Go.bits .and .i64 x9_4 65535) == 0) (wrap64 (x8_2 + 4))) = some (r1, r2, r3) := by first | (rw [hy155]; with_reducible exact H) | (have H2_ := (Option.bind_some _ _).symm.trans H; rw [hy155]; with_reducible exact H2_) | (have H2_ := (Option.bind_some _ _).symm.trans H; with_reducible exact H2_) | with_reducible exact H | (rw [hy155]; exact H) | exact H
                                    have Ny155 := Aside0.mk hy155
                                    clear hy155
                                    have H' := Aside0.mk H
                                    clear H
                                    go_wp2_with (first | ((with_reducible refine gate_dst (N := 98) rfl ?_); (try (refine gate_guard (by rfl) ?_; dsimp only)); refine Kd.R_lit (Kd.int .u8) _ 5 ?hg (N := 98) ?hd (xs := ([(x9_4 / 65536) % 256, (x9_4 / 256) % 256, (x9_4) % 256] : List Int)) (inner := [.int .u8 ((x9_4 / 65536) % 256), .int .u8 ((x9_4 / 256) % 256), .int .u8 ((x9_4) % 256)]) (ok := fun _ => True) (okp := fun _ => True) ?hr ?hp (fun _ hk => hk) trivial (Below.refl _ _) (Nat.le_refl _) (by simp) ?_; (case hd => rfl); (case hg => rfl); (case hr => first | (go_simp; done) | (go_simp; rfl)); (case hp => exact (Reps.one (show Kd.M (Kd.int .u8) _ _ _ ((x9_4 / 65536) % 256) [.int .u8 ((x9_4 / 65536) % 256)] from rfl) (Reps.one (show Kd.M (Kd.int .u8) _ _ _ ((x9_4 / 256) % 256) [.int .u8 ((x9_4 / 256) % 256)] from rfl) (Reps.one (show Kd.M (Kd.int .u8) _ _ _ ((x9_4) % 256) [.int .u8 ((x9_4) % 256)] from rfl) (Reps.none _ _))))); intro v149 w60 ho61 hb hg_ hnew_; clear hg_ hnew_; (first | rw [← Ny148.out] at ho61 | (simp only [Int.reduceToNat] at ho61; rw [← Ny148.out] at ho61)); have n0_ := Aside0.mk (Kd.R_elder' (by (with_reducible repeat (first | apply Kd.R_alloc | apply Kd.R_drewN | apply Kd.R_drew)); exact HO_6.out) (Kd.R_base ho61) hb); have n1_ := Aside0.mk (Kd.R_lower (Kd.R_new' ho61 (Kd.R_lt (by (with_reducible repeat (first | apply Kd.R_alloc | apply Kd.R_drewN | apply Kd.R_drew)); exact HO_6.out))) (below_size (by repeat (first | (with_reducible first | exact HB.out | apply below_alloc | apply pw_below_drewN | apply below_drew1) | exact HB.out)))); have n2_ := Aside0.mk (below_step (by repeat (first | (with_reducible first | exact HB.out | apply below_alloc | apply pw_below_drewN | apply below_drew1) | exact HB.out)) hb); clear HO_6; clear HB; have HO_6 := n0_; have HO150 := n1_; have HB := n2_; clear n0_ n1_ n2_; clear hb ho61; obtain ⟨Ao63, co63, eo63⟩ := Kd.R_slice HO150.out; subst eo63; have q62 : ((ji56) : Int) ≤ ((y148.length : Int) : Int) := of_decide_eq_true (by first | (with_reducible assumption) | assumption); obtain ⟨i062, hi062, _, hsz62, _⟩ := info_parts info5; have hroom62 : y148.length ≤ co63 := (Kd.R_reads' HO150.out).2.1; have hC62 : Kd.C (Kd.int .u8) _ Ao63 y148.length y148 := (Kd.R_reads' HO150.out).2.2; have hcut62 := cut_to (P := Tryd.prog) 65 5 .i64 Tryd.underlying65 hi062 Ao63 y148.length co63 (ji56) (of_decide_eq_true (by first | (with_reducible assumption) | assumption)) q62 hroom62; have hr62 := Kd.C_take (m := ((ji56) : Int).toNat) hC62 (by omega); have hy62 : y151.length = ((ji56) : Int).toNat := (by rw [Ny151.out, List.length_take]; omega); rw [← Ny151.out] at hr62; rw [← hy62] at hcut62; have HR154 := Aside0.mk hr62; have HC154 := Aside0.mk (show y151.length ≤ co63 from by omega); clear hr62 hC62 hroom62 hi062 hsz62; have KY62 := Aside0.mk hy62; clear hy62; have KL62 := Aside0.mk (show ((ji56) : Int).toNat ≤ y148.length from by omega); replace q62 := eq_true q62) | ((with_reducible refine gate_builtin (b := .append) (xs := #[.tmp 89, .tmp 101]) rfl ?_); (try (refine gate_guard (by rfl) ?_; dsimp only)); at_builtin; refine Kd.R_append_rows (Kd.int .u8) (w0 := w) w.heap.size rfl (.tmp 89) (.tmp 101) 65 5 (.int .u8 0) 1 rfl Tryd.underlying65 info5 rfl (by decide) (by omega) u6 x6_2 y151 _ _ _ (fun k_ => some k_ ≠ (.slice Ao63 y148.length co63 : Value).ownBlock) (fun _ => False) rfl rfl ?aO ?aR (fun _ _ h => h) (fun _ h => h.elim) ?aF ?aB ?aS ?aL ?_; (case aR => repeat (first | exact (by repeat (first | (with_reducible exact HR154.out) | (with_reducible refine Kd.C_alloc ?_ _) | (with_reducible refine Kd.C_drewN ?_ _) | (with_reducible refine Kd.C_drew ?_) | exact HR154.out)) | (with_reducible refine Kd.C_alloc ?_ _) | (with_reducible refine Kd.C_drewN ?_ _) | (with_reducible refine Kd.C_drew ?_))); (case aB => exact (by repeat (first | (with_reducible first | exact HB.out | apply below_alloc | apply pw_below_drewN | apply below_drew1) | exact HB.out))); (case aF => exact (fun k_ hk => Kd.fresh' (Kd.R_lt (by (with_reducible repeat (first | apply Kd.R_alloc | apply Kd.R_drewN | apply Kd.R_drew)); exact HO150.out)) k_ hk)); (case aO => exact (by (with_reducible repeat (first | apply Kd.R_alloc | apply Kd.R_drewN | apply Kd.R_drew)); exact Kd.R_mono HO_6.out (fun _ hk => hk.2))); (case aS => exact (below_size (by repeat (first | (with_reducible first | exact HB.out | apply below_alloc | apply pw_below_drewN | apply below_drew1) | exact HB.out)))); (case aL => have := LMc59.out; omega); intro v156 w64 ho hb hg hat; rw [← Ny155.out] at ho; have n0_ := Aside0.mk (Kd.R_after (ok := (fun _ => True)) (by (with_reducible repeat (first | apply Kd.R_alloc | apply Kd.R_drewN | apply Kd.R_drew)); exact HO150.out) hg hat); have n1_ := Aside0.mk (hb); have n2_ := Aside0.mk ((show Kd.C (Kd.int .u8) w64 Ao63 y151.length y151 from by rw [Ny151.out]; exact Kd.C_take (m := ((ji56) : Int).toNat) ((Kd.R_reads' (Kd.R_after (ok := (fun _ => True)) (by (with_reducible repeat (first | apply Kd.R_alloc | apply Kd.R_drewN | apply Kd.R_drew)); exact HO150.out) hg hat)).2.2) KL62.out)); have n3_ := Aside0.mk (ho); clear HO150; clear HB; clear HR154; clear HO_6; have HO150 := n0_; have HB := n1_; have HR154 := n2_; have HO157 := n3_; clear n0_ n1_ n2_ n3_; clear ho hb hg hat))
                                    go_roundg k4
                                    case measure => have := HJ2.out; have := HK2.out; have := HJ13.out; have := HK4.out; omega
                                    case rel => exact ⟨(y155), (((Go.bits .and .i64 x9_4 65535) == 0)), (wrap64 (x8_2 + 4)), (by first | rfl | (simp; done) | (simp [*]; done)), (by first | rfl | (simp; done) | (simp [*]; done)), H', ⟨by have := HJ2.out; have := HK2.out; have := HJ13.out; have := HK4.out; omega⟩, ⟨by (with_reducible repeat (first | apply Kd.R_alloc | apply Kd.R_drewN | apply Kd.R_drew)); exact Kd.R_mono HO157.out (fun _ hk => trivial)⟩, ⟨by repeat (first | (with_reducible first | exact HB.out | apply below_alloc | apply pw_below_drewN | apply below_drew1) | exact HB.out)⟩⟩
                                  · rw [if_neg c59] at H
                                    exact absurd H (by simp)
                                · rw [if_neg c58] at H
                                  exact absurd H (by simp)
                              · rw [if_neg c57] at H
                                exact absurd H (by simp)
                            · rw [if_neg c55] at H
                              have c55b0 : (x10_13 == 2) = false := beq_eq_false_iff_ne.mpr c55
                              have c55b1 : (x10_13 != 2) = true := bne_iff_ne.mpr c55
                              obtain ⟨y158, hy158⟩ : ∃ y_ : List Int, y_ = (([(x9_4 / 65536) % 256, (x9_4 / 256) % 256, (x9_4) % 256] : List Int)) := ⟨_, rfl⟩
                              replace H : (if 0 ≤ (wrap64 (x10_13 - 1)) then (if (wrap64 (x10_13 - 1)) ≤ (y158.length : Int) then ((some (y158.take ((wrap64 (x10_13 - 1)) : Int).toNat : List Int)).bind fun y161 => (if x6_2.length + y161.length < 140737488355328 then (spec_Decode.l1 k4 a0 x5_2 (x6_2 ++ y161) true (wrap64 (x8_2 + 4))) else (none))) else (none)) else (none)) = some (r1, r2, r3) := by first | (rw [hy158]; with_reducible exact H) | (have H2_ := (Option.bind_some _ _).symm.trans H; rw [hy158]; with_reducible exact H2_) | (have H2_ := (Option.bind_some _ _).symm.trans H; with_reducible exact H2_) | with_reducible exact H | (rw [hy158]; exact H) | exact H
                              have Ny158 := Aside0.mk hy158
                              clear hy158
                              obtain ⟨ji65, hji65⟩ : ∃ j_ : Int, (wrap64 (x10_13 - 1)) = j_ := ⟨_, rfl⟩
                              replace H : (if 0 ≤ (ji65) then (if (ji65) ≤ (y158.length : Int) then ((some (y158.take ((ji65) : Int).toNat : List Int)).bind fun y161 => (if x6_2.length + y161.length < 140737488355328 then (spec_Decode.l1 k4 a0 x5_2 (x6_2 ++ y161) true (wrap64 (x8_2 + 4))) else (none))) else (none)) else (none)) = some (r1, r2, r3) := by first | (rw [hji65] at H; exact H) | (simp only [hji65] at H ⊢; exact H)
                              have hji65w : (IntKind.i64.wrap (x10_13 - 1)) = ji65 := (i64_w _).trans hji65
                              by_cases c66 : 0 ≤ (ji65)
                              · rw [if_pos c66] at H
                                have c66b0 := eq_true c66
                                have c66b1 : decide (0 ≤ (ji65)) = true := decide_eq_true c66
                                clear c66
                                by_cases c67 : (ji65) ≤ (y158.length : Int)
                                · rw [if_pos c67] at H
                                  have c67b0 := eq_true c67
                                  have c67b1 : decide ((ji65) ≤ (y158.length : Int)) = true := decide_eq_true c67
                                  clear c67
                                  obtain ⟨y161, hy161⟩ : ∃ y_ : List Int, y_ = (y158.take ((ji65) : Int).toNat) := ⟨_, rfl⟩
                                  replace H : (if x6_2.length + y161.length < 140737488355328 then (spec_Decode.l1 k4 a0 x5_2 (x6_2 ++ y161) true (wrap64 (x8_2 + 4))) else (none)) = some (r1, r2, r3) := by first | (rw [hy161]; with_reducible exact H) | (have H2_ := (Option.bind_some _ _).symm.trans H; rw [hy161]; with_reducible exact H2_) | (have H2_ := (Option.bind_some _ _).symm.trans H; with_reducible exact H2_) | with_reducible exact H | (rw [hy161]; exact H) | exact H
                                  have Ny161 := Aside0.mk hy161
                                  clear hy161
                                  by_cases c68 : x6_2.length + y161.length < 140737488355328
                                  · rw [if_pos c68] at H
                                    have LMc68 := Aside0.mk c68
                                    clear c68
                                    obtain ⟨y165, hy165⟩ : ∃ y_ : List Int, y_ = (x6_2 ++ y161) := ⟨_, rfl⟩
                                    replace H : (spec_Decode.l1 k4 a0 x5_2 y165 true (wrap64 (x8_2 + 4))) = some (r1, r2, r3) := by first | (rw [hy165]; with_reducible exact H) | (have H2_ := (Option.bind_some _ _).symm.trans H; rw [hy165]; with_reducible exact H2_) | (have H2_ := (Option.bind_some _ _).symm.trans H; with_reducible exact H2_) | with_reducible exact H | (rw [hy165]; exact H) | exact H
                                    have Ny165 := Aside0.mk hy165
                                    clear hy165
                                    have H' := Aside0.mk H
                                    clear H
                                    go_wp2_with (first | ((with_reducible refine gate_dst (N := 98) rfl ?_); (try (refine gate_guard (by rfl) ?_; dsimp only)); refine Kd.R_lit (Kd.int .u8) _ 5 ?hg (N := 98) ?hd (xs := ([(x9_4 / 65536) % 256, (x9_4 / 256) % 256, (x9_4) % 256] : List Int)) (inner := [.int .u8 ((x9_4 / 65536) % 256), .int .u8 ((x9_4 / 256) % 256), .int .u8 ((x9_4) % 256)]) (ok := fun _ => True) (okp := fun _ => True) ?hr ?hp (fun _ hk => hk) trivial (Below.refl _ _) (Nat.le_refl _) (by simp) ?_; (case hd => rfl); (case hg => rfl); (case hr => first | (go_simp; done) | (go_simp; rfl)); (case hp => exact (Reps.one (show Kd.M (Kd.int .u8) _ _ _ ((x9_4 / 65536) % 256) [.int .u8 ((x9_4 / 65536) % 256)] from rfl) (Reps.one (show Kd.M (Kd.int .u8) _ _ _ ((x9_4 / 256) % 256) [.int .u8 ((x9_4 / 256) % 256)] from rfl) (Reps.one (show Kd.M (Kd.int .u8) _ _ _ ((x9_4) % 256) [.int .u8 ((x9_4) % 256)] from rfl) (Reps.none _ _))))); intro v159 w69 ho70 hb hg_ hnew_; clear hg_ hnew_; (first | rw [← Ny158.out] at ho70 | (simp only [Int.reduceToNat] at ho70; rw [← Ny158.out] at ho70)); have n0_ := Aside0.mk (Kd.R_elder' (by (with_reducible repeat (first | apply Kd.R_alloc | apply Kd.R_drewN | apply Kd.R_drew)); exact HO_6.out) (Kd.R_base ho70) hb); have n1_ := Aside0.mk (Kd.R_lower (Kd.R_new' ho70 (Kd.R_lt (by (with_reducible repeat (first | apply Kd.R_alloc | apply Kd.R_drewN | apply Kd.R_drew)); exact HO_6.out))) (below_size (by repeat (first | (with_reducible first | exact HB.out | apply below_alloc | apply pw_below_drewN | apply below_drew1) | exact HB.out)))); have n2_ := Aside0.mk (below_step (by repeat (first | (with_reducible first | exact HB.out | apply below_alloc | apply pw_below_drewN | apply below_drew1) | exact HB.out)) hb); clear HO_6; clear HB; have HO_6 := n0_; have HO160 := n1_; have HB := n2_; clear n0_ n1_ n2_; clear hb ho70; obtain ⟨Ao72, co72, eo72⟩ := Kd.R_slice HO160.out; subst eo72; have q71 : ((ji65) : Int) ≤ ((y158.length : Int) : Int) := of_decide_eq_true (by first | (with_reducible assumption) | assumption); obtain ⟨i071, hi071, _, hsz71, _⟩ := info_parts info5; have hroom71 : y158.length ≤ co72 := (Kd.R_reads' HO160.out).2.1; have hC71 : Kd.C (Kd.int .u8) _ Ao72 y158.length y158 := (Kd.R_reads' HO160.out).2.2; have hcut71 := cut_to (P := Tryd.prog) 65 5 .i64 Tryd.underlying65 hi071 Ao72 y158.length co72 (ji65) (of_decide_eq_true (by first | (with_reducible assumption) | assumption)) q71 hroom71; have hr71 := Kd.C_take (m := ((ji65) : Int).toNat) hC71 (by omega); have hy71 : y161.length = ((ji65) : Int).toNat := (by rw [Ny161.out, List.length_take]; omega); rw [← Ny161.out] at hr71; rw [← hy71] at hcut71; have HR164 := Aside0.mk hr71; have HC164 := Aside0.mk (show y161.length ≤ co72 from by omega); clear hr71 hC71 hroom71 hi071 hsz71; have KY71 := Aside0.mk hy71; clear hy71; have KL71 := Aside0.mk (show ((ji65) : Int).toNat ≤ y158.length from by omega); replace q71 := eq_true q71) | ((with_reducible refine gate_builtin (b := .append) (xs := #[.tmp 89, .tmp 101]) rfl ?_); (try (refine gate_guard (by rfl) ?_; dsimp only)); at_builtin; refine Kd.R_append_rows (Kd.int .u8) (w0 := w) w.heap.size rfl (.tmp 89) (.tmp 101) 65 5 (.int .u8 0) 1 rfl Tryd.underlying65 info5 rfl (by decide) (by omega) u6 x6_2 y161 _ _ _ (fun k_ => some k_ ≠ (.slice Ao72 y158.length co72 : Value).ownBlock) (fun _ => False) rfl rfl ?aO ?aR (fun _ _ h => h) (fun _ h => h.elim) ?aF ?aB ?aS ?aL ?_; (case aR => repeat (first | exact (by repeat (first | (with_reducible exact HR164.out) | (with_reducible refine Kd.C_alloc ?_ _) | (with_reducible refine Kd.C_drewN ?_ _) | (with_reducible refine Kd.C_drew ?_) | exact HR164.out)) | (with_reducible refine Kd.C_alloc ?_ _) | (with_reducible refine Kd.C_drewN ?_ _) | (with_reducible refine Kd.C_drew ?_))); (case aB => exact (by repeat (first | (with_reducible first | exact HB.out | apply below_alloc | apply pw_below_drewN | apply below_drew1) | exact HB.out))); (case aF => exact (fun k_ hk => Kd.fresh' (Kd.R_lt (by (with_reducible repeat (first | apply Kd.R_alloc | apply Kd.R_drewN | apply Kd.R_drew)); exact HO160.out)) k_ hk)); (case aO => exact (by (with_reducible repeat (first | apply Kd.R_alloc | apply Kd.R_drewN | apply Kd.R_drew)); exact Kd.R_mono HO_6.out (fun _ hk => hk.2))); (case aS => exact (below_size (by repeat (first | (with_reducible first | exact HB.out | apply below_alloc | apply pw_below_drewN | apply below_drew1) | exact HB.out)))); (case aL => have := LMc68.out; omega); intro v166 w73 ho hb hg hat; rw [← Ny165.out] at ho; have n0_ := Aside0.mk (Kd.R_after (ok := (fun _ => True)) (by (with_reducible repeat (first | apply Kd.R_alloc | apply Kd.R_drewN | apply Kd.R_drew)); exact HO160.out) hg hat); have n1_ := Aside0.mk (hb); have n2_ := Aside0.mk ((show Kd.C (Kd.int .u8) w73 Ao72 y161.length y161 from by rw [Ny161.out]; exact Kd.C_take (m := ((ji65) : Int).toNat) ((Kd.R_reads' (Kd.R_after (ok := (fun _ => True)) (by (with_reducible repeat (first | apply Kd.R_alloc | apply Kd.R_drewN | apply Kd.R_drew)); exact HO160.out) hg hat)).2.2) KL71.out)); have n3_ := Aside0.mk (ho); clear HO160; clear HB; clear HR164; clear HO_6; have HO160 := n0_; have HB := n1_; have HR164 := n2_; have HO167 := n3_; clear n0_ n1_ n2_ n3_; clear ho hb hg hat))
                                    go_roundg k4
                                    case measure => have := HJ2.out; have := HK2.out; have := HJ13.out; have := HK4.out; omega
                                    case rel => exact ⟨(y165), (true), (wrap64 (x8_2 + 4)), (by first | rfl | (simp; done) | (simp [*]; done)), (by first | rfl | (simp; done) | (simp [*]; done)), H', ⟨by have := HJ2.out; have := HK2.out; have := HJ13.out; have := HK4.out; omega⟩, ⟨by (with_reducible repeat (first | apply Kd.R_alloc | apply Kd.R_drewN | apply Kd.R_drew)); exact Kd.R_mono HO167.out (fun _ hk => trivial)⟩, ⟨by repeat (first | (with_reducible first | exact HB.out | apply below_alloc | apply pw_below_drewN | apply below_drew1) | exact HB.out)⟩⟩
                                  · rw [if_neg c68] at H
                                    exact absurd H (by simp)
                                · rw [if_neg c67] at H
                                  exact absurd H (by simp)
                              · rw [if_neg c66] at H
                                exact absurd H (by simp)
                        · replace c24 := Bool.eq_false_iff.mpr c24
                          subst c24
                          have H1 : ((some (([(x9_4 / 65536) % 256, (x9_4 / 256) % 256, (x9_4) % 256] : List Int) : List Int)).bind fun y168 => (if 0 ≤ (wrap64 (x10_13 - 1)) then (if (wrap64 (x10_13 - 1)) ≤ (y168.length : Int) then ((some (y168.take ((wrap64 (x10_13 - 1)) : Int).toNat : List Int)).bind fun y171 => (if x6_2.length + y171.length < 140737488355328 then (spec_Decode.l1 k4 a0 x5_2 (x6_2 ++ y171) false (wrap64 (x8_2 + 4))) else (none))) else (none)) else (none))) = some (r1, r2, r3) := by rw [if_neg (show ¬ (false = true) by decide)] at H; exact H
                          clear H
                          have H := H1
                          clear H1
                          obtain ⟨y168, hy168⟩ : ∃ y_ : List Int, y_ = (([(x9_4 / 65536) % 256, (x9_4 / 256) % 256, (x9_4) % 256] : List Int)) := ⟨_, rfl⟩
                          replace H : (if 0 ≤ (wrap64 (x10_13 - 1)) then (if (wrap64 (x10_13 - 1)) ≤ (y168.length : Int) then ((some (y168.take ((wrap64 (x10_13 - 1)) : Int).toNat : List Int)).bind fun y171 => (if x6_2.length + y171.length < 140737488355328 then (spec_Decode.l1 k4 a0 x5_2 (x6_2 ++ y171) false (wrap64 (x8_2 + 4))) else (none))) else (none)) else (none)) = some (r1, r2, r3) := by first | (rw [hy168]; with_reducible exact H) | (have H2_ := (Option.bind_some _ _).symm.trans H; rw [hy168]; with_reducible exact H2_) | (have H2_ := (Option.bind_some _ _).symm.trans H; with_reducible exact H2_) | with_reducible exact H | (rw [hy168]; exact H) | exact H
                          have Ny168 := Aside0.mk hy168
                          clear hy168
                          obtain ⟨ji74, hji74⟩ : ∃ j_ : Int, (wrap64 (x10_13 - 1)) = j_ := ⟨_, rfl⟩
                          replace H : (if 0 ≤ (ji74) then (if (ji74) ≤ (y168.length : Int) then ((some (y168.take ((ji74) : Int).toNat : List Int)).bind fun y171 => (if x6_2.length + y171.length < 140737488355328 then (spec_Decode.l1 k4 a0 x5_2 (x6_2 ++ y171) false (wrap64 (x8_2 + 4))) else (none))) else (none)) else (none)) = some (r1, r2, r3) := by first | (rw [hji74] at H; exact H) | (simp only [hji74] at H ⊢; exact H)
                          have hji74w : (IntKind.i64.wrap (x10_13 - 1)) = ji74 := (i64_w _).trans hji74
                          by_cases c75 : 0 ≤ (ji74)
                          · rw [if_pos c75] at H
                            have c75b0 := eq_true c75
                            have c75b1 : decide (0 ≤ (ji74)) = true := decide_eq_true c75
                            clear c75
                            by_cases c76 : (ji74) ≤ (y168.length : Int)
                            · rw [if_pos c76] at H
                              have c76b0 := eq_true c76
                              have c76b1 : decide ((ji74) ≤ (y168.length : Int)) = true := decide_eq_true c76
                              clear c76
                              obtain ⟨y171, hy171⟩ : ∃ y_ : List Int, y_ = (y168.take ((ji74) : Int).toNat) := ⟨_, rfl⟩
                              replace H : (if x6_2.length + y171.length < 140737488355328 then (spec_Decode.l1 k4 a0 x5_2 (x6_2 ++ y171) false (wrap64 (x8_2 + 4))) else (none)) = some (r1, r2, r3) := by first | (rw [hy171]; with_reducible exact H) | (have H2_ := (Option.bind_some _ _).symm.trans H; rw [hy171]; with_reducible exact H2_) | (have H2_ := (Option.bind_some _ _).symm.trans H; with_reducible exact H2_) | with_reducible exact H | (rw [hy171]; exact H) | exact H
                              have Ny171 := Aside0.mk hy171
                              clear hy171
                              by_cases c77 : x6_2.length + y171.length < 140737488355328
                              · rw [if_pos c77] at H
                                have LMc77 := Aside0.mk c77
                                clear c77
                                obtain ⟨y175, hy175⟩ : ∃ y_ : List Int, y_ = (x6_2 ++ y171) := ⟨_, rfl⟩
                                replace H : (spec_Decode.l1 k4 a0 x5_2 y175 false (wrap64 (x8_2 + 4))) = some (r1, r2, r3) := by first | (rw [hy175]; with_reducible exact H) | (have H2_ := (Option.bind_some _ _).symm.trans H; rw [hy175]; with_reducible exact H2_) | (have H2_ := (Option.bind_some _ _).symm.trans H; with_reducible exact H2_) | with_reducible exact H | (rw [hy175]; exact H) | exact H
                                have Ny175 := Aside0.mk hy175
                                clear hy175
                                have H' := Aside0.mk H
                                clear H
                                go_wp2_with (first | ((with_reducible refine gate_dst (N := 98) rfl ?_); (try (refine gate_guard (by rfl) ?_; dsimp only)); refine Kd.R_lit (Kd.int .u8) _ 5 ?hg (N := 98) ?hd (xs := ([(x9_4 / 65536) % 256, (x9_4 / 256) % 256, (x9_4) % 256] : List Int)) (inner := [.int .u8 ((x9_4 / 65536) % 256), .int .u8 ((x9_4 / 256) % 256), .int .u8 ((x9_4) % 256)]) (ok := fun _ => True) (okp := fun _ => True) ?hr ?hp (fun _ hk => hk) trivial (Below.refl _ _) (Nat.le_refl _) (by simp) ?_; (case hd => rfl); (case hg => rfl); (case hr => first | (go_simp; done) | (go_simp; rfl)); (case hp => exact (Reps.one (show Kd.M (Kd.int .u8) _ _ _ ((x9_4 / 65536) % 256) [.int .u8 ((x9_4 / 65536) % 256)] from rfl) (Reps.one (show Kd.M (Kd.int .u8) _ _ _ ((x9_4 / 256) % 256) [.int .u8 ((x9_4 / 256) % 256)] from rfl) (Reps.one (show Kd.M (Kd.int .u8) _ _ _ ((x9_4) % 256) [.int .u8 ((x9_4) % 256)] from rfl) (Reps.none _ _))))); intro v169 w78 ho79 hb hg_ hnew_; clear hg_ hnew_; (first | rw [← Ny168.out] at ho79 | (simp only [Int.reduceToNat] at ho79; rw [← Ny168.out] at ho79)); have n0_ := Aside0.mk (Kd.R_elder' (by (with_reducible repeat (first | apply Kd.R_alloc | apply Kd.R_drewN | apply Kd.R_drew)); exact HO_6.out) (Kd.R_base ho79) hb); have n1_ := Aside0.mk (Kd.R_lower (Kd.R_new' ho79 (Kd.R_lt (by (with_reducible repeat (first | apply Kd.R_alloc | apply Kd.R_drewN | apply Kd.R_drew)); exact HO_6.out))) (below_size (by repeat (first | (with_reducible first | exact HB.out | apply below_alloc | apply pw_below_drewN | apply below_drew1) | exact HB.out)))); have n2_ := Aside0.mk (below_step (by repeat (first | (with_reducible first | exact HB.out | apply below_alloc | apply pw_below_drewN | apply below_drew1) | exact HB.out)) hb); clear HO_6; clear HB; have HO_6 := n0_; have HO170 := n1_; have HB := n2_; clear n0_ n1_ n2_; clear hb ho79; obtain ⟨Ao81, co81, eo81⟩ := Kd.R_slice HO170.out; subst eo81; have q80 : ((ji74) : Int) ≤ ((y168.length : Int) : Int) := of_decide_eq_true (by first | (with_reducible assumption) | assumption); obtain ⟨i080, hi080, _, hsz80, _⟩ := info_parts info5; have hroom80 : y168.length ≤ co81 := (Kd.R_reads' HO170.out).2.1; have hC80 : Kd.C (Kd.int .u8) _ Ao81 y168.length y168 := (Kd.R_reads' HO170.out).2.2; have hcut80 := cut_to (P := Tryd.prog) 65 5 .i64 Tryd.underlying65 hi080 Ao81 y168.length co81 (ji74) (of_decide_eq_true (by first | (with_reducible assumption) | assumption)) q80 hroom80; have hr80 := Kd.C_take (m := ((ji74) : Int).toNat) hC80 (by omega); have hy80 : y171.length = ((ji74) : Int).toNat := (by rw [Ny171.out, List.length_take]; omega); rw [← Ny171.out] at hr80; rw [← hy80] at hcut80; have HR174 := Aside0.mk hr80; have HC174 := Aside0.mk (show y171.length ≤ co81 from by omega); clear hr80 hC80 hroom80 hi080 hsz80; have KY80 := Aside0.mk hy80; clear hy80; have KL80 := Aside0.mk (show ((ji74) : Int).toNat ≤ y168.length from by omega); replace q80 := eq_true q80) | ((with_reducible refine gate_builtin (b := .append) (xs := #[.tmp 89, .tmp 101]) rfl ?_); (try (refine gate_guard (by rfl) ?_; dsimp only)); at_builtin; refine Kd.R_append_rows (Kd.int .u8) (w0 := w) w.heap.size rfl (.tmp 89) (.tmp 101) 65 5 (.int .u8 0) 1 rfl Tryd.underlying65 info5 rfl (by decide) (by omega) u6 x6_2 y171 _ _ _ (fun k_ => some k_ ≠ (.slice Ao81 y168.length co81 : Value).ownBlock) (fun _ => False) rfl rfl ?aO ?aR (fun _ _ h => h) (fun _ h => h.elim) ?aF ?aB ?aS ?aL ?_; (case aR => repeat (first | exact (by repeat (first | (with_reducible exact HR174.out) | (with_reducible refine Kd.C_alloc ?_ _) | (with_reducible refine Kd.C_drewN ?_ _) | (with_reducible refine Kd.C_drew ?_) | exact HR174.out)) | (with_reducible refine Kd.C_alloc ?_ _) | (with_reducible refine Kd.C_drewN ?_ _) | (with_reducible refine Kd.C_drew ?_))); (case aB => exact (by repeat (first | (with_reducible first | exact HB.out | apply below_alloc | apply pw_below_drewN | apply below_drew1) | exact HB.out))); (case aF => exact (fun k_ hk => Kd.fresh' (Kd.R_lt (by (with_reducible repeat (first | apply Kd.R_alloc | apply Kd.R_drewN | apply Kd.R_drew)); exact HO170.out)) k_ hk)); (case aO => exact (by (with_reducible repeat (first | apply Kd.R_alloc | apply Kd.R_drewN | apply Kd.R_drew)); exact Kd.R_mono HO_6.out (fun _ hk => hk.2))); (case aS => exact (below_size (by repeat (first | (with_reducible first | exact HB.out | apply below_alloc | apply pw_below_drewN | apply below_drew1) | exact HB.out)))); (case aL => have := LMc77.out; omega); intro v176 w82 ho hb hg hat; rw [← Ny175.out] at ho; have n0_ := Aside0.mk (Kd.R_after (ok := (fun _ => True)) (by (with_reducible repeat (first | apply Kd.R_alloc | apply Kd.R_drewN | apply Kd.R_drew)); exact HO170.out) hg hat); have n1_ := Aside0.mk (hb); have n2_ := Aside0.mk ((show Kd.C (Kd.int .u8) w82 Ao81 y171.length y171 from by rw [Ny171.out]; exact Kd.C_take (m := ((ji74) : Int).toNat) ((Kd.R_reads' (Kd.R_after (ok := (fun _ => True)) (by (with_reducible repeat (first | apply Kd.R_alloc | apply Kd.R_drewN | apply Kd.R_drew)); exact HO170.out) hg hat)).2.2) KL80.out)); have n3_ := Aside0.mk (ho); clear HO170; clear HB; clear HR174; clear HO_6; have HO170 := n0_; have HB := n1_; have HR174 := n2_; have HO177 := n3_; clear n0_ n1_ n2_ n3_; clear ho hb hg hat))
                                go_roundg k4
                                case measure => have := HJ2.out; have := HK2.out; have := HJ13.out; have := HK4.out; omega
                                case rel => exact ⟨(y175), (false), (wrap64 (x8_2 + 4)), (by first | rfl | (simp; done) | (simp [*]; done)), (by first | rfl | (simp; done) | (simp [*]; done)), H', ⟨by have := HJ2.out; have := HK2.out; have := HJ13.out; have := HK4.out; omega⟩, ⟨by (with_reducible repeat (first | apply Kd.R_alloc | apply Kd.R_drewN | apply Kd.R_drew)); exact Kd.R_mono HO177.out (fun _ hk => trivial)⟩, ⟨by repeat (first | (with_reducible first | exact HB.out | apply below_alloc | apply pw_below_drewN | apply below_drew1) | exact HB.out)⟩⟩
                              · rw [if_neg c77] at H
                                exact absurd H (by simp)
                            · rw [if_neg c76] at H
                              exact absurd H (by simp)
                          · rw [if_neg c75] at H
                            exact absurd H (by simp)
            · rw [if_neg c13] at H
              have c13b0 : decide (x8_2 < (a0.size : Int)) = false := decide_eq_false c13
              clear c13
              simp only [Option.some.injEq, Prod.mk.injEq] at H
              obtain ⟨rfl, rfl, rfl⟩ := H
              have hcv83 := own_string (P := Tryd.prog) Tryd.underlying65 Tryd.underlying5 Tryd.underlying9 (Kd.own_of_R HO_6.out)
              go_wp2
              go_ret3
              exact ⟨by first | rfl | (simp [errW_none, errW_some] <;> rfl) | (simp [*, errW_none, errW_some] <;> rfl), by repeat (first | (with_reducible first | exact HB.out | apply below_alloc | apply pw_below_drewN | apply below_drew1) | exact HB.out)⟩
  · rw [if_neg c2] at H
    have c2b0 : (((a0.size : Int) % 4) == 0) = false := beq_eq_false_iff_ne.mpr c2
    have c2b1 : (((a0.size : Int) % 4) != 0) = true := bne_iff_ne.mpr c2
    simp only [Option.some.injEq, Prod.mk.injEq] at H
    obtain ⟨rfl, rfl, rfl⟩ := H
    go_enter Tryd.func33, Tryd.ntmps33
    go_wp2
    go_ret3
    exact ⟨by first | rfl | (simp [errW_none, errW_some] <;> rfl) | (simp [*, errW_none, errW_some] <;> rfl), by repeat (first | (with_reducible first | exact HB.out | apply below_alloc | apply pw_below_drewN | apply below_drew1) | exact HB.out)⟩
end Go.Proofs.YtkbegfihdpiacaaDoor.PX
