/- Part 8 of the proof: what the theorem reaches of the texts PX8. -/
import Derived.Test.YtkbegfihdpiacaaDoorKS5

namespace Go.Proofs.YtkbegfihdpiacaaDoor.PX
open Go.RowKit Go.Proofs.YtkbegfihdpiacaaDoorW.PrintWords Go.Proofs.YtkbegfihdpiacaaDoorW.PrintLast Go.Proofs.YtkbegfihdpiacaaDoorW.PrintMore
attribute [local go_sem] max2_int min2_int max_two min_two max_three min_three max_four min_four   -- for this text's walks alone
set_option linter.unusedVariables false
set_option linter.unusedSimpArgs false
def bytealg_LastIndexByte.l0 : Nat → List Int → Int → Int → Option (Int)
  | 0, _, _, _ => none
  | k + 1, x0, x1, x5 => if x5 ≥ 0 then (if 0 ≤ x5 then (if x5 < (x0.length : Int) then (if (rd x0 x5) = x1 then (some x5) else (bytealg_LastIndexByte.l0 k x0 x1 (wrap64 (x5 - 1)))) else (none)) else (none)) else (some (-1))
def bytealg_LastIndexByte.f (k : Nat) (l0 : List Int) (a1 : Int) : Option (Int) := bytealg_LastIndexByte.l0 k l0 a1 (wrap64 ((l0.length : Int) - 1))
theorem bytealg_LastIndexByte.mono_l : ∀ k, (∀ y0 y1 y2, LeO (bytealg_LastIndexByte.l0 k y0 y1 y2) (bytealg_LastIndexByte.l0 (k + 1) y0 y1 y2))
  | 0 => fun _ _ _ r h => by simp [bytealg_LastIndexByte.l0] at h
  | k + 1 => by
    have ih0 := bytealg_LastIndexByte.mono_l k
    · intro y0 y1 y2
      unfold bytealg_LastIndexByte.l0
      repeat' first
      | (with_reducible exact ih0 _ _ _)
      | (with_reducible exact LeO.refl _)
      | (with_reducible exact LeO.none _)
      | (with_reducible refine LeO.ite ?_ ?_)
      | (with_reducible refine LeO.bind ?_ (fun _ => ?_))
      | exact ih0 _ _ _
      | exact LeO.none _
      | refine LeO.ite ?_ ?_
      | refine LeO.bind ?_ (fun _ => ?_)
theorem bytealg_LastIndexByte.mono : ∀ a0 a1 k, LeO (bytealg_LastIndexByte.f k a0 a1) (bytealg_LastIndexByte.f (k + 1) a0 a1) := by
  intro a0 a1 k
  have ih0 := bytealg_LastIndexByte.mono_l k
  unfold bytealg_LastIndexByte.f
  repeat' first
      | (with_reducible exact ih0 _ _ _)
      | (with_reducible exact LeO.refl _)
      | (with_reducible exact LeO.none _)
      | (with_reducible refine LeO.ite ?_ ?_)
      | (with_reducible refine LeO.bind ?_ (fun _ => ?_))
      | exact ih0 _ _ _
      | exact LeO.none _
      | refine LeO.ite ?_ ?_
      | refine LeO.bind ?_ (fun _ => ?_)
set_option maxHeartbeats 8000000 in
set_option maxRecDepth 100000 in
theorem bytealg_LastIndexByte.calls (k : Nat) (A0 : Option Addr) (c0 : Nat) (l0 : List Int) (a1 : Int) (r : Int) (w : World) (hr0 : Kd.C (Kd.int .u8) w A0 l0.length l0) (hc0 : l0.length ≤ c0) (h : bytealg_LastIndexByte.f k l0 a1 = some r) :
    Calls Tryd.prog 55 #[.slice A0 l0.length c0, .int .u8 a1] w fun e w' => e = .returned (.int .i64 r) ∧ Drawn0 w w' := by
  have HR0 := Aside0.mk hr0
  have HC0 := Aside0.mk hc0
  clear hr0 hc0
  have H : (bytealg_LastIndexByte.l0 k l0 a1 (wrap64 ((l0.length : Int) - 1))) = some r := h
  clear h
  have H' := Aside0.mk H
  clear H
  go_enter Tryd.func55, Tryd.ntmps55
  go_wp2
  go_loopg [5] k (fun kq v5 w' => ∃ (x5_1 : Int), v5 = .int .i64 x5_1 ∧ Aside0 (bytealg_LastIndexByte.l0 kq l0 a1 x5_1 = some r) ∧ Aside0 (kq ≤ k) ∧ Drawn0 w w')
  case atStart => exact ⟨(wrap64 ((l0.length : Int) - 1)), (by first | rfl | (simp; done) | (simp [*]; done)), H', ⟨Nat.le_refl _⟩, by repeat (first | exact Drawn0.refl _ | apply Drawn0.step)⟩
  case round =>
    clear H'
    try clear p2
    obtain ⟨x5_1, rfl, HA, HK1, ⟨m1, rfl⟩⟩ := hrel
    cases gk with
    | zero => exact absurd HA.out (by simp [bytealg_LastIndexByte.l0])
    | succ k1 =>
      have H := HA.out
      clear HA
      simp only [bytealg_LastIndexByte.l0] at H
      by_cases c3 : x5_1 ≥ 0
      · rw [if_pos c3] at H
        have c3b0 : decide (0 ≤ x5_1) = true := decide_eq_true c3
        clear c3
        by_cases c4 : 0 ≤ x5_1
        · rw [if_pos c4] at H
          have c4b0 : decide (0 ≤ x5_1) = true := decide_eq_true c4
          clear c4
          by_cases c5 : x5_1 < (l0.length : Int)
          · rw [if_pos c5] at H
            have c5b0 : decide (x5_1 < (l0.length : Int)) = true := decide_eq_true c5
            clear c5
            by_cases c6 : (rd l0 x5_1) = a1
            · rw [if_pos c6] at H
              have c6b0 : ((rd l0 x5_1) == a1) = true := beq_iff_eq.mpr c6
              have c6b1 : ((rd l0 x5_1) != a1) = false := bne_eq_false_iff_eq.mpr c6
              clear c6
              obtain rfl := Option.some.inj H
              have p241 : 0 ≤ (x5_1 : Int) := of_decide_eq_true (by first | (with_reducible assumption) | assumption)
              have q241 : x5_1 < (l0.length : Int) := of_decide_eq_true (by first | (with_reducible assumption) | assumption)
              obtain ⟨ad241, e241, hx241_0⟩ := Kd.at_int HR0.out x5_1 p241 q241
              cases e241
              replace p241 := eq_true p241
              replace q241 := eq_true q241
              go_wp2
              go_ret
              exact ⟨by first | rfl | (simp; done) | (simp [*]; done), by repeat (first | exact Drawn0.refl _ | apply Drawn0.step)⟩
            · rw [if_neg c6] at H
              have c6b0 : ((rd l0 x5_1) == a1) = false := beq_eq_false_iff_ne.mpr c6
              have c6b1 : ((rd l0 x5_1) != a1) = true := bne_iff_ne.mpr c6
              have H' := Aside0.mk H
              clear H
              have p241 : 0 ≤ (x5_1 : Int) := of_decide_eq_true (by first | (with_reducible assumption) | assumption)
              have q241 : x5_1 < (l0.length : Int) := of_decide_eq_true (by first | (with_reducible assumption) | assumption)
              obtain ⟨ad241, e241, hx241_0⟩ := Kd.at_int HR0.out x5_1 p241 q241
              cases e241
              replace p241 := eq_true p241
              replace q241 := eq_true q241
              go_wp2
              go_roundg k1
              case measure => have := HK1.out; omega
              case rel => exact ⟨(wrap64 (x5_1 - 1)), (by first | rfl | (simp; done) | (simp [*]; done)), H', ⟨by have := HK1.out; omega⟩, by repeat (first | exact Drawn0.refl _ | apply Drawn0.step)⟩
          · rw [if_neg c5] at H
            exact absurd H (by simp)
        · rw [if_neg c4] at H
          exact absurd H (by simp)
      · rw [if_neg c3] at H
        have c3b0 : decide (0 ≤ x5_1) = false := decide_eq_false c3
        clear c3
        obtain rfl := Option.some.inj H
        go_wp2
        go_ret
        exact ⟨by first | rfl | (simp; done) | (simp [*]; done), by repeat (first | exact Drawn0.refl _ | apply Drawn0.step)⟩
def bytes_Equal.f (l0 : List Int) (l1 : List Int) : Option (Bool) := some ((strOfNums l0).toList == (strOfNums l1).toList)
set_option maxHeartbeats 8000000 in
set_option maxRecDepth 100000 in
theorem bytes_Equal.calls (A0 : Option Addr) (c0 : Nat) (l0 : List Int) (A1 : Option Addr) (c1 : Nat) (l1 : List Int) (r : Bool) (w : World) (hr0 : Kd.C (Kd.int .u8) w A0 l0.length l0) (hc0 : l0.length ≤ c0) (hr1 : Kd.C (Kd.int .u8) w A1 l1.length l1) (hc1 : l1.length ≤ c1) (h : bytes_Equal.f l0 l1 = some r) :
    Calls Tryd.prog 56 #[.slice A0 l0.length c0, .slice A1 l1.length c1] w fun e w' => e = .returned (.bool r) ∧ Drawn0 w w' := by
  have HR0 := Aside0.mk hr0
  have HC0 := Aside0.mk hc0
  clear hr0 hc0
  have HR1 := Aside0.mk hr1
  have HC1 := Aside0.mk hc1
  clear hr1 hc1
  have H : (some ((strOfNums l0).toList == (strOfNums l1).toList)) = some r := h
  clear h
  obtain rfl := Option.some.inj H
  have hcv3 := Kd.C_string (P := Tryd.prog) (A := A0) (c := c0) Tryd.underlying65 Tryd.underlying5 Tryd.underlying9 HR0.out
  have hcv4 := Kd.C_string (P := Tryd.prog) (A := A1) (c := c1) Tryd.underlying65 Tryd.underlying5 Tryd.underlying9 HR1.out
  go_enter Tryd.func56, Tryd.ntmps56
  go_wp2
  go_ret
  exact ⟨by first | rfl | (simp; done) | (simp [*]; done), by repeat (first | exact Drawn0.refl _ | apply Drawn0.step)⟩
mutual
def bytealg_hashStrRev_byte.l0 : Nat → List Int → Int → Int → Option (Int × Int)
  | 0, _, _, _ => none
  | k + 1, x0, x4, x5 => if x5 ≥ 0 then (if 0 ≤ x5 then (if x5 < (x0.length : Int) then (bytealg_hashStrRev_byte.l0 k x0 ((((x4 * 16777619) % 4294967296) + ((rd x0 x5) % 4294967296)) % 4294967296) (wrap64 (x5 - 1))) else (none)) else (none)) else (bytealg_hashStrRev_byte.l1 k x4 1 16777619 (x0.length : Int))
def bytealg_hashStrRev_byte.l1 : Nat → Int → Int → Int → Int → Option (Int × Int)
  | 0, _, _, _, _ => none
  | k + 1, x4, x6, x7, x8 => if x8 > 0 then (if (Go.bits .and .i64 x8 1) = 0 then (bytealg_hashStrRev_byte.l1 k x4 x6 ((x7 * x7) % 4294967296) (x8 / 2)) else (bytealg_hashStrRev_byte.l1 k x4 ((x6 * x7) % 4294967296) ((x7 * x7) % 4294967296) (x8 / 2))) else (some (x4, x6))
end
def bytealg_hashStrRev_byte.f (k : Nat) (l0 : List Int) : Option (Int × Int) := bytealg_hashStrRev_byte.l0 k l0 0 (wrap64 ((l0.length : Int) - 1))
theorem bytealg_hashStrRev_byte.mono_l : ∀ k, (∀ y0 y1 y2, LeO (bytealg_hashStrRev_byte.l0 k y0 y1 y2) (bytealg_hashStrRev_byte.l0 (k + 1) y0 y1 y2)) ∧ (∀ y0 y1 y2 y3, LeO (bytealg_hashStrRev_byte.l1 k y0 y1 y2 y3) (bytealg_hashStrRev_byte.l1 (k + 1) y0 y1 y2 y3))
  | 0 => ⟨fun _ _ _ r h => by simp [bytealg_hashStrRev_byte.l0] at h, fun _ _ _ _ r h => by simp [bytealg_hashStrRev_byte.l1] at h⟩
  | k + 1 => by
    obtain ⟨ih0, ih1⟩ := bytealg_hashStrRev_byte.mono_l k
    refine ⟨?_, ?_⟩
    · intro y0 y1 y2
      unfold bytealg_hashStrRev_byte.l0
      repeat' first
      | (with_reducible exact ih0 _ _ _)
      | (with_reducible exact ih1 _ _ _ _)
      | (with_reducible exact LeO.refl _)
      | (with_reducible exact LeO.none _)
      | (with_reducible refine LeO.ite ?_ ?_)
      | (with_reducible refine LeO.bind ?_ (fun _ => ?_))
      | exact ih0 _ _ _
      | exact ih1 _ _ _ _
      | exact LeO.none _
      | refine LeO.ite ?_ ?_
      | refine LeO.bind ?_ (fun _ => ?_)
    · intro y0 y1 y2 y3
      unfold bytealg_hashStrRev_byte.l1
      repeat' first
      | (with_reducible exact ih0 _ _ _)
      | (with_reducible exact ih1 _ _ _ _)
      | (with_reducible exact LeO.refl _)
      | (with_reducible exact LeO.none _)
      | (with_reducible refine LeO.ite ?_ ?_)
      | (with_reducible refine LeO.bind ?_ (fun _ => ?_))
      | exact ih0 _ _ _
      | exact ih1 _ _ _ _
      | exact LeO.none _
      | refine LeO.ite ?_ ?_
      | refine LeO.bind ?_ (fun _ => ?_)
theorem bytealg_hashStrRev_byte.mono : ∀ a0 k, LeO (bytealg_hashStrRev_byte.f k a0) (bytealg_hashStrRev_byte.f (k + 1) a0) := by
  intro a0 k
  obtain ⟨ih0, ih1⟩ := bytealg_hashStrRev_byte.mono_l k
  unfold bytealg_hashStrRev_byte.f
  repeat' first
      | (with_reducible exact ih0 _ _ _)
      | (with_reducible exact ih1 _ _ _ _)
      | (with_reducible exact LeO.refl _)
      | (with_reducible exact LeO.none _)
      | (with_reducible refine LeO.ite ?_ ?_)
      | (with_reducible refine LeO.bind ?_ (fun _ => ?_))
      | exact ih0 _ _ _
      | exact ih1 _ _ _ _
      | exact LeO.none _
      | refine LeO.ite ?_ ?_
      | refine LeO.bind ?_ (fun _ => ?_)
set_option maxHeartbeats 8000000 in
set_option maxRecDepth 100000 in
theorem bytealg_hashStrRev_byte.calls (k : Nat) (A0 : Option Addr) (c0 : Nat) (l0 : List Int) (r1 : Int) (r2 : Int) (w : World) (hr0 : Kd.C (Kd.int .u8) w A0 l0.length l0) (hc0 : l0.length ≤ c0) (h : bytealg_hashStrRev_byte.f k l0 = some (r1, r2)) :
    Calls Tryd.prog 72 #[.slice A0 l0.length c0] w fun e w' => e = .returned (.tuple #[.int .u32 r1, .int .u32 r2]) ∧ Drawn0 w w' := by
  have HR0 := Aside0.mk hr0
  have HC0 := Aside0.mk hc0
  clear hr0 hc0
  have H : (bytealg_hashStrRev_byte.l0 k l0 0 (wrap64 ((l0.length : Int) - 1))) = some (r1, r2) := h
  clear h
  have H' := Aside0.mk H
  clear H
  go_enter Tryd.func72, Tryd.ntmps72
  go_wp2
  go_loopg [4, 5] k (fun kq v4 v5 w' => ∃ (x4_1 : Int) (x5_1 : Int), v4 = .int .u32 x4_1 ∧ v5 = .int .i64 x5_1 ∧ Aside0 (bytealg_hashStrRev_byte.l0 kq l0 x4_1 x5_1 = some (r1, r2)) ∧ Aside0 (kq ≤ k) ∧ Drawn0 w w')
  case atStart => exact ⟨(0), (wrap64 ((l0.length : Int) - 1)), (by first | rfl | (simp; done) | (simp [*]; done)), (by first | rfl | (simp; done) | (simp [*]; done)), H', ⟨Nat.le_refl _⟩, by repeat (first | exact Drawn0.refl _ | apply Drawn0.step)⟩
  case round =>
    clear H'
    obtain ⟨x4_1, x5_1, rfl, rfl, HA, HK1, ⟨m1, rfl⟩⟩ := hrel
    cases gk with
    | zero => exact absurd HA.out (by simp [bytealg_hashStrRev_byte.l0])
    | succ k1 =>
      have H := HA.out
      clear HA
      simp only [bytealg_hashStrRev_byte.l0] at H
      by_cases c2 : x5_1 ≥ 0
      · rw [if_pos c2] at H
        have c2b0 : decide (0 ≤ x5_1) = true := decide_eq_true c2
        clear c2
        by_cases c3 : 0 ≤ x5_1
        · rw [if_pos c3] at H
          have c3b0 : decide (0 ≤ x5_1) = true := decide_eq_true c3
          clear c3
          by_cases c4 : x5_1 < (l0.length : Int)
          · rw [if_pos c4] at H
            have c4b0 : decide (x5_1 < (l0.length : Int)) = true := decide_eq_true c4
            clear c4
            have H' := Aside0.mk H
            clear H
            have p242 : 0 ≤ (x5_1 : Int) := of_decide_eq_true (by first | (with_reducible assumption) | assumption)
            have q242 : x5_1 < (l0.length : Int) := of_decide_eq_true (by first | (with_reducible assumption) | assumption)
            obtain ⟨ad242, e242, hx242_0⟩ := Kd.at_int HR0.out x5_1 p242 q242
            cases e242
            replace p242 := eq_true p242
            replace q242 := eq_true q242
            go_wp2
            go_roundg k1
            case measure => have := HK1.out; omega
            case rel => exact ⟨((((x4_1 * 16777619) % 4294967296) + ((rd l0 x5_1) % 4294967296)) % 4294967296), (wrap64 (x5_1 - 1)), (by first | rfl | (simp; done) | (simp [*]; done)), (by first | rfl | (simp; done) | (simp [*]; done)), H', ⟨by have := HK1.out; omega⟩, by repeat (first | exact Drawn0.refl _ | apply Drawn0.step)⟩
          · rw [if_neg c4] at H
            exact absurd H (by simp)
        · rw [if_neg c3] at H
          exact absurd H (by simp)
      · rw [if_neg c2] at H
        have c2b0 : decide (0 ≤ x5_1) = false := decide_eq_false c2
        clear c2
        have H' := Aside0.mk H
        clear H
        go_wp2
        go_loopg [6, 7, 8] k1 (fun kq v6 v7 v8 w' => ∃ (x6_2 : Int) (x7_2 : Int) (x8_2 : Int), v6 = .int .u32 x6_2 ∧ v7 = .int .u32 x7_2 ∧ v8 = .int .i64 x8_2 ∧ Aside0 (bytealg_hashStrRev_byte.l1 kq x4_1 x6_2 x7_2 x8_2 = some (r1, r2)) ∧ Aside0 (kq ≤ k1) ∧ Drawn0 w w')
        case atStart => exact ⟨(1), (16777619), ((l0.length : Int)), (by first | rfl | (simp; done) | (simp [*]; done)), (by first | rfl | (simp; done) | (simp [*]; done)), (by first | rfl | (simp; done) | (simp [*]; done)), H', ⟨Nat.le_refl _⟩, by repeat (first | exact Drawn0.refl _ | apply Drawn0.step)⟩
        case round =>
          clear H'
          try clear c2
          try clear c2b0
          try clear p2
          try clear q2
          try clear hx2
          try clear c3
          try clear c3b0
          try clear c4
          try clear c4b0
          try clear hx242_0
          try clear p242
          try clear q242
          obtain ⟨x6_2, x7_2, x8_2, rfl, rfl, rfl, HA, HK2, ⟨m2, rfl⟩⟩ := hrel
          cases gk with
          | zero => exact absurd HA.out (by simp [bytealg_hashStrRev_byte.l1])
          | succ k2 =>
            have H := HA.out
            clear HA
            simp only [bytealg_hashStrRev_byte.l1] at H
            by_cases c5 : x8_2 > 0
            · rw [if_pos c5] at H
              have c5b0 : decide (0 < x8_2) = true := decide_eq_true c5
              clear c5
              by_cases c6 : (Go.bits .and .i64 x8_2 1) = 0
              · rw [if_pos c6] at H
                have c6b0 : ((Go.bits .and .i64 x8_2 1) == 0) = true := beq_iff_eq.mpr c6
                have c6b1 : ((Go.bits .and .i64 x8_2 1) != 0) = false := bne_eq_false_iff_eq.mpr c6
                clear c6
                have H' := Aside0.mk H
                clear H
                go_wp2
                go_roundg k2
                case measure => have := HK1.out; have := HK2.out; omega
                case rel => exact ⟨(x6_2), ((x7_2 * x7_2) % 4294967296), (x8_2 / 2), (by first | rfl | (simp; done) | (simp [*]; done)), (by first | rfl | (simp; done) | (simp [*]; done)), (by first | rfl | (simp; done) | (simp [*]; done)), H', ⟨by have := HK1.out; have := HK2.out; omega⟩, by repeat (first | exact Drawn0.refl _ | apply Drawn0.step)⟩
              · rw [if_neg c6] at H
                have c6b0 : ((Go.bits .and .i64 x8_2 1) == 0) = false := beq_eq_false_iff_ne.mpr c6
                have c6b1 : ((Go.bits .and .i64 x8_2 1) != 0) = true := bne_iff_ne.mpr c6
                have H' := Aside0.mk H
                clear H
                go_wp2
                go_roundg k2
                case measure => have := HK1.out; have := HK2.out; omega
                case rel => exact ⟨((x6_2 * x7_2) % 4294967296), ((x7_2 * x7_2) % 4294967296), (x8_2 / 2), (by first | rfl | (simp; done) | (simp [*]; done)), (by first | rfl | (simp; done) | (simp [*]; done)), (by first | rfl | (simp; done) | (simp [*]; done)), H', ⟨by have := HK1.out; have := HK2.out; omega⟩, by repeat (first | exact Drawn0.refl _ | apply Drawn0.step)⟩
            · rw [if_neg c5] at H
              have c5b0 : decide (0 < x8_2) = false := decide_eq_false c5
              clear c5
              simp only [Option.some.injEq, Prod.mk.injEq] at H
              obtain ⟨rfl, rfl⟩ := H
              go_wp2
              go_ret2
              exact ⟨by first | rfl | (simp; done) | (simp [*]; done), by repeat (first | exact Drawn0.refl _ | apply Drawn0.step)⟩
def sumdbnote_zzIndex.l0 : Nat → ByteArray → ByteArray → Int → Option (Int)
  | 0, _, _, _ => none
  | k + 1, x0, x1, x5 => if (wrap64 (x5 + (x1.size : Int))) ≤ (x0.size : Int) then (if 0 ≤ x5 then (if x5 ≤ (wrap64 (x5 + (x1.size : Int))) then (if (x0.extract (x5 : Int).toNat ((wrap64 (x5 + (x1.size : Int))) : Int).toNat).toList = x1.toList then (some x5) else (sumdbnote_zzIndex.l0 k x0 x1 (wrap64 (x5 + 1)))) else (none)) else (none)) else (some (-1))
def sumdbnote_zzIndex.f (k : Nat) (a0 : ByteArray) (a1 : ByteArray) : Option (Int) := sumdbnote_zzIndex.l0 k a0 a1 0
theorem sumdbnote_zzIndex.mono_l : ∀ k, (∀ y0 y1 y2, LeO (sumdbnote_zzIndex.l0 k y0 y1 y2) (sumdbnote_zzIndex.l0 (k + 1) y0 y1 y2))
  | 0 => fun _ _ _ r h => by simp [sumdbnote_zzIndex.l0] at h
  | k + 1 => by
    have ih0 := sumdbnote_zzIndex.mono_l k
    · intro y0 y1 y2
      unfold sumdbnote_zzIndex.l0
      repeat' first
      | (with_reducible exact ih0 _ _ _)
      | (with_reducible exact LeO.refl _)
      | (with_reducible exact LeO.none _)
      | (with_reducible refine LeO.ite ?_ ?_)
      | (with_reducible refine LeO.bind ?_ (fun _ => ?_))
      | exact ih0 _ _ _
      | exact LeO.none _
      | refine LeO.ite ?_ ?_
      | refine LeO.bind ?_ (fun _ => ?_)
theorem sumdbnote_zzIndex.mono : ∀ a0 a1 k, LeO (sumdbnote_zzIndex.f k a0 a1) (sumdbnote_zzIndex.f (k + 1) a0 a1) := by
  intro a0 a1 k
  have ih0 := sumdbnote_zzIndex.mono_l k
  unfold sumdbnote_zzIndex.f
  repeat' first
      | (with_reducible exact ih0 _ _ _)
      | (with_reducible exact LeO.refl _)
      | (with_reducible exact LeO.none _)
      | (with_reducible refine LeO.ite ?_ ?_)
      | (with_reducible refine LeO.bind ?_ (fun _ => ?_))
      | exact ih0 _ _ _
      | exact LeO.none _
      | refine LeO.ite ?_ ?_
      | refine LeO.bind ?_ (fun _ => ?_)
set_option maxHeartbeats 8000000 in
set_option maxRecDepth 100000 in
theorem sumdbnote_zzIndex.calls (k : Nat) (a0 : ByteArray) (a1 : ByteArray) (r : Int) (w : World) (h : sumdbnote_zzIndex.f k a0 a1 = some r) :
    Calls Tryd.prog 59 #[.string a0, .string a1] w fun e w' => e = .returned (.int .i64 r) ∧ Drawn0 w w' := by
  have H : (sumdbnote_zzIndex.l0 k a0 a1 0) = some r := h
  clear h
  have H' := Aside0.mk H
  clear H
  go_enter Tryd.func59, Tryd.ntmps59
  go_wp2
  go_loopg [5] k (fun kq v5 w' => ∃ (x5_1 : Int), v5 = .int .i64 x5_1 ∧ Aside0 (sumdbnote_zzIndex.l0 kq a0 a1 x5_1 = some r) ∧ Aside0 (kq ≤ k) ∧ Drawn0 w w')
  case atStart => exact ⟨(0), (by first | rfl | (simp; done) | (simp [*]; done)), H', ⟨Nat.le_refl _⟩, by repeat (first | exact Drawn0.refl _ | apply Drawn0.step)⟩
  case round =>
    clear H'
    try clear p2
    obtain ⟨x5_1, rfl, HA, HK1, ⟨m1, rfl⟩⟩ := hrel
    cases gk with
    | zero => exact absurd HA.out (by simp [sumdbnote_zzIndex.l0])
    | succ k1 =>
      have H := HA.out
      clear HA
      simp only [sumdbnote_zzIndex.l0] at H
      by_cases c3 : (wrap64 (x5_1 + (a1.size : Int))) ≤ (a0.size : Int)
      · rw [if_pos c3] at H
        have c3b0 : decide ((wrap64 (x5_1 + (a1.size : Int))) ≤ (a0.size : Int)) = true := decide_eq_true c3
        clear c3
        by_cases c4 : 0 ≤ x5_1
        · rw [if_pos c4] at H
          have c4b0 := eq_true c4
          have c4b1 : decide (0 ≤ x5_1) = true := decide_eq_true c4
          clear c4
          by_cases c5 : x5_1 ≤ (wrap64 (x5_1 + (a1.size : Int)))
          · rw [if_pos c5] at H
            have c5b0 := eq_true c5
            have c5b1 : decide (x5_1 ≤ (wrap64 (x5_1 + (a1.size : Int)))) = true := decide_eq_true c5
            have c6b0 := eq_true (of_decide_eq_true (by first | (with_reducible assumption) | assumption) : (wrap64 (x5_1 + (a1.size : Int))) ≤ (a0.size : Int))
            by_cases c7 : (a0.extract (x5_1 : Int).toNat ((wrap64 (x5_1 + (a1.size : Int))) : Int).toNat).toList = a1.toList
            · rw [if_pos c7] at H
              have c7b0 : ((a0.extract (x5_1 : Int).toNat ((wrap64 (x5_1 + (a1.size : Int))) : Int).toNat).toList == a1.toList) = true := beq_iff_eq.mpr c7
              have c7b1 : ((a0.extract (x5_1 : Int).toNat ((wrap64 (x5_1 + (a1.size : Int))) : Int).toNat).toList != a1.toList) = false := bne_eq_false_iff_eq.mpr c7
              clear c7
              obtain rfl := Option.some.inj H
              go_wp2
              go_ret
              exact ⟨by first | rfl | (simp; done) | (simp [*]; done), by repeat (first | exact Drawn0.refl _ | apply Drawn0.step)⟩
            · rw [if_neg c7] at H
              have c7b0 : ((a0.extract (x5_1 : Int).toNat ((wrap64 (x5_1 + (a1.size : Int))) : Int).toNat).toList == a1.toList) = false := beq_eq_false_iff_ne.mpr c7
              have c7b1 : ((a0.extract (x5_1 : Int).toNat ((wrap64 (x5_1 + (a1.size : Int))) : Int).toNat).toList != a1.toList) = true := bne_iff_ne.mpr c7
              have H' := Aside0.mk H
              clear H
              go_wp2
              go_roundg k1
              case measure => have := HK1.out; omega
              case rel => exact ⟨(wrap64 (x5_1 + 1)), (by first | rfl | (simp; done) | (simp [*]; done)), H', ⟨by have := HK1.out; omega⟩, by repeat (first | exact Drawn0.refl _ | apply Drawn0.step)⟩
          · rw [if_neg c5] at H
            exact absurd H (by simp)
        · rw [if_neg c4] at H
          exact absurd H (by simp)
      · rw [if_neg c3] at H
        have c3b0 : decide ((wrap64 (x5_1 + (a1.size : Int))) ≤ (a0.size : Int)) = false := decide_eq_false c3
        clear c3
        obtain rfl := Option.some.inj H
        go_wp2
        go_ret
        exact ⟨by first | rfl | (simp; done) | (simp [*]; done), by repeat (first | exact Drawn0.refl _ | apply Drawn0.step)⟩
def sumdbnote_zzCut.f (k : Nat) (a0 : ByteArray) (a1 : ByteArray) : Option (ByteArray × ByteArray × Bool) := (sumdbnote_zzIndex.f k a0 a1).bind fun t246 => (if t246 ≥ 0 then (if 0 ≤ t246 then (if t246 ≤ (a0.size : Int) then (if 0 ≤ (wrap64 (t246 + (a1.size : Int))) then (if (wrap64 (t246 + (a1.size : Int))) ≤ (a0.size : Int) then (some (a0.extract 0 (t246 : Int).toNat, a0.extract ((wrap64 (t246 + (a1.size : Int))) : Int).toNat a0.size, true)) else (none)) else (none)) else (none)) else (none)) else (some (a0, (⟨#[]⟩ : ByteArray), false)))
theorem sumdbnote_zzCut.mono : ∀ a0 a1 k, LeO (sumdbnote_zzCut.f k a0 a1) (sumdbnote_zzCut.f (k + 1) a0 a1) := by
  intro a0 a1 k
  unfold sumdbnote_zzCut.f
  repeat' first
      | (with_reducible exact sumdbnote_zzIndex.mono _ _ _)
      | (with_reducible exact LeO.refl _)
      | (with_reducible exact LeO.none _)
      | (with_reducible refine LeO.ite ?_ ?_)
      | (with_reducible refine LeO.bind ?_ (fun _ => ?_))
      | exact sumdbnote_zzIndex.mono _ _ _
      | exact LeO.none _
      | refine LeO.ite ?_ ?_
      | refine LeO.bind ?_ (fun _ => ?_)
set_option maxHeartbeats 8000000 in
set_option maxRecDepth 100000 in
theorem sumdbnote_zzCut.calls (k : Nat) (a0 : ByteArray) (a1 : ByteArray) (r1 : ByteArray) (r2 : ByteArray) (r3 : Bool) (w : World) (h : sumdbnote_zzCut.f k a0 a1 = some (r1, r2, r3)) :
    Calls Tryd.prog 40 #[.string a0, .string a1] w fun e w' => e = .returned (.tuple #[.string r1, .string r2, .bool r3]) ∧ Drawn0 w w' := by
  have H : ((sumdbnote_zzIndex.f k a0 a1).bind fun t246 => (if t246 ≥ 0 then (if 0 ≤ t246 then (if t246 ≤ (a0.size : Int) then (if 0 ≤ (wrap64 (t246 + (a1.size : Int))) then (if (wrap64 (t246 + (a1.size : Int))) ≤ (a0.size : Int) then (some (a0.extract 0 (t246 : Int).toNat, a0.extract ((wrap64 (t246 + (a1.size : Int))) : Int).toNat a0.size, true)) else (none)) else (none)) else (none)) else (none)) else (some (a0, (⟨#[]⟩ : ByteArray), false)))) = some (r1, r2, r3) := h
  clear h
  replace H := Option.bind_eq_some_iff.mp H
  obtain ⟨t246, A30, H⟩ := H
  replace H : (if t246 ≥ 0 then (if 0 ≤ t246 then (if t246 ≤ (a0.size : Int) then (if 0 ≤ (wrap64 (t246 + (a1.size : Int))) then (if (wrap64 (t246 + (a1.size : Int))) ≤ (a0.size : Int) then (some (a0.extract 0 (t246 : Int).toNat, a0.extract ((wrap64 (t246 + (a1.size : Int))) : Int).toNat a0.size, true)) else (none)) else (none)) else (none)) else (none)) else (some (a0, (⟨#[]⟩ : ByteArray), false))) = some (r1, r2, r3) := H
  have A3 := Aside0.mk A30
  clear A30
  by_cases c4 : t246 ≥ 0
  · rw [if_pos c4] at H
    have c4b0 : decide (0 ≤ t246) = true := decide_eq_true c4
    clear c4
    by_cases c5 : 0 ≤ t246
    · rw [if_pos c5] at H
      have c5b0 := eq_true c5
      have c5b1 : decide (0 ≤ t246) = true := decide_eq_true c5
      clear c5
      by_cases c6 : t246 ≤ (a0.size : Int)
      · rw [if_pos c6] at H
        have c6b0 := eq_true c6
        have c6b1 : decide (t246 ≤ (a0.size : Int)) = true := decide_eq_true c6
        clear c6
        obtain ⟨ji7, hji7⟩ : ∃ j_ : Int, (wrap64 (t246 + (a1.size : Int))) = j_ := ⟨_, rfl⟩
        replace H : (if 0 ≤ (ji7) then (if (ji7) ≤ (a0.size : Int) then (some (a0.extract 0 (t246 : Int).toNat, a0.extract ((ji7) : Int).toNat a0.size, true)) else (none)) else (none)) = some (r1, r2, r3) := by first | (rw [hji7] at H; exact H) | (simp only [hji7] at H ⊢; exact H)
        (try rw [hji7] at A3)
        have hji7w : (IntKind.i64.wrap (t246 + (a1.size : Int))) = ji7 := (i64_w _).trans hji7
        by_cases c8 : 0 ≤ (ji7)
        · rw [if_pos c8] at H
          have c8b0 := eq_true c8
          have c8b1 : decide (0 ≤ (ji7)) = true := decide_eq_true c8
          clear c8
          by_cases c9 : (ji7) ≤ (a0.size : Int)
          · rw [if_pos c9] at H
            have c9b0 := eq_true c9
            have c9b1 : decide ((ji7) ≤ (a0.size : Int)) = true := decide_eq_true c9
            clear c9
            simp only [Option.some.injEq, Prod.mk.injEq] at H
            obtain ⟨rfl, rfl, rfl⟩ := H
            go_enter Tryd.func40, Tryd.ntmps40
            go_wp2_with (first | (go_at_call 59; (with_reducible refine (sumdbnote_zzIndex.calls k a0 a1 t246 _ A3.out).mono ?_); rintro e w' ⟨rfl, ⟨nd, rfl⟩⟩; (try first | exact ⟨rfl, _, World.drewN_drewN _ _ _⟩ | exact ⟨rfl, _, Eq.trans (World.drewN_drewN _ _ _) (congrArg (World.drewN _) (Nat.add_assoc _ _ _))⟩)))
            repeat (go_quiet (first | (go_at_call 59; (with_reducible refine (sumdbnote_zzIndex.calls k a0 a1 t246 _ A3.out).mono ?_); rintro e w' ⟨rfl, ⟨nd, rfl⟩⟩; (try first | exact ⟨rfl, _, World.drewN_drewN _ _ _⟩ | exact ⟨rfl, _, Eq.trans (World.drewN_drewN _ _ _) (congrArg (World.drewN _) (Nat.add_assoc _ _ _))⟩))); try go_wp2_with (first | (go_at_call 59; (with_reducible refine (sumdbnote_zzIndex.calls k a0 a1 t246 _ A3.out).mono ?_); rintro e w' ⟨rfl, ⟨nd, rfl⟩⟩; (try first | exact ⟨rfl, _, World.drewN_drewN _ _ _⟩ | exact ⟨rfl, _, Eq.trans (World.drewN_drewN _ _ _) (congrArg (World.drewN _) (Nat.add_assoc _ _ _))⟩))))
            go_ret3
            exact ⟨by first | rfl | (simp; done) | (simp only [← hji7] <;> (first | rfl | simp)) | (simp [*]; done), by repeat (first | exact Drawn0.refl _ | apply Drawn0.step)⟩
          · rw [if_neg c9] at H
            exact absurd H (by simp)
        · rw [if_neg c8] at H
          exact absurd H (by simp)
      · rw [if_neg c6] at H
        exact absurd H (by simp)
    · rw [if_neg c5] at H
      exact absurd H (by simp)
  · rw [if_neg c4] at H
    have c4b0 : decide (0 ≤ t246) = false := decide_eq_false c4
    clear c4
    simp only [Option.some.injEq, Prod.mk.injEq] at H
    obtain ⟨rfl, rfl, rfl⟩ := H
    go_enter Tryd.func40, Tryd.ntmps40
    go_wp2_with (first | (go_at_call 59; (with_reducible refine (sumdbnote_zzIndex.calls k a0 a1 t246 _ A3.out).mono ?_); rintro e w' ⟨rfl, ⟨nd, rfl⟩⟩; (try first | exact ⟨rfl, _, World.drewN_drewN _ _ _⟩ | exact ⟨rfl, _, Eq.trans (World.drewN_drewN _ _ _) (congrArg (World.drewN _) (Nat.add_assoc _ _ _))⟩)))
    repeat (go_quiet (first | (go_at_call 59; (with_reducible refine (sumdbnote_zzIndex.calls k a0 a1 t246 _ A3.out).mono ?_); rintro e w' ⟨rfl, ⟨nd, rfl⟩⟩; (try first | exact ⟨rfl, _, World.drewN_drewN _ _ _⟩ | exact ⟨rfl, _, Eq.trans (World.drewN_drewN _ _ _) (congrArg (World.drewN _) (Nat.add_assoc _ _ _))⟩))); try go_wp2_with (first | (go_at_call 59; (with_reducible refine (sumdbnote_zzIndex.calls k a0 a1 t246 _ A3.out).mono ?_); rintro e w' ⟨rfl, ⟨nd, rfl⟩⟩; (try first | exact ⟨rfl, _, World.drewN_drewN _ _ _⟩ | exact ⟨rfl, _, Eq.trans (World.drewN_drewN _ _ _) (congrArg (World.drewN _) (Nat.add_assoc _ _ _))⟩))))
    go_ret3
    exact ⟨by first | rfl | (simp; done) | (simp [*]; done), by repeat (first | exact Drawn0.refl _ | apply Drawn0.step)⟩
def base64_decodedLen.f (a0 : Int) (a1 : Int) : Option (Int) := if a1 = (-1) then (some (wrap64 ((wrap64 ((wrap64 (Int.tdiv a0 4)) * 3)) + (wrap64 (Int.tdiv (wrap64 ((Int.tmod a0 4) * 6)) 8))))) else (some (wrap64 ((wrap64 (Int.tdiv a0 4)) * 3)))
set_option maxHeartbeats 8000000 in
set_option maxRecDepth 100000 in
theorem base64_decodedLen.calls (a0 : Int) (a1 : Int) (r : Int) (w : World) (h : base64_decodedLen.f a0 a1 = some r) :
    Calls Tryd.prog 73 #[.int .i64 a0, .int .i32 a1] w fun e w' => e = .returned (.int .i64 r) ∧ Drawn0 w w' := by
  have H : (if a1 = (-1) then (some (wrap64 ((wrap64 ((wrap64 (Int.tdiv a0 4)) * 3)) + (wrap64 (Int.tdiv (wrap64 ((Int.tmod a0 4) * 6)) 8))))) else (some (wrap64 ((wrap64 (Int.tdiv a0 4)) * 3)))) = some r := h
  clear h
  by_cases c3 : a1 = (-1)
  · rw [if_pos c3] at H
    have c3b0 : (a1 == (-1)) = true := beq_iff_eq.mpr c3
    have c3b1 : (a1 != (-1)) = false := bne_eq_false_iff_eq.mpr c3
    clear c3
    obtain rfl := Option.some.inj H
    go_enter Tryd.func73, Tryd.ntmps73
    go_wp2
    go_ret
    exact ⟨by first | rfl | (simp; done) | (simp [*]; done), by repeat (first | exact Drawn0.refl _ | apply Drawn0.step)⟩
  · rw [if_neg c3] at H
    have c3b0 : (a1 == (-1)) = false := beq_eq_false_iff_ne.mpr c3
    have c3b1 : (a1 != (-1)) = true := bne_iff_ne.mpr c3
    obtain rfl := Option.some.inj H
    go_enter Tryd.func73, Tryd.ntmps73
    go_wp2
    go_ret
    exact ⟨by first | rfl | (simp; done) | (simp [*]; done), by repeat (first | exact Drawn0.refl _ | apply Drawn0.step)⟩
def base64_assemble64.f (a0 : Int) (a1 : Int) (a2 : Int) (a3 : Int) (a4 : Int) (a5 : Int) (a6 : Int) (a7 : Int) : Option (Int × Bool) := if (Go.bits .or .u8 (Go.bits .or .u8 (Go.bits .or .u8 (Go.bits .or .u8 (Go.bits .or .u8 (Go.bits .or .u8 (Go.bits .or .u8 a0 a1) a2) a3) a4) a5) a6) a7) = 255 then (some (0, false)) else (some (Go.bits .or .u64 (Go.bits .or .u64 (Go.bits .or .u64 (Go.bits .or .u64 (Go.bits .or .u64 (Go.bits .or .u64 (Go.bits .or .u64 (IntKind.u64.wrap ((IntKind.u64.wrap (a0)) * 288230376151711744)) (IntKind.u64.wrap ((IntKind.u64.wrap (a1)) * 4503599627370496))) (IntKind.u64.wrap ((IntKind.u64.wrap (a2)) * 70368744177664))) (IntKind.u64.wrap ((IntKind.u64.wrap (a3)) * 1099511627776))) (IntKind.u64.wrap ((IntKind.u64.wrap (a4)) * 17179869184))) (IntKind.u64.wrap ((IntKind.u64.wrap (a5)) * 268435456))) (IntKind.u64.wrap ((IntKind.u64.wrap (a6)) * 4194304))) (IntKind.u64.wrap ((IntKind.u64.wrap (a7)) * 65536)), true))
set_option maxHeartbeats 8000000 in
set_option maxRecDepth 100000 in
theorem base64_assemble64.calls (a0 : Int) (a1 : Int) (a2 : Int) (a3 : Int) (a4 : Int) (a5 : Int) (a6 : Int) (a7 : Int) (r1 : Int) (r2 : Bool) (w : World) (h : base64_assemble64.f a0 a1 a2 a3 a4 a5 a6 a7 = some (r1, r2)) :
    Calls Tryd.prog 74 #[.int .u8 a0, .int .u8 a1, .int .u8 a2, .int .u8 a3, .int .u8 a4, .int .u8 a5, .int .u8 a6, .int .u8 a7] w fun e w' => e = .returned (.tuple #[.int .u64 r1, .bool r2]) ∧ Drawn0 w w' := by
  have H : (if (Go.bits .or .u8 (Go.bits .or .u8 (Go.bits .or .u8 (Go.bits .or .u8 (Go.bits .or .u8 (Go.bits .or .u8 (Go.bits .or .u8 a0 a1) a2) a3) a4) a5) a6) a7) = 255 then (some (0, false)) else (some (Go.bits .or .u64 (Go.bits .or .u64 (Go.bits .or .u64 (Go.bits .or .u64 (Go.bits .or .u64 (Go.bits .or .u64 (Go.bits .or .u64 (IntKind.u64.wrap ((IntKind.u64.wrap (a0)) * 288230376151711744)) (IntKind.u64.wrap ((IntKind.u64.wrap (a1)) * 4503599627370496))) (IntKind.u64.wrap ((IntKind.u64.wrap (a2)) * 70368744177664))) (IntKind.u64.wrap ((IntKind.u64.wrap (a3)) * 1099511627776))) (IntKind.u64.wrap ((IntKind.u64.wrap (a4)) * 17179869184))) (IntKind.u64.wrap ((IntKind.u64.wrap (a5)) * 268435456))) (IntKind.u64.wrap ((IntKind.u64.wrap (a6)) * 4194304))) (IntKind.u64.wrap ((IntKind.u64.wrap (a7)) * 65536)), true))) = some (r1, r2) := h
  clear h
  by_cases c9 : (Go.bits .or .u8 (Go.bits .or .u8 (Go.bits .or .u8 (Go.bits .or .u8 (Go.bits .or .u8 (Go.bits .or .u8 (Go.bits .or .u8 a0 a1) a2) a3) a4) a5) a6) a7) = 255
  · rw [if_pos c9] at H
    have c9b0 : ((Go.bits .or .u8 (Go.bits .or .u8 (Go.bits .or .u8 (Go.bits .or .u8 (Go.bits .or .u8 (Go.bits .or .u8 (Go.bits .or .u8 a0 a1) a2) a3) a4) a5) a6) a7) == 255) = true := beq_iff_eq.mpr c9
    have c9b1 : ((Go.bits .or .u8 (Go.bits .or .u8 (Go.bits .or .u8 (Go.bits .or .u8 (Go.bits .or .u8 (Go.bits .or .u8 (Go.bits .or .u8 a0 a1) a2) a3) a4) a5) a6) a7) != 255) = false := bne_eq_false_iff_eq.mpr c9
    clear c9
    simp only [Option.some.injEq, Prod.mk.injEq] at H
    obtain ⟨rfl, rfl⟩ := H
    go_enter Tryd.func74, Tryd.ntmps74
    go_wp2
    go_ret2
    exact ⟨by first | rfl | (simp; done) | (simp [*]; done), by repeat (first | exact Drawn0.refl _ | apply Drawn0.step)⟩
  · rw [if_neg c9] at H
    have c9b0 : ((Go.bits .or .u8 (Go.bits .or .u8 (Go.bits .or .u8 (Go.bits .or .u8 (Go.bits .or .u8 (Go.bits .or .u8 (Go.bits .or .u8 a0 a1) a2) a3) a4) a5) a6) a7) == 255) = false := beq_eq_false_iff_ne.mpr c9
    have c9b1 : ((Go.bits .or .u8 (Go.bits .or .u8 (Go.bits .or .u8 (Go.bits .or .u8 (Go.bits .or .u8 (Go.bits .or .u8 (Go.bits .or .u8 a0 a1) a2) a3) a4) a5) a6) a7) != 255) = true := bne_iff_ne.mpr c9
    simp only [Option.some.injEq, Prod.mk.injEq] at H
    obtain ⟨rfl, rfl⟩ := H
    go_enter Tryd.func74, Tryd.ntmps74
    go_wp2
    go_ret2
    exact ⟨by first | rfl | (simp; done) | (simp [*]; done), by repeat (first | exact Drawn0.refl _ | apply Drawn0.step)⟩
def byteorder_BEPutUint64.f (l0 : List Int) (a1 : Int) : Option (List Int) := if 7 < (l0.length : Int) then (if 0 < (l0.length : Int) then (if 1 < (l0.length : Int) then (if 2 < (l0.length : Int) then (if 3 < (l0.length : Int) then (if 4 < (l0.length : Int) then (if 5 < (l0.length : Int) then (if 6 < (l0.length : Int) then (some ((((((((l0.set (0 : Int).toNat ((a1 / 72057594037927936) % 256)).set (1 : Int).toNat ((a1 / 281474976710656) % 256)).set (2 : Int).toNat ((a1 / 1099511627776) % 256)).set (3 : Int).toNat ((a1 / 4294967296) % 256)).set (4 : Int).toNat ((a1 / 16777216) % 256)).set (5 : Int).toNat ((a1 / 65536) % 256)).set (6 : Int).toNat ((a1 / 256) % 256)).set (7 : Int).toNat ((a1) % 256))) else (none)) else (none)) else (none)) else (none)) else (none)) else (none)) else (none)) else (none)
def base64_assemble32.f (a0 : Int) (a1 : Int) (a2 : Int) (a3 : Int) : Option (Int × Bool) := if (Go.bits .or .u8 (Go.bits .or .u8 (Go.bits .or .u8 a0 a1) a2) a3) = 255 then (some (0, false)) else (some (Go.bits .or .u32 (Go.bits .or .u32 (Go.bits .or .u32 ((((a0) % 4294967296) * 67108864) % 4294967296) ((((a1) % 4294967296) * 1048576) % 4294967296)) ((((a2) % 4294967296) * 16384) % 4294967296)) ((((a3) % 4294967296) * 256) % 4294967296), true))
set_option maxHeartbeats 8000000 in
set_option maxRecDepth 100000 in
theorem base64_assemble32.calls (a0 : Int) (a1 : Int) (a2 : Int) (a3 : Int) (r1 : Int) (r2 : Bool) (w : World) (h : base64_assemble32.f a0 a1 a2 a3 = some (r1, r2)) :
    Calls Tryd.prog 77 #[.int .u8 a0, .int .u8 a1, .int .u8 a2, .int .u8 a3] w fun e w' => e = .returned (.tuple #[.int .u32 r1, .bool r2]) ∧ Drawn0 w w' := by
  have H : (if (Go.bits .or .u8 (Go.bits .or .u8 (Go.bits .or .u8 a0 a1) a2) a3) = 255 then (some (0, false)) else (some (Go.bits .or .u32 (Go.bits .or .u32 (Go.bits .or .u32 ((((a0) % 4294967296) * 67108864) % 4294967296) ((((a1) % 4294967296) * 1048576) % 4294967296)) ((((a2) % 4294967296) * 16384) % 4294967296)) ((((a3) % 4294967296) * 256) % 4294967296), true))) = some (r1, r2) := h
  clear h
  by_cases c5 : (Go.bits .or .u8 (Go.bits .or .u8 (Go.bits .or .u8 a0 a1) a2) a3) = 255
  · rw [if_pos c5] at H
    have c5b0 : ((Go.bits .or .u8 (Go.bits .or .u8 (Go.bits .or .u8 a0 a1) a2) a3) == 255) = true := beq_iff_eq.mpr c5
    have c5b1 : ((Go.bits .or .u8 (Go.bits .or .u8 (Go.bits .or .u8 a0 a1) a2) a3) != 255) = false := bne_eq_false_iff_eq.mpr c5
    clear c5
    simp only [Option.some.injEq, Prod.mk.injEq] at H
    obtain ⟨rfl, rfl⟩ := H
    go_enter Tryd.func77, Tryd.ntmps77
    go_wp2
    go_ret2
    exact ⟨by first | rfl | (simp; done) | (simp [*]; done), by repeat (first | exact Drawn0.refl _ | apply Drawn0.step)⟩
  · rw [if_neg c5] at H
    have c5b0 : ((Go.bits .or .u8 (Go.bits .or .u8 (Go.bits .or .u8 a0 a1) a2) a3) == 255) = false := beq_eq_false_iff_ne.mpr c5
    have c5b1 : ((Go.bits .or .u8 (Go.bits .or .u8 (Go.bits .or .u8 a0 a1) a2) a3) != 255) = true := bne_iff_ne.mpr c5
    simp only [Option.some.injEq, Prod.mk.injEq] at H
    obtain ⟨rfl, rfl⟩ := H
    go_enter Tryd.func77, Tryd.ntmps77
    go_wp2
    go_ret2
    exact ⟨by first | rfl | (simp; done) | (simp [*]; done), by repeat (first | exact Drawn0.refl _ | apply Drawn0.step)⟩
def byteorder_BEPutUint32.f (l0 : List Int) (a1 : Int) : Option (List Int) := if 3 < (l0.length : Int) then (if 0 < (l0.length : Int) then (if 1 < (l0.length : Int) then (if 2 < (l0.length : Int) then (some ((((l0.set (0 : Int).toNat ((a1 / 16777216) % 256)).set (1 : Int).toNat ((a1 / 65536) % 256)).set (2 : Int).toNat ((a1 / 256) % 256)).set (3 : Int).toNat ((a1) % 256))) else (none)) else (none)) else (none)) else (none)
end Go.Proofs.YtkbegfihdpiacaaDoor.PX
