/- Part 9 of the proof: what the theorem reaches of the texts PX9, Shelf, Valid, Name. -/
import Derived.Shelf.Strings.FuncGrows
import Derived.Ground.GgwProg
import Derived.Shelf.Unicode.IsSpaceAny
import Derived.Shelf.Bytes.SlIndexAt
import Derived.Shelf.Unicode.ValidAny
import Derived.Shelf.Spec.DecodeRune
import Derived.Ground.NamesProg
import Derived.Ground.Names7Prog
import Derived.Test.YtkbegfihdpiacaaDoorProg
import Derived.Test.YtkbegfihdpiacaaDoorKS4
import Derived.Test.YtkbegfihdpiacaaDoorKS5
import Derived.Test.YtkbegfihdpiacaaDoorKS6
import Derived.Test.YtkbegfihdpiacaaDoorKS7
import Derived.Test.YtkbegfihdpiacaaDoorKS8

namespace Go.Proofs.YtkbegfihdpiacaaDoor.PX
open Go.RowKit Go.Proofs.YtkbegfihdpiacaaDoorW.PrintWords Go.Proofs.YtkbegfihdpiacaaDoorW.PrintLast Go.Proofs.YtkbegfihdpiacaaDoorW.PrintMore
attribute [local go_sem] max2_int min2_int max_two min_two max_three min_three max_four min_four   -- for this text's walks alone
set_option linter.unusedVariables false
set_option linter.unusedSimpArgs false
attribute [local go_sem high] eqA37
def utf8_word_string.f (a0 : ByteArray) : Option (Int) := if 0 < (a0.size : Int) then (if 1 < (a0.size : Int) then (if 2 < (a0.size : Int) then (if 3 < (a0.size : Int) then (if 4 < (a0.size : Int) then (if 5 < (a0.size : Int) then (if 6 < (a0.size : Int) then (if 7 < (a0.size : Int) then (some (Go.bits .or .u64 (Go.bits .or .u64 (Go.bits .or .u64 (Go.bits .or .u64 (Go.bits .or .u64 (Go.bits .or .u64 (Go.bits .or .u64 (IntKind.u64.wrap (bt a0 0)) (IntKind.u64.wrap ((IntKind.u64.wrap (bt a0 1)) * 256))) (IntKind.u64.wrap ((IntKind.u64.wrap (bt a0 2)) * 65536))) (IntKind.u64.wrap ((IntKind.u64.wrap (bt a0 3)) * 16777216))) (IntKind.u64.wrap ((IntKind.u64.wrap (bt a0 4)) * 4294967296))) (IntKind.u64.wrap ((IntKind.u64.wrap (bt a0 5)) * 1099511627776))) (IntKind.u64.wrap ((IntKind.u64.wrap (bt a0 6)) * 281474976710656))) (IntKind.u64.wrap ((IntKind.u64.wrap (bt a0 7)) * 72057594037927936)))) else (none)) else (none)) else (none)) else (none)) else (none)) else (none)) else (none)) else (none)
def sumdbnote_zzContains.f (k : Nat) (a0 : ByteArray) (a1 : ByteArray) : Option (Bool) := (sumdbnote_zzIndex.f k a0 a1).bind fun t271 => (some (decide (t271 ≥ 0)))
theorem sumdbnote_zzContains.mono : ∀ a0 a1 k, LeO (sumdbnote_zzContains.f k a0 a1) (sumdbnote_zzContains.f (k + 1) a0 a1) := by
  intro a0 a1 k
  unfold sumdbnote_zzContains.f
  repeat' first
      | (with_reducible exact sumdbnote_zzIndex.mono _ _ _)
      | (with_reducible exact LeO.refl _)
      | (with_reducible exact LeO.none _)
      | (with_reducible refine LeO.ite ?_ ?_)
      | (with_reducible refine LeO.bind ?_ (fun _ => ?_))
      | exact sumdbnote_zzIndex.mono _ _ _
      | exact LeO.none _
      | refine LeO.ite ?_ ?_
      | refine LeO.bind ?_ (fun _ => ?_)
set_option maxHeartbeats 8000000 in
set_option maxRecDepth 100000 in
theorem sumdbnote_zzContains.calls (k : Nat) (a0 : ByteArray) (a1 : ByteArray) (r : Bool) (w : World) (h : sumdbnote_zzContains.f k a0 a1 = some r) :
    Calls Tryd.prog 66 #[.string a0, .string a1] w fun e w' => e = .returned (.bool r) ∧ Drawn0 w w' := by
  have H : ((sumdbnote_zzIndex.f k a0 a1).bind fun t271 => (some (decide (t271 ≥ 0)))) = some r := h
  clear h
  replace H := Option.bind_eq_some_iff.mp H
  obtain ⟨t271, A30, H⟩ := H
  replace H : (some (decide (t271 ≥ 0))) = some r := H
  have A3 := Aside0.mk A30
  clear A30
  obtain rfl := Option.some.inj H
  go_enter Tryd.func66, Tryd.ntmps66
  go_wp2_with (first | ((with_reducible refine gate_callee (f := 59) rfl ?_); refine goesL_ (some 7) rfl rfl Tryd.func59 (by kernel_rfl) rfl #[.string a0, .string a1] rfl (by (try simp only [List.map_toArray, List.map_cons, List.map_nil]); first | done | rfl | (simp only [List.length_drop, List.length_take]; rfl)) ?_; (with_reducible refine (sumdbnote_zzIndex.calls k a0 a1 t271 _ A3.out).mono ?_); rintro e w' ⟨rfl, ⟨nd, rfl⟩⟩; refine ⟨_, rfl, ?_⟩))
  go_ret
  exact ⟨by first | rfl | (simp; done) | (simp [*]; done), by repeat (first | exact Drawn0.refl _ | apply Drawn0.step)⟩
def sumdbnote_beUint32.f (l0 : List Int) : Option (Int) := if 0 < (l0.length : Int) then (if 1 < (l0.length : Int) then (if 2 < (l0.length : Int) then (if 3 < (l0.length : Int) then (some (Go.bits .or .u32 (Go.bits .or .u32 (Go.bits .or .u32 ((((rd l0 0) % 4294967296) * 16777216) % 4294967296) ((((rd l0 1) % 4294967296) * 65536) % 4294967296)) ((((rd l0 2) % 4294967296) * 256) % 4294967296)) ((rd l0 3) % 4294967296))) else (none)) else (none)) else (none)) else (none)
set_option maxHeartbeats 8000000 in
set_option maxRecDepth 100000 in
theorem sumdbnote_beUint32.calls (A0 : Option Addr) (c0 : Nat) (l0 : List Int) (r : Int) (w : World) (hr0 : Kd.C (Kd.int .u8) w A0 l0.length l0) (hc0 : l0.length ≤ c0) (h : sumdbnote_beUint32.f l0 = some r) :
    Calls Tryd.prog 44 #[.slice A0 l0.length c0] w fun e w' => e = .returned (.int .u32 r) ∧ Drawn0 w w' := by
  have HR0 := Aside0.mk hr0
  have HC0 := Aside0.mk hc0
  clear hr0 hc0
  have H : (if 0 < (l0.length : Int) then (if 1 < (l0.length : Int) then (if 2 < (l0.length : Int) then (if 3 < (l0.length : Int) then (some (Go.bits .or .u32 (Go.bits .or .u32 (Go.bits .or .u32 ((((rd l0 0) % 4294967296) * 16777216) % 4294967296) ((((rd l0 1) % 4294967296) * 65536) % 4294967296)) ((((rd l0 2) % 4294967296) * 256) % 4294967296)) ((rd l0 3) % 4294967296))) else (none)) else (none)) else (none)) else (none)) = some r := h
  clear h
  by_cases c2 : 0 < (l0.length : Int)
  · rw [if_pos c2] at H
    have c2b0 : decide (0 < (l0.length : Int)) = true := decide_eq_true c2
    have c2b1 : decide (0 < l0.length) = true := decide_eq_true (by omega)
    clear c2
    by_cases c3 : 1 < (l0.length : Int)
    · rw [if_pos c3] at H
      have c3b0 : decide (1 < (l0.length : Int)) = true := decide_eq_true c3
      have c3b1 : decide (1 < l0.length) = true := decide_eq_true (by omega)
      clear c3
      by_cases c4 : 2 < (l0.length : Int)
      · rw [if_pos c4] at H
        have c4b0 : decide (2 < (l0.length : Int)) = true := decide_eq_true c4
        have c4b1 : decide (2 < l0.length) = true := decide_eq_true (by omega)
        clear c4
        by_cases c5 : 3 < (l0.length : Int)
        · rw [if_pos c5] at H
          have c5b0 : decide (3 < (l0.length : Int)) = true := decide_eq_true c5
          have c5b1 : decide (3 < l0.length) = true := decide_eq_true (by omega)
          clear c5
          obtain rfl := Option.some.inj H
          have p272 : 0 ≤ (0 : Int) := (by omega)
          have q272 : 0 < (l0.length : Int) := of_decide_eq_true (by first | (with_reducible assumption) | assumption)
          obtain ⟨ad272, e272, hx272_0⟩ := Kd.at_int HR0.out 0 p272 q272
          cases e272
          have qi272 : (0 < l0.length) = True := eq_true (by omega)
          (try rw [show ((0 : Int)).toNat = 0 from rfl] at hx272_0)
          (try rw [Addr.add_zero'] at hx272_0)
          replace p272 := eq_true p272
          replace q272 := eq_true q272
          have p273 : 0 ≤ (1 : Int) := (by omega)
          have q273 : 1 < (l0.length : Int) := of_decide_eq_true (by first | (with_reducible assumption) | assumption)
          obtain ⟨ad273, e273, hx273_0⟩ := Kd.at_int HR0.out 1 p273 q273
          obtain rfl : ad272 = ad273 := (by injection e273)
          (try simp only [show (1 : Int).toNat = 1 from rfl, Nat.reduceMul, Nat.reduceEqDiff, Go.Addr.add, ↓reduceIte] at hx273_0)
          have qi273 : (1 < l0.length) = True := eq_true (by omega)
          (try rw [show ((1 : Int)).toNat = 1 from rfl] at hx273_0)
          replace p273 := eq_true p273
          replace q273 := eq_true q273
          have p274 : 0 ≤ (2 : Int) := (by omega)
          have q274 : 2 < (l0.length : Int) := of_decide_eq_true (by first | (with_reducible assumption) | assumption)
          obtain ⟨ad274, e274, hx274_0⟩ := Kd.at_int HR0.out 2 p274 q274
          obtain rfl : ad272 = ad274 := (by injection e274)
          (try simp only [show (2 : Int).toNat = 2 from rfl, Nat.reduceMul, Nat.reduceEqDiff, Go.Addr.add, ↓reduceIte] at hx274_0)
          have qi274 : (2 < l0.length) = True := eq_true (by omega)
          (try rw [show ((2 : Int)).toNat = 2 from rfl] at hx274_0)
          replace p274 := eq_true p274
          replace q274 := eq_true q274
          have p275 : 0 ≤ (3 : Int) := (by omega)
          have q275 : 3 < (l0.length : Int) := of_decide_eq_true (by first | (with_reducible assumption) | assumption)
          obtain ⟨ad275, e275, hx275_0⟩ := Kd.at_int HR0.out 3 p275 q275
          obtain rfl : ad272 = ad275 := (by injection e275)
          (try simp only [show (3 : Int).toNat = 3 from rfl, Nat.reduceMul, Nat.reduceEqDiff, Go.Addr.add, ↓reduceIte] at hx275_0)
          have qi275 : (3 < l0.length) = True := eq_true (by omega)
          (try rw [show ((3 : Int)).toNat = 3 from rfl] at hx275_0)
          replace p275 := eq_true p275
          replace q275 := eq_true q275
          go_enter Tryd.func44, Tryd.ntmps44
          go_wp2
          repeat (go_quiet (fail); try go_wp2)
          go_ret
          exact ⟨by first | rfl | (simp; done) | (simp [*]; done), by repeat (first | exact Drawn0.refl _ | apply Drawn0.step)⟩
        · rw [if_neg c5] at H
          exact absurd H (by simp)
      · rw [if_neg c4] at H
        exact absurd H (by simp)
    · rw [if_neg c3] at H
      exact absurd H (by simp)
  · rw [if_neg c2] at H
    exact absurd H (by simp)
def impl_in.l0 : Nat → List (S75) → List (S118) → Int → Int → Option ((List (S75)))
  | 0, _, _, _, _ => none
  | k + 1, x3, x7, x8, x9 => if x9 < x8 then (if 0 ≤ x9 then (if x9 < (x7.length : Int) then (if x3.length < 3518437208883 then (impl_in.l0 k (x3 ++ [(⟨(rd_T118 x7 x9).f0, (rd_T118 x7 x9).f1, (rd_T118 x7 x9).f2⟩ : S75)]) x7 x8 (wrap64 (x9 + 1))) else (none)) else (none)) else (none)) else (some x3)
def impl_in.f (k : Nat) (l0 : List (S118)) : Option ((List (S75))) := impl_in.l0 k (([] : List (S75))) l0 (l0.length : Int) 0
theorem impl_in.mono_l : ∀ k, (∀ y0 y1 y2 y3, LeO (impl_in.l0 k y0 y1 y2 y3) (impl_in.l0 (k + 1) y0 y1 y2 y3))
  | 0 => fun _ _ _ _ r h => by simp [impl_in.l0] at h
  | k + 1 => by
    have ih0 := impl_in.mono_l k
    · intro y0 y1 y2 y3
      unfold impl_in.l0
      repeat' first
      | (with_reducible exact ih0 _ _ _ _)
      | (with_reducible exact LeO.refl _)
      | (with_reducible exact LeO.none _)
      | (with_reducible refine LeO.ite ?_ ?_)
      | (with_reducible refine LeO.bind ?_ (fun _ => ?_))
      | exact ih0 _ _ _ _
      | exact LeO.none _
      | refine LeO.ite ?_ ?_
      | refine LeO.bind ?_ (fun _ => ?_)
theorem impl_in.mono : ∀ a0 k, LeO (impl_in.f k a0) (impl_in.f (k + 1) a0) := by
  intro a0 k
  have ih0 := impl_in.mono_l k
  unfold impl_in.f
  repeat' first
      | (with_reducible exact ih0 _ _ _ _)
      | (with_reducible exact LeO.refl _)
      | (with_reducible exact LeO.none _)
      | (with_reducible refine LeO.ite ?_ ?_)
      | (with_reducible refine LeO.bind ?_ (fun _ => ?_))
      | exact ih0 _ _ _ _
      | exact LeO.none _
      | refine LeO.ite ?_ ?_
      | refine LeO.bind ?_ (fun _ => ?_)
set_option maxHeartbeats 8000000 in
set_option maxRecDepth 100000 in
theorem impl_in.calls (k : Nat) (A0 : Option Addr) (c0 : Nat) (l0 : List (S118)) (r : List (S75)) (w : World) (hr0 : Kd.C k118 w A0 l0.length l0) (hc0 : l0.length ≤ c0) (h : impl_in.f k l0 = some r) :
    Calls Tryd.prog 45 #[.slice A0 l0.length c0] w fun e w' => ∃ v0_ : Value, e = .returned (v0_) ∧ Kd.R k75 75 w' w.heap.size (fun _ => True) v0_ r ∧ Below w.heap.size w w' := by
  have hu118 := Tryd.underlying118
  have hu75 := Tryd.underlying75
  have HR0 := Aside0.mk hr0
  have HC0 := Aside0.mk hc0
  clear hr0 hc0
  have HB := Aside0.mk (Below.refl w.heap.size w)
  have H : (impl_in.l0 k (([] : List (S75))) l0 (l0.length : Int) 0) = some r := h
  clear h
  obtain ⟨y276, hy276⟩ : ∃ y_ : List (S75), y_ = (([] : List (S75))) := ⟨_, rfl⟩
  replace H : (impl_in.l0 k y276 l0 (l0.length : Int) 0) = some r := by first | (rw [hy276]; with_reducible exact H) | (have H2_ := (Option.bind_some _ _).symm.trans H; rw [hy276]; with_reducible exact H2_) | (have H2_ := (Option.bind_some _ _).symm.trans H; with_reducible exact H2_) | with_reducible exact H | (rw [hy276]; exact H) | exact H
  have Ny276 := Aside0.mk hy276
  clear hy276
  have H' := Aside0.mk H
  clear H
  go_enter Tryd.func45, Tryd.ntmps45
  go_wp2_with (first | ((with_reducible refine gate_dst (N := 6) rfl ?_); refine Kd.R_lit k75 _ 75 ?hg (N := 6) ?hd (xs := ([] : List (S75))) (inner := []) (ok := fun _ => True) (okp := fun _ => True) ?hr ?hp (fun _ hk => hk) trivial (Below.refl _ _) (Nat.le_refl _) (by simp) ?_; (case hd => rfl); (case hg => rfl); (case hr => first | (go_simp; done) | (go_simp; rfl)); (case hp => exact (Reps.none _ _)); intro v277 w2 ho3 hb hg_ hnew_; clear hg_ hnew_; (first | rw [← Ny276.out] at ho3 | (simp only [Int.reduceToNat] at ho3; rw [← Ny276.out] at ho3)); have n0_ := Aside0.mk (Kd.R_lower ho3 (below_size (by repeat (first | (with_reducible first | exact HB.out | apply below_alloc | apply pw_below_drewN | apply below_drew1) | exact HB.out)))); have n1_ := Aside0.mk (below_step (by repeat (first | (with_reducible first | exact HB.out | apply below_alloc | apply pw_below_drewN | apply below_drew1) | exact HB.out)) hb); clear HB; have HO278 := n0_; have HB := n1_; clear n0_ n1_; clear hb ho3))
  go_loopg [3, 9] k (fun kq v3 v9 w' => ∃ (x3_1 : List (S75)) (x9_1 : Int), v9 = .int .i64 x9_1 ∧ Aside0 (impl_in.l0 kq x3_1 l0 (l0.length : Int) x9_1 = some r) ∧ Aside0 (kq ≤ k) ∧ Aside0 (Kd.R k75 75 w' w.heap.size (fun _ => True) v3 x3_1) ∧ Aside0 (Below w.heap.size w w'))
  case atStart => exact ⟨(y276), (0), (by first | rfl | (simp; done) | (simp [*]; done)), H', ⟨Nat.le_refl _⟩, ⟨by (with_reducible repeat (first | apply Kd.R_alloc | apply Kd.R_drewN | apply Kd.R_drew)); exact HO278.out⟩, ⟨by repeat (first | (with_reducible first | exact HB.out | apply below_alloc | apply pw_below_drewN | apply below_drew1) | exact HB.out)⟩⟩
  case round =>
    clear H'
    try clear p2
    obtain ⟨x3_1, x9_1, rfl, HA, HK1, HO_3, HB⟩ := hrel
    cases gk with
    | zero => exact absurd HA.out (by simp [impl_in.l0])
    | succ k1 =>
      have H := HA.out
      clear HA
      simp only [impl_in.l0] at H
      by_cases c4 : x9_1 < (l0.length : Int)
      · rw [if_pos c4] at H
        have c4b0 : decide (x9_1 < (l0.length : Int)) = true := decide_eq_true c4
        clear c4
        by_cases c5 : 0 ≤ x9_1
        · rw [if_pos c5] at H
          have c5b0 : decide (0 ≤ x9_1) = true := decide_eq_true c5
          clear c5
          by_cases c6 : x9_1 < (l0.length : Int)
          · rw [if_pos c6] at H
            have c6b0 : decide (x9_1 < (l0.length : Int)) = true := decide_eq_true c6
            clear c6
            by_cases c7 : x3_1.length < 3518437208883
            · rw [if_pos c7] at H
              have LMc7 := Aside0.mk c7
              clear c7
              obtain ⟨y281, hy281⟩ : ∃ y_ : List (S75), y_ = (x3_1 ++ [(⟨(rd_T118 l0 x9_1).f0, (rd_T118 l0 x9_1).f1, (rd_T118 l0 x9_1).f2⟩ : S75)]) := ⟨_, rfl⟩
              replace H : (impl_in.l0 k1 y281 l0 (l0.length : Int) (wrap64 (x9_1 + 1))) = some r := by first | (rw [hy281]; with_reducible exact H) | (have H2_ := (Option.bind_some _ _).symm.trans H; rw [hy281]; with_reducible exact H2_) | (have H2_ := (Option.bind_some _ _).symm.trans H; with_reducible exact H2_) | with_reducible exact H | (rw [hy281]; exact H) | exact H
              have Ny281 := Aside0.mk hy281
              clear hy281
              have H' := Aside0.mk H
              clear H
              have p279 : 0 ≤ (x9_1 : Int) := of_decide_eq_true (by first | (with_reducible assumption) | assumption)
              have q279 : x9_1 < (l0.length : Int) := of_decide_eq_true (by first | (with_reducible assumption) | assumption)
              obtain ⟨ad279, e279, hx279_0, hx279_1, hx279_2⟩ := at_T118 HR0.out x9_1 p279 q279
              cases e279
              replace hx279_0 := (HB.out.cell (World.block_lt_of_cell? w _ hx279_0)).trans hx279_0
              replace hx279_1 := (HB.out.cell (World.block_lt_of_cell? w _ hx279_1)).trans hx279_1
              replace hx279_2 := (HB.out.cell (World.block_lt_of_cell? w _ hx279_2)).trans hx279_2
              replace p279 := eq_true p279
              replace q279 := eq_true q279
              go_wp2_with (first | ((with_reducible refine gate_dst (N := 5) rfl ?_); refine box_event ?hg (N := 5) ?hd (cs := #[.string (⟨#[]⟩ : ByteArray), .int .u32 0, .string (⟨#[]⟩ : ByteArray)]) (t := 118) ?hr ?_; (case hd => rfl); (case hg => rfl); (case hr => first | (go_simp; done) | (go_simp; rfl)); intro gb280 hg w8 hbox hb; have n0_ := Aside0.mk (Kd.R_below (by (with_reducible repeat (first | apply Kd.R_alloc | apply Kd.R_drewN | apply Kd.R_drew)); exact HO_3.out) hb); have n1_ := Aside0.mk (below_step (by repeat (first | (with_reducible first | exact HB.out | apply below_alloc | apply pw_below_drewN | apply below_drew1) | exact HB.out)) hb); have n2_ := Aside0.mk (hbox); have n3_ := Aside0.mk ((by rw [hg]; exact (below_size (by repeat (first | (with_reducible first | exact HB.out | apply below_alloc | apply pw_below_drewN | apply below_drew1) | exact HB.out))) : w.heap.size ≤ gb280)); have n4_ := Aside0.mk ((by rw [hg]; exact (below_size (by repeat (first | (with_reducible first | exact HB.out | apply below_alloc | apply pw_below_drewN | apply below_drew1) | exact HB.out))) : w.heap.size ≤ gb280)); clear HO_3; clear HB; have HO_3 := n0_; have HB := n1_; have BK280 := n2_; have GW280 := n3_; have GE280 := n4_; clear n0_ n1_ n2_ n3_ n4_; clear hb hbox hg; have hcz9_0 : w8.cell? ⟨gb280, 0, none⟩ = some (.string (⟨#[]⟩ : ByteArray)) := (blk_cell BK280.out 0).trans rfl; have hcz9_1 : w8.cell? ⟨gb280, 1, none⟩ = some (.int .u32 0) := (blk_cell BK280.out 1).trans rfl; have hcz9_2 : w8.cell? ⟨gb280, 2, none⟩ = some (.string (⟨#[]⟩ : ByteArray)) := (blk_cell BK280.out 2).trans rfl; have hfz9_0 := blk_frozen BK280.out 0; have hfz9_1 := blk_frozen BK280.out 1; have hfz9_2 := blk_frozen BK280.out 2) | ((with_reducible refine gate_builtin (b := .append) (xs := #[.tmp 13, .tmp 21]) rfl ?_); at_builtin; refine Kd.R_append k75 (w0 := w) w.heap.size rfl (.tmp 13) (.tmp 21) 38 75 (.agg #[(.string ⟨#[]⟩), (.int .u32 0), (.string ⟨#[]⟩)]) 40 rfl Tryd.underlying38 info75 rfl (by decide) (by omega) u3 x3_1 (⟨(rd_T118 l0 x9_1).f0, (rd_T118 l0 x9_1).f1, (rd_T118 l0 x9_1).f2⟩ : S75) [.string ((rd_T118 l0 x9_1).f0), .int .u32 ((rd_T118 l0 x9_1).f1), .string ((rd_T118 l0 x9_1).f2)] (fun _ => True) (fun _ => False) rfl (by first | (go_simp; done) | (go_simp; rfl)) ?aP (fun _ hk => hk.elim) ?aF ?aO ?aB ?aS ?aL ?_; (case aP => exact k75_mkM _ _ _ (⟨(rd_T118 l0 x9_1).f0, (rd_T118 l0 x9_1).f1, (rd_T118 l0 x9_1).f2⟩ : S75)); (case aB => exact (by repeat (first | (with_reducible first | exact HB.out | apply below_alloc | apply pw_below_drewN | apply below_drew1 | refine below_set ?_ GE280.out) | exact HB.out))); (case aF => exact (fun _ _ => trivial)); (case aO => exact (by (with_reducible repeat (first | apply Kd.R_alloc | apply Kd.R_drewN | apply Kd.R_drew)); exact Kd.R_mono (Kd.R_far (p := ⟨gb280, 2, none⟩) (Kd.R_far (p := ⟨gb280, 1, none⟩) (Kd.R_far (p := ⟨gb280, 0, none⟩) (Kd.R_types HO_3.out BK280.out (by decide)) (fun _ hk => hk.2) (.string ((rd_T118 l0 x9_1).f0))) (fun _ hk => hk.2) (.int .u32 ((rd_T118 l0 x9_1).f1))) (fun _ hk => hk.2) (.string ((rd_T118 l0 x9_1).f2))) (fun _ hk => trivial))); (case aS => exact (below_size (by repeat (first | (with_reducible first | exact HB.out | apply below_alloc | apply pw_below_drewN | apply below_drew1 | refine below_set ?_ GE280.out) | exact HB.out)))); (case aL => have := LMc7.out; omega); intro v282 w10 ho hb hg hat; rw [← Ny281.out] at ho; have n0_ := Aside0.mk (blk_grown (g := gb280) (o := .cells #[.string ((rd_T118 l0 x9_1).f0), .int .u32 ((rd_T118 l0 x9_1).f1), .string ((rd_T118 l0 x9_1).f2)] 118 (0, 0)) (by (with_reducible repeat (first | refine blk_drewN ?_ _ | refine blk_drew ?_ | refine blk_alloc ?_ _)); refine blk_put (cs := #[.string ((rd_T118 l0 x9_1).f0), .int .u32 ((rd_T118 l0 x9_1).f1), .string (⟨#[]⟩ : ByteArray)]) ?_ 2 _ rfl; (with_reducible repeat (first | refine blk_drewN ?_ _ | refine blk_drew ?_ | refine blk_alloc ?_ _)); refine blk_put (cs := #[.string ((rd_T118 l0 x9_1).f0), .int .u32 0, .string (⟨#[]⟩ : ByteArray)]) ?_ 1 _ rfl; (with_reducible repeat (first | refine blk_drewN ?_ _ | refine blk_drew ?_ | refine blk_alloc ?_ _)); refine blk_put (cs := #[.string (⟨#[]⟩ : ByteArray), .int .u32 0, .string (⟨#[]⟩ : ByteArray)]) ?_ 0 _ rfl; (with_reducible repeat (first | refine blk_drewN ?_ _ | refine blk_drew ?_ | refine blk_alloc ?_ _)); exact BK280.out) hg (Kd.R_ne HO_3.out BK280.out (by decide))); have n1_ := Aside0.mk (hb); have n2_ := Aside0.mk (ho); clear BK280; clear HB; clear HO_3; have BK280 := n0_; have HB := n1_; have HO283 := n2_; clear n0_ n1_ n2_; clear ho hb hg hat))
              go_roundg k1
              case measure => have := HK1.out; omega
              case rel => exact ⟨(y281), (wrap64 (x9_1 + 1)), (by first | rfl | (simp; done) | (simp [*]; done)), H', ⟨by have := HK1.out; omega⟩, ⟨by (with_reducible repeat (first | apply Kd.R_alloc | apply Kd.R_drewN | apply Kd.R_drew)); exact HO283.out⟩, ⟨by repeat (first | (with_reducible first | exact HB.out | apply below_alloc | apply pw_below_drewN | apply below_drew1 | refine below_set ?_ GE280.out) | exact HB.out)⟩⟩
            · rw [if_neg c7] at H
              exact absurd H (by simp)
          · rw [if_neg c6] at H
            exact absurd H (by simp)
        · rw [if_neg c5] at H
          exact absurd H (by simp)
      · rw [if_neg c4] at H
        have c4b0 : decide (x9_1 < (l0.length : Int)) = false := decide_eq_false c4
        clear c4
        obtain rfl := Option.some.inj H
        go_wp2
        go_ret
        exact ⟨_, by first | rfl | (simp [errW_none, errW_some] <;> rfl) | (simp [*, errW_none, errW_some] <;> rfl), by (with_reducible repeat (first | apply Kd.R_alloc | apply Kd.R_drewN | apply Kd.R_drew)); exact HO_3.out, by repeat (first | (with_reducible first | exact HB.out | apply below_alloc | apply pw_below_drewN | apply below_drew1) | exact HB.out)⟩
def spec_SameSigs.l0 : Nat → List (S37) → List (S37) → Int → Int → Option (Bool)
  | 0, _, _, _, _ => none
  | k + 1, x0, x1, x12, x13 => if x13 < x12 then (if 0 ≤ x13 then (if x13 < (x0.length : Int) then (if x13 < (x1.length : Int) then (if (!((((rd_T37 x0 x13).f0).toList) == (((rd_T37 x1 x13).f0).toList)) || (!(((rd_T37 x0 x13).f1) == ((rd_T37 x1 x13).f1)) || (!((((rd_T37 x0 x13).f2).toList) == (((rd_T37 x1 x13).f2).toList))))) = true then (some false) else (spec_SameSigs.l0 k x0 x1 x12 (wrap64 (x13 + 1)))) else (none)) else (none)) else (none)) else (some true)
def spec_SameSigs.f (k : Nat) (l0 : List (S37)) (l1 : List (S37)) : Option (Bool) := if (l0.length : Int) = (l1.length : Int) then (spec_SameSigs.l0 k l0 l1 (l0.length : Int) 0) else (some false)
theorem spec_SameSigs.mono_l : ∀ k, (∀ y0 y1 y2 y3, LeO (spec_SameSigs.l0 k y0 y1 y2 y3) (spec_SameSigs.l0 (k + 1) y0 y1 y2 y3))
  | 0 => fun _ _ _ _ r h => by simp [spec_SameSigs.l0] at h
  | k + 1 => by
    have ih0 := spec_SameSigs.mono_l k
    · intro y0 y1 y2 y3
      unfold spec_SameSigs.l0
      repeat' first
      | (with_reducible exact ih0 _ _ _ _)
      | (with_reducible exact LeO.refl _)
      | (with_reducible exact LeO.none _)
      | (with_reducible refine LeO.ite ?_ ?_)
      | (with_reducible refine LeO.bind ?_ (fun _ => ?_))
      | exact ih0 _ _ _ _
      | exact LeO.none _
      | refine LeO.ite ?_ ?_
      | refine LeO.bind ?_ (fun _ => ?_)
theorem spec_SameSigs.mono : ∀ a0 a1 k, LeO (spec_SameSigs.f k a0 a1) (spec_SameSigs.f (k + 1) a0 a1) := by
  intro a0 a1 k
  have ih0 := spec_SameSigs.mono_l k
  unfold spec_SameSigs.f
  repeat' first
      | (with_reducible exact ih0 _ _ _ _)
      | (with_reducible exact LeO.refl _)
      | (with_reducible exact LeO.none _)
      | (with_reducible refine LeO.ite ?_ ?_)
      | (with_reducible refine LeO.bind ?_ (fun _ => ?_))
      | exact ih0 _ _ _ _
      | exact LeO.none _
      | refine LeO.ite ?_ ?_
      | refine LeO.bind ?_ (fun _ => ?_)
set_option maxHeartbeats 8000000 in
set_option maxRecDepth 100000 in
theorem spec_SameSigs.calls (k : Nat) (A0 : Option Addr) (c0 : Nat) (l0 : List (S37)) (A1 : Option Addr) (c1 : Nat) (l1 : List (S37)) (r : Bool) (w : World) (hr0 : Kd.C k37 w A0 l0.length l0) (hc0 : l0.length ≤ c0) (hr1 : Kd.C k37 w A1 l1.length l1) (hc1 : l1.length ≤ c1) (h : spec_SameSigs.f k l0 l1 = some r) :
    Calls Tryd.prog 27 #[.slice A0 l0.length c0, .slice A1 l1.length c1] w fun e w' => e = .returned (.bool r) ∧ Drawn0 w w' := by
  have hu37 := Tryd.underlying37
  have HR0 := Aside0.mk hr0
  have HC0 := Aside0.mk hc0
  clear hr0 hc0
  have HR1 := Aside0.mk hr1
  have HC1 := Aside0.mk hc1
  clear hr1 hc1
  have H : (if (l0.length : Int) = (l1.length : Int) then (spec_SameSigs.l0 k l0 l1 (l0.length : Int) 0) else (some false)) = some r := h
  clear h
  by_cases c3 : (l0.length : Int) = (l1.length : Int)
  · rw [if_pos c3] at H
    have c3b0 : ((l0.length : Int) == (l1.length : Int)) = true := beq_iff_eq.mpr c3
    have c3b1 : ((l0.length : Int) != (l1.length : Int)) = false := bne_eq_false_iff_eq.mpr c3
    have c3b2 : (l0.length == l1.length) = true := by first | simpa using c3 | (simp at c3 ⊢; omega)
    clear c3
    have H' := Aside0.mk H
    clear H
    go_enter Tryd.func27, Tryd.ntmps27
    go_wp2
    repeat (go_quiet (fail); try go_wp2)
    go_loopg [13] k (fun kq v13 w' => ∃ (x13_1 : Int), v13 = .int .i64 x13_1 ∧ Aside0 (spec_SameSigs.l0 kq l0 l1 (l0.length : Int) x13_1 = some r) ∧ Aside0 (kq ≤ k) ∧ Drawn0 w w')
    case atStart => exact ⟨(0), (by first | rfl | (simp; done) | (simp [*]; done)), H', ⟨Nat.le_refl _⟩, by repeat (first | exact Drawn0.refl _ | apply Drawn0.step)⟩
    case round =>
      clear H'
      try clear c1
      try clear c2
      try clear p2
      try clear c3
      try clear c3b0
      try clear c3b1
      try clear c3b2
      obtain ⟨x13_1, rfl, HA, HK1, ⟨m1, rfl⟩⟩ := hrel
      cases gk with
      | zero => exact absurd HA.out (by simp [spec_SameSigs.l0])
      | succ k1 =>
        have H := HA.out
        clear HA
        simp only [spec_SameSigs.l0] at H
        by_cases c4 : x13_1 < (l0.length : Int)
        · rw [if_pos c4] at H
          have c4b0 : decide (x13_1 < (l0.length : Int)) = true := decide_eq_true c4
          clear c4
          by_cases c5 : 0 ≤ x13_1
          · rw [if_pos c5] at H
            have c5b0 : decide (0 ≤ x13_1) = true := decide_eq_true c5
            clear c5
            by_cases c6 : x13_1 < (l0.length : Int)
            · rw [if_pos c6] at H
              have c6b0 : decide (x13_1 < (l0.length : Int)) = true := decide_eq_true c6
              clear c6
              by_cases c7 : x13_1 < (l1.length : Int)
              · rw [if_pos c7] at H
                have c7b0 : decide (x13_1 < (l1.length : Int)) = true := decide_eq_true c7
                clear c7
                by_cases c8 : (!((((rd_T37 l0 x13_1).f0).toList) == (((rd_T37 l1 x13_1).f0).toList)) || (!(((rd_T37 l0 x13_1).f1) == ((rd_T37 l1 x13_1).f1)) || (!((((rd_T37 l0 x13_1).f2).toList) == (((rd_T37 l1 x13_1).f2).toList))))) = true
                · rw [if_pos c8] at H
                  have c8b0 : (!((((rd_T37 l0 x13_1).f0).toList) == (((rd_T37 l1 x13_1).f0).toList)) || (!(((rd_T37 l0 x13_1).f1) == ((rd_T37 l1 x13_1).f1)) || (!((((rd_T37 l0 x13_1).f2).toList) == (((rd_T37 l1 x13_1).f2).toList))))) = true := c8
                  clear c8
                  obtain rfl := Option.some.inj H
                  have p292 : 0 ≤ (x13_1 : Int) := of_decide_eq_true (by first | (with_reducible assumption) | assumption)
                  have q292 : x13_1 < (l0.length : Int) := of_decide_eq_true (by first | (with_reducible assumption) | assumption)
                  obtain ⟨ad292, e292, hx292_0, hx292_1, hx292_2⟩ := at_T37 HR0.out x13_1 p292 q292
                  cases e292
                  replace p292 := eq_true p292
                  replace q292 := eq_true q292
                  have p293 : 0 ≤ (x13_1 : Int) := of_decide_eq_true (by first | (with_reducible assumption) | assumption)
                  have q293 : x13_1 < (l1.length : Int) := of_decide_eq_true (by first | (with_reducible assumption) | assumption)
                  obtain ⟨ad293, e293, hx293_0, hx293_1, hx293_2⟩ := at_T37 HR1.out x13_1 p293 q293
                  cases e293
                  replace p293 := eq_true p293
                  replace q293 := eq_true q293
                  go_wp2
                  repeat (go_quiet (fail); try go_wp2)
                  go_ret
                  exact ⟨by first | rfl | (simp; done) | (simp [*]; done), by repeat (first | exact Drawn0.refl _ | apply Drawn0.step)⟩
                · rw [if_neg c8] at H
                  have c8b0 : (!((((rd_T37 l0 x13_1).f0).toList) == (((rd_T37 l1 x13_1).f0).toList)) || (!(((rd_T37 l0 x13_1).f1) == ((rd_T37 l1 x13_1).f1)) || (!((((rd_T37 l0 x13_1).f2).toList) == (((rd_T37 l1 x13_1).f2).toList))))) = false := by simpa using c8
                  clear c8
                  have H' := Aside0.mk H
                  clear H
                  have p292 : 0 ≤ (x13_1 : Int) := of_decide_eq_true (by first | (with_reducible assumption) | assumption)
                  have q292 : x13_1 < (l0.length : Int) := of_decide_eq_true (by first | (with_reducible assumption) | assumption)
                  obtain ⟨ad292, e292, hx292_0, hx292_1, hx292_2⟩ := at_T37 HR0.out x13_1 p292 q292
                  cases e292
                  replace p292 := eq_true p292
                  replace q292 := eq_true q292
                  have p293 : 0 ≤ (x13_1 : Int) := of_decide_eq_true (by first | (with_reducible assumption) | assumption)
                  have q293 : x13_1 < (l1.length : Int) := of_decide_eq_true (by first | (with_reducible assumption) | assumption)
                  obtain ⟨ad293, e293, hx293_0, hx293_1, hx293_2⟩ := at_T37 HR1.out x13_1 p293 q293
                  cases e293
                  replace p293 := eq_true p293
                  replace q293 := eq_true q293
                  go_wp2
                  repeat (go_quiet (fail); try go_wp2)
                  go_roundg k1
                  case measure => have := HK1.out; omega
                  case rel => exact ⟨(wrap64 (x13_1 + 1)), (by first | rfl | (simp; done) | (simp [*]; done)), H', ⟨by have := HK1.out; omega⟩, by repeat (first | exact Drawn0.refl _ | apply Drawn0.step)⟩
              · rw [if_neg c7] at H
                exact absurd H (by simp)
            · rw [if_neg c6] at H
              exact absurd H (by simp)
          · rw [if_neg c5] at H
            exact absurd H (by simp)
        · rw [if_neg c4] at H
          have c4b0 : decide (x13_1 < (l0.length : Int)) = false := decide_eq_false c4
          clear c4
          obtain rfl := Option.some.inj H
          go_wp2
          repeat (go_quiet (fail); try go_wp2)
          go_ret
          exact ⟨by first | rfl | (simp; done) | (simp [*]; done), by repeat (first | exact Drawn0.refl _ | apply Drawn0.step)⟩
  · rw [if_neg c3] at H
    have c3b0 : ((l0.length : Int) == (l1.length : Int)) = false := beq_eq_false_iff_ne.mpr c3
    have c3b1 : ((l0.length : Int) != (l1.length : Int)) = true := bne_iff_ne.mpr c3
    have c3b2 : (l0.length == l1.length) = false := by first | simpa using c3 | (simp at c3 ⊢; omega)
    obtain rfl := Option.some.inj H
    go_enter Tryd.func27, Tryd.ntmps27
    go_wp2
    repeat (go_quiet (fail); try go_wp2)
    go_ret
    exact ⟨by first | rfl | (simp; done) | (simp [*]; done), by repeat (first | exact Drawn0.refl _ | apply Drawn0.step)⟩
def spec_Same.f (k : Nat) (a0_0 : ByteArray) (l0_1 : List (S37)) (l0_2 : List (S37)) (a1_0 : ByteArray) (l1_1 : List (S37)) (l1_2 : List (S37)) : Option (Bool) := if a0_0.toList = a1_0.toList then ((spec_SameSigs.f k l0_1 l1_1).bind fun t296 => (if t296 = true then ((spec_SameSigs.f k l0_2 l1_2).bind fun t297 => (some t297)) else (some false))) else (some false)
theorem spec_Same.mono : ∀ a0 a1 a2 a3 a4 a5 k, LeO (spec_Same.f k a0 a1 a2 a3 a4 a5) (spec_Same.f (k + 1) a0 a1 a2 a3 a4 a5) := by
  intro a0 a1 a2 a3 a4 a5 k
  unfold spec_Same.f
  repeat' first
      | (with_reducible exact spec_SameSigs.mono _ _ _)
      | (with_reducible exact LeO.refl _)
      | (with_reducible exact LeO.none _)
      | (with_reducible refine LeO.ite ?_ ?_)
      | (with_reducible refine LeO.bind ?_ (fun _ => ?_))
      | exact spec_SameSigs.mono _ _ _
      | exact LeO.none _
      | refine LeO.ite ?_ ?_
      | refine LeO.bind ?_ (fun _ => ?_)
set_option maxHeartbeats 8000000 in
set_option maxRecDepth 100000 in
theorem spec_Same.calls (k : Nat) (a0_0 : ByteArray) (A0_1 : Option Addr) (c0_1 : Nat) (l0_1 : List (S37)) (A0_2 : Option Addr) (c0_2 : Nat) (l0_2 : List (S37)) (a1_0 : ByteArray) (A1_1 : Option Addr) (c1_1 : Nat) (l1_1 : List (S37)) (A1_2 : Option Addr) (c1_2 : Nat) (l1_2 : List (S37)) (r : Bool) (w : World) (hr0_1 : Kd.C k37 w A0_1 l0_1.length l0_1) (hc0_1 : l0_1.length ≤ c0_1) (hr0_2 : Kd.C k37 w A0_2 l0_2.length l0_2) (hc0_2 : l0_2.length ≤ c0_2) (hr1_1 : Kd.C k37 w A1_1 l1_1.length l1_1) (hc1_1 : l1_1.length ≤ c1_1) (hr1_2 : Kd.C k37 w A1_2 l1_2.length l1_2) (hc1_2 : l1_2.length ≤ c1_2) (h : spec_Same.f k a0_0 l0_1 l0_2 a1_0 l1_1 l1_2 = some r) :
    Calls Tryd.prog 12 #[.agg #[.string a0_0, .slice A0_1 l0_1.length c0_1, .slice A0_2 l0_2.length c0_2], .agg #[.string a1_0, .slice A1_1 l1_1.length c1_1, .slice A1_2 l1_2.length c1_2]] w fun e w' => e = .returned (.bool r) ∧ Below w.heap.size w w' := by
  have hu27 := Tryd.underlying27
  have HR0_1 := Aside0.mk hr0_1
  have HC0_1 := Aside0.mk hc0_1
  clear hr0_1 hc0_1
  have HR0_2 := Aside0.mk hr0_2
  have HC0_2 := Aside0.mk hc0_2
  clear hr0_2 hc0_2
  have HR1_1 := Aside0.mk hr1_1
  have HC1_1 := Aside0.mk hc1_1
  clear hr1_1 hc1_1
  have HR1_2 := Aside0.mk hr1_2
  have HC1_2 := Aside0.mk hc1_2
  clear hr1_2 hc1_2
  have HB := Aside0.mk (Below.refl w.heap.size w)
  have H : (if a0_0.toList = a1_0.toList then ((spec_SameSigs.f k l0_1 l1_1).bind fun t296 => (if t296 = true then ((spec_SameSigs.f k l0_2 l1_2).bind fun t297 => (some t297)) else (some false))) else (some false)) = some r := h
  clear h
  by_cases c3 : a0_0.toList = a1_0.toList
  · rw [if_pos c3] at H
    have c3b0 : (a0_0.toList == a1_0.toList) = true := beq_iff_eq.mpr c3
    have c3b1 : (a0_0.toList != a1_0.toList) = false := bne_eq_false_iff_eq.mpr c3
    clear c3
    replace H := Option.bind_eq_some_iff.mp H
    obtain ⟨t296, A40, H⟩ := H
    replace H : (if t296 = true then ((spec_SameSigs.f k l0_2 l1_2).bind fun t297 => (some t297)) else (some false)) = some r := H
    have A4 := Aside0.mk A40
    clear A40
    by_cases c5 : t296 = true
    · subst c5
      have H1 : ((spec_SameSigs.f k l0_2 l1_2).bind fun t297 => (some t297)) = some r := by rw [if_pos rfl] at H; exact H
      clear H
      have H := H1
      clear H1
      replace H := Option.bind_eq_some_iff.mp H
      obtain ⟨t297, A60, H⟩ := H
      replace H : (some t297) = some r := H
      have A6 := Aside0.mk A60
      clear A60
      obtain rfl := Option.some.inj H
      go_enter Tryd.func12, Tryd.ntmps12
      go_wp2_with (first | ((with_reducible refine gate_dst (N := 2) rfl ?_); refine box_event ?hg (N := 2) ?hd (cs := #[.string a0_0, .slice A0_1 l0_1.length c0_1, .slice A0_2 l0_2.length c0_2]) (t := 27) ?hr ?_; (case hd => rfl); (case hg => rfl); (case hr => first | (go_simp; done) | (go_simp; rfl)); intro gb294 hg w7 hbox hb; have n0_ := Aside0.mk (below_step (by repeat (first | (with_reducible first | exact HB.out | apply below_alloc | apply pw_below_drewN | apply below_drew1) | exact HB.out)) hb); have n1_ := Aside0.mk (hbox); have n2_ := Aside0.mk ((by rw [hg]; exact (below_size (by repeat (first | (with_reducible first | exact HB.out | apply below_alloc | apply pw_below_drewN | apply below_drew1) | exact HB.out))) : w.heap.size ≤ gb294)); have n3_ := Aside0.mk ((by rw [hg]; exact (below_size (by repeat (first | (with_reducible first | exact HB.out | apply below_alloc | apply pw_below_drewN | apply below_drew1) | exact HB.out))) : w.heap.size ≤ gb294)); clear HB; have HB := n0_; have BK294 := n1_; have GW294 := n2_; have GE294 := n3_; clear n0_ n1_ n2_ n3_; clear hb hbox hg) | ((with_reducible refine gate_dst (N := 3) rfl ?_); refine box_event ?hg (N := 3) ?hd (cs := #[.string a1_0, .slice A1_1 l1_1.length c1_1, .slice A1_2 l1_2.length c1_2]) (t := 27) ?hr ?_; (case hd => rfl); (case hg => rfl); (case hr => first | (go_simp; done) | (go_simp; rfl)); intro gb295 hg w8 hbox hb; have n0_ := Aside0.mk (blk_below (g := gb294) (o := .cells #[.string a0_0, .slice A0_1 l0_1.length c0_1, .slice A0_2 l0_2.length c0_2] 27 (0, 0)) (by (with_reducible repeat (first | refine blk_drewN ?_ _ | refine blk_drew ?_ | refine blk_alloc ?_ _)); exact BK294.out) hb); have n1_ := Aside0.mk (below_step (by repeat (first | (with_reducible first | exact HB.out | apply below_alloc | apply pw_below_drewN | apply below_drew1 | refine below_set ?_ GE294.out) | exact HB.out)) hb); have n2_ := Aside0.mk (hbox); have n3_ := Aside0.mk ((by rw [hg]; exact (below_size (by repeat (first | (with_reducible first | exact HB.out | apply below_alloc | apply pw_below_drewN | apply below_drew1 | refine below_set ?_ GE294.out) | exact HB.out))) : w.heap.size ≤ gb295)); have n4_ := Aside0.mk ((by rw [hg]; exact (below_size (by repeat (first | (with_reducible first | exact HB.out | apply below_alloc | apply pw_below_drewN | apply below_drew1 | refine below_set ?_ GE294.out) | exact HB.out))) : w.heap.size ≤ gb295)); have n5_ := Aside0.mk ((by rw [hg]; exact Nat.ne_of_lt (blk_lt (g := gb294) (o := .cells #[.string a0_0, .slice A0_1 l0_1.length c0_1, .slice A0_2 l0_2.length c0_2] 27 (0, 0)) (by (with_reducible repeat (first | refine blk_drewN ?_ _ | refine blk_drew ?_ | refine blk_alloc ?_ _)); exact BK294.out)) : gb294 ≠ gb295)); have n6_ := Aside0.mk ((by rw [hg]; exact Nat.ne_of_gt (blk_lt (g := gb294) (o := .cells #[.string a0_0, .slice A0_1 l0_1.length c0_1, .slice A0_2 l0_2.length c0_2] 27 (0, 0)) (by (with_reducible repeat (first | refine blk_drewN ?_ _ | refine blk_drew ?_ | refine blk_alloc ?_ _)); exact BK294.out)) : gb295 ≠ gb294)); clear BK294; clear HB; have BK294 := n0_; have HB := n1_; have BK295 := n2_; have GW295 := n3_; have GE295 := n4_; have NB294_295 := n5_; have NB295_294 := n6_; clear n0_ n1_ n2_ n3_ n4_ n5_ n6_; clear hb hbox hg; have hnb9 := NB294_295.out; have hnc9 := NB295_294.out; have hcz10_0 : w8.cell? ⟨gb294, 0, none⟩ = some (.string a0_0) := (blk_cell BK294.out 0).trans rfl; have hcz10_1 : w8.cell? ⟨gb294, 1, none⟩ = some (.slice A0_1 l0_1.length c0_1) := (blk_cell BK294.out 1).trans rfl; have hcz10_2 : w8.cell? ⟨gb294, 2, none⟩ = some (.slice A0_2 l0_2.length c0_2) := (blk_cell BK294.out 2).trans rfl; have hfz10_0 := blk_frozen BK294.out 0; have hfz10_1 := blk_frozen BK294.out 1; have hfz10_2 := blk_frozen BK294.out 2; have hcz11_0 : w8.cell? ⟨gb295, 0, none⟩ = some (.string a1_0) := (blk_cell BK295.out 0).trans rfl; have hcz11_1 : w8.cell? ⟨gb295, 1, none⟩ = some (.slice A1_1 l1_1.length c1_1) := (blk_cell BK295.out 1).trans rfl; have hcz11_2 : w8.cell? ⟨gb295, 2, none⟩ = some (.slice A1_2 l1_2.length c1_2) := (blk_cell BK295.out 2).trans rfl; have hfz11_0 := blk_frozen BK295.out 0; have hfz11_1 := blk_frozen BK295.out 1; have hfz11_2 := blk_frozen BK295.out 2) | (go_at_call 27; (with_reducible refine (spec_SameSigs.calls k _ _ l0_1 _ _ l1_1 true _ ?side1 ?side2 ?side3 ?side4 A4.out).mono ?_); (case side1 => repeat (first | exact (Kd.C_below HR0_1.out HB.out) | (with_reducible refine Kd.C_alloc ?_ _) | (with_reducible refine Kd.C_drewN ?_ _) | (with_reducible refine Kd.C_drew ?_))); (case side2 => exact HC0_1.out); (case side3 => repeat (first | exact (Kd.C_below HR1_1.out HB.out) | (with_reducible refine Kd.C_alloc ?_ _) | (with_reducible refine Kd.C_drewN ?_ _) | (with_reducible refine Kd.C_drew ?_))); (case side4 => exact HC1_1.out); rintro e w' ⟨rfl, ⟨nd, rfl⟩⟩) | (go_at_call 27; (with_reducible refine (spec_SameSigs.calls k _ _ l0_2 _ _ l1_2 t297 _ ?side1 ?side2 ?side3 ?side4 A6.out).mono ?_); (case side1 => repeat (first | exact (Kd.C_below HR0_2.out (by repeat (first | (with_reducible first | exact HB.out | apply below_alloc | apply pw_below_drewN | apply below_drew1 | refine below_set ?_ GE294.out | refine below_set ?_ GE295.out) | exact HB.out))) | (with_reducible refine Kd.C_alloc ?_ _) | (with_reducible refine Kd.C_drewN ?_ _) | (with_reducible refine Kd.C_drew ?_))); (case side2 => exact HC0_2.out); (case side3 => repeat (first | exact (Kd.C_below HR1_2.out (by repeat (first | (with_reducible first | exact HB.out | apply below_alloc | apply pw_below_drewN | apply below_drew1 | refine below_set ?_ GE294.out | refine below_set ?_ GE295.out) | exact HB.out))) | (with_reducible refine Kd.C_alloc ?_ _) | (with_reducible refine Kd.C_drewN ?_ _) | (with_reducible refine Kd.C_drew ?_))); (case side4 => exact HC1_2.out); rintro e w' ⟨rfl, ⟨nd, rfl⟩⟩))
      go_ret
      exact ⟨by first | rfl | (simp [errW_none, errW_some] <;> rfl) | (simp [*, errW_none, errW_some] <;> rfl), by repeat (first | (with_reducible first | exact HB.out | apply below_alloc | apply pw_below_drewN | apply below_drew1 | refine below_set ?_ GE294.out | refine below_set ?_ GE295.out) | exact HB.out)⟩
    · replace c5 := Bool.eq_false_iff.mpr c5
      subst c5
      have H1 : (some false) = some r := by rw [if_neg (show ¬ (false = true) by decide)] at H; exact H
      clear H
      have H := H1
      clear H1
      obtain rfl := Option.some.inj H
      go_enter Tryd.func12, Tryd.ntmps12
      go_wp2_with (first | ((with_reducible refine gate_dst (N := 2) rfl ?_); refine box_event ?hg (N := 2) ?hd (cs := #[.string a0_0, .slice A0_1 l0_1.length c0_1, .slice A0_2 l0_2.length c0_2]) (t := 27) ?hr ?_; (case hd => rfl); (case hg => rfl); (case hr => first | (go_simp; done) | (go_simp; rfl)); intro gb294 hg w12 hbox hb; have n0_ := Aside0.mk (below_step (by repeat (first | (with_reducible first | exact HB.out | apply below_alloc | apply pw_below_drewN | apply below_drew1) | exact HB.out)) hb); have n1_ := Aside0.mk (hbox); have n2_ := Aside0.mk ((by rw [hg]; exact (below_size (by repeat (first | (with_reducible first | exact HB.out | apply below_alloc | apply pw_below_drewN | apply below_drew1) | exact HB.out))) : w.heap.size ≤ gb294)); have n3_ := Aside0.mk ((by rw [hg]; exact (below_size (by repeat (first | (with_reducible first | exact HB.out | apply below_alloc | apply pw_below_drewN | apply below_drew1) | exact HB.out))) : w.heap.size ≤ gb294)); clear HB; have HB := n0_; have BK294 := n1_; have GW294 := n2_; have GE294 := n3_; clear n0_ n1_ n2_ n3_; clear hb hbox hg) | ((with_reducible refine gate_dst (N := 3) rfl ?_); refine box_event ?hg (N := 3) ?hd (cs := #[.string a1_0, .slice A1_1 l1_1.length c1_1, .slice A1_2 l1_2.length c1_2]) (t := 27) ?hr ?_; (case hd => rfl); (case hg => rfl); (case hr => first | (go_simp; done) | (go_simp; rfl)); intro gb295 hg w13 hbox hb; have n0_ := Aside0.mk (blk_below (g := gb294) (o := .cells #[.string a0_0, .slice A0_1 l0_1.length c0_1, .slice A0_2 l0_2.length c0_2] 27 (0, 0)) (by (with_reducible repeat (first | refine blk_drewN ?_ _ | refine blk_drew ?_ | refine blk_alloc ?_ _)); exact BK294.out) hb); have n1_ := Aside0.mk (below_step (by repeat (first | (with_reducible first | exact HB.out | apply below_alloc | apply pw_below_drewN | apply below_drew1 | refine below_set ?_ GE294.out) | exact HB.out)) hb); have n2_ := Aside0.mk (hbox); have n3_ := Aside0.mk ((by rw [hg]; exact (below_size (by repeat (first | (with_reducible first | exact HB.out | apply below_alloc | apply pw_below_drewN | apply below_drew1 | refine below_set ?_ GE294.out) | exact HB.out))) : w.heap.size ≤ gb295)); have n4_ := Aside0.mk ((by rw [hg]; exact (below_size (by repeat (first | (with_reducible first | exact HB.out | apply below_alloc | apply pw_below_drewN | apply below_drew1 | refine below_set ?_ GE294.out) | exact HB.out))) : w.heap.size ≤ gb295)); have n5_ := Aside0.mk ((by rw [hg]; exact Nat.ne_of_lt (blk_lt (g := gb294) (o := .cells #[.string a0_0, .slice A0_1 l0_1.length c0_1, .slice A0_2 l0_2.length c0_2] 27 (0, 0)) (by (with_reducible repeat (first | refine blk_drewN ?_ _ | refine blk_drew ?_ | refine blk_alloc ?_ _)); exact BK294.out)) : gb294 ≠ gb295)); have n6_ := Aside0.mk ((by rw [hg]; exact Nat.ne_of_gt (blk_lt (g := gb294) (o := .cells #[.string a0_0, .slice A0_1 l0_1.length c0_1, .slice A0_2 l0_2.length c0_2] 27 (0, 0)) (by (with_reducible repeat (first | refine blk_drewN ?_ _ | refine blk_drew ?_ | refine blk_alloc ?_ _)); exact BK294.out)) : gb295 ≠ gb294)); clear BK294; clear HB; have BK294 := n0_; have HB := n1_; have BK295 := n2_; have GW295 := n3_; have GE295 := n4_; have NB294_295 := n5_; have NB295_294 := n6_; clear n0_ n1_ n2_ n3_ n4_ n5_ n6_; clear hb hbox hg; have hnb14 := NB294_295.out; have hnc14 := NB295_294.out; have hcz15_0 : w13.cell? ⟨gb294, 0, none⟩ = some (.string a0_0) := (blk_cell BK294.out 0).trans rfl; have hcz15_1 : w13.cell? ⟨gb294, 1, none⟩ = some (.slice A0_1 l0_1.length c0_1) := (blk_cell BK294.out 1).trans rfl; have hcz15_2 : w13.cell? ⟨gb294, 2, none⟩ = some (.slice A0_2 l0_2.length c0_2) := (blk_cell BK294.out 2).trans rfl; have hfz15_0 := blk_frozen BK294.out 0; have hfz15_1 := blk_frozen BK294.out 1; have hfz15_2 := blk_frozen BK294.out 2; have hcz16_0 : w13.cell? ⟨gb295, 0, none⟩ = some (.string a1_0) := (blk_cell BK295.out 0).trans rfl; have hcz16_1 : w13.cell? ⟨gb295, 1, none⟩ = some (.slice A1_1 l1_1.length c1_1) := (blk_cell BK295.out 1).trans rfl; have hcz16_2 : w13.cell? ⟨gb295, 2, none⟩ = some (.slice A1_2 l1_2.length c1_2) := (blk_cell BK295.out 2).trans rfl; have hfz16_0 := blk_frozen BK295.out 0; have hfz16_1 := blk_frozen BK295.out 1; have hfz16_2 := blk_frozen BK295.out 2) | (go_at_call 27; (with_reducible refine (spec_SameSigs.calls k _ _ l0_1 _ _ l1_1 false _ ?side1 ?side2 ?side3 ?side4 A4.out).mono ?_); (case side1 => repeat (first | exact (Kd.C_below HR0_1.out HB.out) | (with_reducible refine Kd.C_alloc ?_ _) | (with_reducible refine Kd.C_drewN ?_ _) | (with_reducible refine Kd.C_drew ?_))); (case side2 => exact HC0_1.out); (case side3 => repeat (first | exact (Kd.C_below HR1_1.out HB.out) | (with_reducible refine Kd.C_alloc ?_ _) | (with_reducible refine Kd.C_drewN ?_ _) | (with_reducible refine Kd.C_drew ?_))); (case side4 => exact HC1_1.out); rintro e w' ⟨rfl, ⟨nd, rfl⟩⟩))
      go_ret
      exact ⟨by first | rfl | (simp [errW_none, errW_some] <;> rfl) | (simp [*, errW_none, errW_some] <;> rfl), by repeat (first | (with_reducible first | exact HB.out | apply below_alloc | apply pw_below_drewN | apply below_drew1 | refine below_set ?_ GE294.out | refine below_set ?_ GE295.out) | exact HB.out)⟩
  · rw [if_neg c3] at H
    have c3b0 : (a0_0.toList == a1_0.toList) = false := beq_eq_false_iff_ne.mpr c3
    have c3b1 : (a0_0.toList != a1_0.toList) = true := bne_iff_ne.mpr c3
    obtain rfl := Option.some.inj H
    go_enter Tryd.func12, Tryd.ntmps12
    go_wp2_with (first | ((with_reducible refine gate_dst (N := 2) rfl ?_); refine box_event ?hg (N := 2) ?hd (cs := #[.string a0_0, .slice A0_1 l0_1.length c0_1, .slice A0_2 l0_2.length c0_2]) (t := 27) ?hr ?_; (case hd => rfl); (case hg => rfl); (case hr => first | (go_simp; done) | (go_simp; rfl)); intro gb294 hg w17 hbox hb; have n0_ := Aside0.mk (below_step (by repeat (first | (with_reducible first | exact HB.out | apply below_alloc | apply pw_below_drewN | apply below_drew1) | exact HB.out)) hb); have n1_ := Aside0.mk (hbox); have n2_ := Aside0.mk ((by rw [hg]; exact (below_size (by repeat (first | (with_reducible first | exact HB.out | apply below_alloc | apply pw_below_drewN | apply below_drew1) | exact HB.out))) : w.heap.size ≤ gb294)); have n3_ := Aside0.mk ((by rw [hg]; exact (below_size (by repeat (first | (with_reducible first | exact HB.out | apply below_alloc | apply pw_below_drewN | apply below_drew1) | exact HB.out))) : w.heap.size ≤ gb294)); clear HB; have HB := n0_; have BK294 := n1_; have GW294 := n2_; have GE294 := n3_; clear n0_ n1_ n2_ n3_; clear hb hbox hg) | ((with_reducible refine gate_dst (N := 3) rfl ?_); refine box_event ?hg (N := 3) ?hd (cs := #[.string a1_0, .slice A1_1 l1_1.length c1_1, .slice A1_2 l1_2.length c1_2]) (t := 27) ?hr ?_; (case hd => rfl); (case hg => rfl); (case hr => first | (go_simp; done) | (go_simp; rfl)); intro gb295 hg w18 hbox hb; have n0_ := Aside0.mk (blk_below (g := gb294) (o := .cells #[.string a0_0, .slice A0_1 l0_1.length c0_1, .slice A0_2 l0_2.length c0_2] 27 (0, 0)) (by (with_reducible repeat (first | refine blk_drewN ?_ _ | refine blk_drew ?_ | refine blk_alloc ?_ _)); exact BK294.out) hb); have n1_ := Aside0.mk (below_step (by repeat (first | (with_reducible first | exact HB.out | apply below_alloc | apply pw_below_drewN | apply below_drew1 | refine below_set ?_ GE294.out) | exact HB.out)) hb); have n2_ := Aside0.mk (hbox); have n3_ := Aside0.mk ((by rw [hg]; exact (below_size (by repeat (first | (with_reducible first | exact HB.out | apply below_alloc | apply pw_below_drewN | apply below_drew1 | refine below_set ?_ GE294.out) | exact HB.out))) : w.heap.size ≤ gb295)); have n4_ := Aside0.mk ((by rw [hg]; exact (below_size (by repeat (first | (with_reducible first | exact HB.out | apply below_alloc | apply pw_below_drewN | apply below_drew1 | refine below_set ?_ GE294.out) | exact HB.out))) : w.heap.size ≤ gb295)); have n5_ := Aside0.mk ((by rw [hg]; exact Nat.ne_of_lt (blk_lt (g := gb294) (o := .cells #[.string a0_0, .slice A0_1 l0_1.length c0_1, .slice A0_2 l0_2.length c0_2] 27 (0, 0)) (by (with_reducible repeat (first | refine blk_drewN ?_ _ | refine blk_drew ?_ | refine blk_alloc ?_ _)); exact BK294.out)) : gb294 ≠ gb295)); have n6_ := Aside0.mk ((by rw [hg]; exact Nat.ne_of_gt (blk_lt (g := gb294) (o := .cells #[.string a0_0, .slice A0_1 l0_1.length c0_1, .slice A0_2 l0_2.length c0_2] 27 (0, 0)) (by (with_reducible repeat (first | refine blk_drewN ?_ _ | refine blk_drew ?_ | refine blk_alloc ?_ _)); exact BK294.out)) : gb295 ≠ gb294)); clear BK294; clear HB; have BK294 := n0_; have HB := n1_; have BK295 := n2_; have GW295 := n3_; have GE295 := n4_; have NB294_295 := n5_; have NB295_294 := n6_; clear n0_ n1_ n2_ n3_ n4_ n5_ n6_; clear hb hbox hg; have hnb19 := NB294_295.out; have hnc19 := NB295_294.out; have hcz20_0 : w18.cell? ⟨gb294, 0, none⟩ = some (.string a0_0) := (blk_cell BK294.out 0).trans rfl; have hcz20_1 : w18.cell? ⟨gb294, 1, none⟩ = some (.slice A0_1 l0_1.length c0_1) := (blk_cell BK294.out 1).trans rfl; have hcz20_2 : w18.cell? ⟨gb294, 2, none⟩ = some (.slice A0_2 l0_2.length c0_2) := (blk_cell BK294.out 2).trans rfl; have hfz20_0 := blk_frozen BK294.out 0; have hfz20_1 := blk_frozen BK294.out 1; have hfz20_2 := blk_frozen BK294.out 2; have hcz21_0 : w18.cell? ⟨gb295, 0, none⟩ = some (.string a1_0) := (blk_cell BK295.out 0).trans rfl; have hcz21_1 : w18.cell? ⟨gb295, 1, none⟩ = some (.slice A1_1 l1_1.length c1_1) := (blk_cell BK295.out 1).trans rfl; have hcz21_2 : w18.cell? ⟨gb295, 2, none⟩ = some (.slice A1_2 l1_2.length c1_2) := (blk_cell BK295.out 2).trans rfl; have hfz21_0 := blk_frozen BK295.out 0; have hfz21_1 := blk_frozen BK295.out 1; have hfz21_2 := blk_frozen BK295.out 2))
    go_ret
    exact ⟨by first | rfl | (simp [errW_none, errW_some] <;> rfl) | (simp [*, errW_none, errW_some] <;> rfl), by repeat (first | (with_reducible first | exact HB.out | apply below_alloc | apply pw_below_drewN | apply below_drew1 | refine below_set ?_ GE294.out | refine below_set ?_ GE295.out) | exact HB.out)⟩
def laws_sigs.l0 : Nat → List (S37) → List (S75) → Int → Int → Option ((List (S37)))
  | 0, _, _, _, _ => none
  | k + 1, x3, x7, x8, x9 => if x9 < x8 then (if 0 ≤ x9 then (if x9 < (x7.length : Int) then (if x3.length < 3518437208883 then (laws_sigs.l0 k (x3 ++ [(⟨(rd_T75 x7 x9).f0, (rd_T75 x7 x9).f1, (rd_T75 x7 x9).f2⟩ : S37)]) x7 x8 (wrap64 (x9 + 1))) else (none)) else (none)) else (none)) else (some x3)
def laws_sigs.f (k : Nat) (l0 : List (S75)) : Option ((List (S37))) := laws_sigs.l0 k (([] : List (S37))) l0 (l0.length : Int) 0
theorem laws_sigs.mono_l : ∀ k, (∀ y0 y1 y2 y3, LeO (laws_sigs.l0 k y0 y1 y2 y3) (laws_sigs.l0 (k + 1) y0 y1 y2 y3))
  | 0 => fun _ _ _ _ r h => by simp [laws_sigs.l0] at h
  | k + 1 => by
    have ih0 := laws_sigs.mono_l k
    · intro y0 y1 y2 y3
      unfold laws_sigs.l0
      repeat' first
      | (with_reducible exact ih0 _ _ _ _)
      | (with_reducible exact LeO.refl _)
      | (with_reducible exact LeO.none _)
      | (with_reducible refine LeO.ite ?_ ?_)
      | (with_reducible refine LeO.bind ?_ (fun _ => ?_))
      | exact ih0 _ _ _ _
      | exact LeO.none _
      | refine LeO.ite ?_ ?_
      | refine LeO.bind ?_ (fun _ => ?_)
theorem laws_sigs.mono : ∀ a0 k, LeO (laws_sigs.f k a0) (laws_sigs.f (k + 1) a0) := by
  intro a0 k
  have ih0 := laws_sigs.mono_l k
  unfold laws_sigs.f
  repeat' first
      | (with_reducible exact ih0 _ _ _ _)
      | (with_reducible exact LeO.refl _)
      | (with_reducible exact LeO.none _)
      | (with_reducible refine LeO.ite ?_ ?_)
      | (with_reducible refine LeO.bind ?_ (fun _ => ?_))
      | exact ih0 _ _ _ _
      | exact LeO.none _
      | refine LeO.ite ?_ ?_
      | refine LeO.bind ?_ (fun _ => ?_)
set_option maxHeartbeats 8000000 in
set_option maxRecDepth 100000 in
theorem laws_sigs.calls (k : Nat) (A0 : Option Addr) (c0 : Nat) (l0 : List (S75)) (r : List (S37)) (w : World) (hr0 : Kd.C k75 w A0 l0.length l0) (hc0 : l0.length ≤ c0) (h : laws_sigs.f k l0 = some r) :
    Calls Tryd.prog 28 #[.slice A0 l0.length c0] w fun e w' => ∃ v0_ : Value, e = .returned (v0_) ∧ Kd.R k37 37 w' w.heap.size (fun _ => True) v0_ r ∧ Below w.heap.size w w' := by
  have hu75 := Tryd.underlying75
  have hu37 := Tryd.underlying37
  have HR0 := Aside0.mk hr0
  have HC0 := Aside0.mk hc0
  clear hr0 hc0
  have HB := Aside0.mk (Below.refl w.heap.size w)
  have H : (laws_sigs.l0 k (([] : List (S37))) l0 (l0.length : Int) 0) = some r := h
  clear h
  obtain ⟨y298, hy298⟩ : ∃ y_ : List (S37), y_ = (([] : List (S37))) := ⟨_, rfl⟩
  replace H : (laws_sigs.l0 k y298 l0 (l0.length : Int) 0) = some r := by first | (rw [hy298]; with_reducible exact H) | (have H2_ := (Option.bind_some _ _).symm.trans H; rw [hy298]; with_reducible exact H2_) | (have H2_ := (Option.bind_some _ _).symm.trans H; with_reducible exact H2_) | with_reducible exact H | (rw [hy298]; exact H) | exact H
  have Ny298 := Aside0.mk hy298
  clear hy298
  have H' := Aside0.mk H
  clear H
  go_enter Tryd.func28, Tryd.ntmps28
  go_wp2_with (first | ((with_reducible refine gate_dst (N := 6) rfl ?_); refine Kd.R_lit k37 _ 37 ?hg (N := 6) ?hd (xs := ([] : List (S37))) (inner := []) (ok := fun _ => True) (okp := fun _ => True) ?hr ?hp (fun _ hk => hk) trivial (Below.refl _ _) (Nat.le_refl _) (by simp) ?_; (case hd => rfl); (case hg => rfl); (case hr => first | (go_simp; done) | (go_simp; rfl)); (case hp => exact (Reps.none _ _)); intro v299 w2 ho3 hb hg_ hnew_; clear hg_ hnew_; (first | rw [← Ny298.out] at ho3 | (simp only [Int.reduceToNat] at ho3; rw [← Ny298.out] at ho3)); have n0_ := Aside0.mk (Kd.R_lower ho3 (below_size (by repeat (first | (with_reducible first | exact HB.out | apply below_alloc | apply pw_below_drewN | apply below_drew1) | exact HB.out)))); have n1_ := Aside0.mk (below_step (by repeat (first | (with_reducible first | exact HB.out | apply below_alloc | apply pw_below_drewN | apply below_drew1) | exact HB.out)) hb); clear HB; have HO300 := n0_; have HB := n1_; clear n0_ n1_; clear hb ho3))
  go_loopg [3, 9] k (fun kq v3 v9 w' => ∃ (x3_1 : List (S37)) (x9_1 : Int), v9 = .int .i64 x9_1 ∧ Aside0 (laws_sigs.l0 kq x3_1 l0 (l0.length : Int) x9_1 = some r) ∧ Aside0 (kq ≤ k) ∧ Aside0 (Kd.R k37 37 w' w.heap.size (fun _ => True) v3 x3_1) ∧ Aside0 (Below w.heap.size w w'))
  case atStart => exact ⟨(y298), (0), (by first | rfl | (simp; done) | (simp [*]; done)), H', ⟨Nat.le_refl _⟩, ⟨by (with_reducible repeat (first | apply Kd.R_alloc | apply Kd.R_drewN | apply Kd.R_drew)); exact HO300.out⟩, ⟨by repeat (first | (with_reducible first | exact HB.out | apply below_alloc | apply pw_below_drewN | apply below_drew1) | exact HB.out)⟩⟩
  case round =>
    clear H'
    try clear c2
    try clear p2
    obtain ⟨x3_1, x9_1, rfl, HA, HK1, HO_3, HB⟩ := hrel
    cases gk with
    | zero => exact absurd HA.out (by simp [laws_sigs.l0])
    | succ k1 =>
      have H := HA.out
      clear HA
      simp only [laws_sigs.l0] at H
      by_cases c4 : x9_1 < (l0.length : Int)
      · rw [if_pos c4] at H
        have c4b0 : decide (x9_1 < (l0.length : Int)) = true := decide_eq_true c4
        clear c4
        by_cases c5 : 0 ≤ x9_1
        · rw [if_pos c5] at H
          have c5b0 : decide (0 ≤ x9_1) = true := decide_eq_true c5
          clear c5
          by_cases c6 : x9_1 < (l0.length : Int)
          · rw [if_pos c6] at H
            have c6b0 : decide (x9_1 < (l0.length : Int)) = true := decide_eq_true c6
            clear c6
            by_cases c7 : x3_1.length < 3518437208883
            · rw [if_pos c7] at H
              have LMc7 := Aside0.mk c7
              clear c7
              obtain ⟨y303, hy303⟩ : ∃ y_ : List (S37), y_ = (x3_1 ++ [(⟨(rd_T75 l0 x9_1).f0, (rd_T75 l0 x9_1).f1, (rd_T75 l0 x9_1).f2⟩ : S37)]) := ⟨_, rfl⟩
              replace H : (laws_sigs.l0 k1 y303 l0 (l0.length : Int) (wrap64 (x9_1 + 1))) = some r := by first | (rw [hy303]; with_reducible exact H) | (have H2_ := (Option.bind_some _ _).symm.trans H; rw [hy303]; with_reducible exact H2_) | (have H2_ := (Option.bind_some _ _).symm.trans H; with_reducible exact H2_) | with_reducible exact H | (rw [hy303]; exact H) | exact H
              have Ny303 := Aside0.mk hy303
              clear hy303
              have H' := Aside0.mk H
              clear H
              have p301 : 0 ≤ (x9_1 : Int) := of_decide_eq_true (by first | (with_reducible assumption) | assumption)
              have q301 : x9_1 < (l0.length : Int) := of_decide_eq_true (by first | (with_reducible assumption) | assumption)
              obtain ⟨ad301, e301, hx301_0, hx301_1, hx301_2⟩ := at_T75 HR0.out x9_1 p301 q301
              cases e301
              replace hx301_0 := (HB.out.cell (World.block_lt_of_cell? w _ hx301_0)).trans hx301_0
              replace hx301_1 := (HB.out.cell (World.block_lt_of_cell? w _ hx301_1)).trans hx301_1
              replace hx301_2 := (HB.out.cell (World.block_lt_of_cell? w _ hx301_2)).trans hx301_2
              replace p301 := eq_true p301
              replace q301 := eq_true q301
              go_wp2_with (first | ((with_reducible refine gate_dst (N := 5) rfl ?_); refine box_event ?hg (N := 5) ?hd (cs := #[.string (⟨#[]⟩ : ByteArray), .int .u32 0, .string (⟨#[]⟩ : ByteArray)]) (t := 75) ?hr ?_; (case hd => rfl); (case hg => rfl); (case hr => first | (go_simp; done) | (go_simp; rfl)); intro gb302 hg w8 hbox hb; have n0_ := Aside0.mk (Kd.R_below (by (with_reducible repeat (first | apply Kd.R_alloc | apply Kd.R_drewN | apply Kd.R_drew)); exact HO_3.out) hb); have n1_ := Aside0.mk (below_step (by repeat (first | (with_reducible first | exact HB.out | apply below_alloc | apply pw_below_drewN | apply below_drew1) | exact HB.out)) hb); have n2_ := Aside0.mk (hbox); have n3_ := Aside0.mk ((by rw [hg]; exact (below_size (by repeat (first | (with_reducible first | exact HB.out | apply below_alloc | apply pw_below_drewN | apply below_drew1) | exact HB.out))) : w.heap.size ≤ gb302)); have n4_ := Aside0.mk ((by rw [hg]; exact (below_size (by repeat (first | (with_reducible first | exact HB.out | apply below_alloc | apply pw_below_drewN | apply below_drew1) | exact HB.out))) : w.heap.size ≤ gb302)); clear HO_3; clear HB; have HO_3 := n0_; have HB := n1_; have BK302 := n2_; have GW302 := n3_; have GE302 := n4_; clear n0_ n1_ n2_ n3_ n4_; clear hb hbox hg; have hcz9_0 : w8.cell? ⟨gb302, 0, none⟩ = some (.string (⟨#[]⟩ : ByteArray)) := (blk_cell BK302.out 0).trans rfl; have hcz9_1 : w8.cell? ⟨gb302, 1, none⟩ = some (.int .u32 0) := (blk_cell BK302.out 1).trans rfl; have hcz9_2 : w8.cell? ⟨gb302, 2, none⟩ = some (.string (⟨#[]⟩ : ByteArray)) := (blk_cell BK302.out 2).trans rfl; have hfz9_0 := blk_frozen BK302.out 0; have hfz9_1 := blk_frozen BK302.out 1; have hfz9_2 := blk_frozen BK302.out 2) | ((with_reducible refine gate_builtin (b := .append) (xs := #[.tmp 13, .tmp 21]) rfl ?_); at_builtin; refine Kd.R_append k37 (w0 := w) w.heap.size rfl (.tmp 13) (.tmp 21) 25 37 (.agg #[(.string ⟨#[]⟩), (.int .u32 0), (.string ⟨#[]⟩)]) 40 rfl Tryd.underlying25 info37 rfl (by decide) (by omega) u3 x3_1 (⟨(rd_T75 l0 x9_1).f0, (rd_T75 l0 x9_1).f1, (rd_T75 l0 x9_1).f2⟩ : S37) [.string ((rd_T75 l0 x9_1).f0), .int .u32 ((rd_T75 l0 x9_1).f1), .string ((rd_T75 l0 x9_1).f2)] (fun _ => True) (fun _ => False) rfl (by first | (go_simp; done) | (go_simp; rfl)) ?aP (fun _ hk => hk.elim) ?aF ?aO ?aB ?aS ?aL ?_; (case aP => exact k37_mkM _ _ _ (⟨(rd_T75 l0 x9_1).f0, (rd_T75 l0 x9_1).f1, (rd_T75 l0 x9_1).f2⟩ : S37)); (case aB => exact (by repeat (first | (with_reducible first | exact HB.out | apply below_alloc | apply pw_below_drewN | apply below_drew1 | refine below_set ?_ GE302.out) | exact HB.out))); (case aF => exact (fun _ _ => trivial)); (case aO => exact (by (with_reducible repeat (first | apply Kd.R_alloc | apply Kd.R_drewN | apply Kd.R_drew)); exact Kd.R_mono (Kd.R_far (p := ⟨gb302, 2, none⟩) (Kd.R_far (p := ⟨gb302, 1, none⟩) (Kd.R_far (p := ⟨gb302, 0, none⟩) (Kd.R_types HO_3.out BK302.out (by decide)) (fun _ hk => hk.2) (.string ((rd_T75 l0 x9_1).f0))) (fun _ hk => hk.2) (.int .u32 ((rd_T75 l0 x9_1).f1))) (fun _ hk => hk.2) (.string ((rd_T75 l0 x9_1).f2))) (fun _ hk => trivial))); (case aS => exact (below_size (by repeat (first | (with_reducible first | exact HB.out | apply below_alloc | apply pw_below_drewN | apply below_drew1 | refine below_set ?_ GE302.out) | exact HB.out)))); (case aL => have := LMc7.out; omega); intro v304 w10 ho hb hg hat; rw [← Ny303.out] at ho; have n0_ := Aside0.mk (blk_grown (g := gb302) (o := .cells #[.string ((rd_T75 l0 x9_1).f0), .int .u32 ((rd_T75 l0 x9_1).f1), .string ((rd_T75 l0 x9_1).f2)] 75 (0, 0)) (by (with_reducible repeat (first | refine blk_drewN ?_ _ | refine blk_drew ?_ | refine blk_alloc ?_ _)); refine blk_put (cs := #[.string ((rd_T75 l0 x9_1).f0), .int .u32 ((rd_T75 l0 x9_1).f1), .string (⟨#[]⟩ : ByteArray)]) ?_ 2 _ rfl; (with_reducible repeat (first | refine blk_drewN ?_ _ | refine blk_drew ?_ | refine blk_alloc ?_ _)); refine blk_put (cs := #[.string ((rd_T75 l0 x9_1).f0), .int .u32 0, .string (⟨#[]⟩ : ByteArray)]) ?_ 1 _ rfl; (with_reducible repeat (first | refine blk_drewN ?_ _ | refine blk_drew ?_ | refine blk_alloc ?_ _)); refine blk_put (cs := #[.string (⟨#[]⟩ : ByteArray), .int .u32 0, .string (⟨#[]⟩ : ByteArray)]) ?_ 0 _ rfl; (with_reducible repeat (first | refine blk_drewN ?_ _ | refine blk_drew ?_ | refine blk_alloc ?_ _)); exact BK302.out) hg (Kd.R_ne HO_3.out BK302.out (by decide))); have n1_ := Aside0.mk (hb); have n2_ := Aside0.mk (ho); clear BK302; clear HB; clear HO_3; have BK302 := n0_; have HB := n1_; have HO305 := n2_; clear n0_ n1_ n2_; clear ho hb hg hat))
              go_roundg k1
              case measure => have := HK1.out; omega
              case rel => exact ⟨(y303), (wrap64 (x9_1 + 1)), (by first | rfl | (simp; done) | (simp [*]; done)), H', ⟨by have := HK1.out; omega⟩, ⟨by (with_reducible repeat (first | apply Kd.R_alloc | apply Kd.R_drewN | apply Kd.R_drew)); exact HO305.out⟩, ⟨by repeat (first | (with_reducible first | exact HB.out | apply below_alloc | apply pw_below_drewN | apply below_drew1 | refine below_set ?_ GE302.out) | exact HB.out)⟩⟩
            · rw [if_neg c7] at H
              exact absurd H (by simp)
          · rw [if_neg c6] at H
            exact absurd H (by simp)
        · rw [if_neg c5] at H
          exact absurd H (by simp)
      · rw [if_neg c4] at H
        have c4b0 : decide (x9_1 < (l0.length : Int)) = false := decide_eq_false c4
        clear c4
        obtain rfl := Option.some.inj H
        go_wp2
        go_ret
        exact ⟨_, by first | rfl | (simp [errW_none, errW_some] <;> rfl) | (simp [*, errW_none, errW_some] <;> rfl), by (with_reducible repeat (first | apply Kd.R_alloc | apply Kd.R_drewN | apply Kd.R_drew)); exact HO_3.out, by repeat (first | (with_reducible first | exact HB.out | apply below_alloc | apply pw_below_drewN | apply below_drew1) | exact HB.out)⟩
end Go.Proofs.YtkbegfihdpiacaaDoor.PX

namespace Go.Proofs
open Go.Shelf
def Tryd.laysGw15_ren : Go.Shelf.Ren := ⟨fun | 15 => 64 | 20 => 80 | n => n, fun | 9 => 9 | 23 => 147 | 3 => 3 | 4 => 4 | 0 => 0 | 21 => 21 | n => n, fun | n => n⟩
theorem Tryd.laysGw15 : Go.Proofs.LaysGw.n15 Tryd.prog Tryd.laysGw15_ren := {
  mixed := by kernel_rfl
  f15 := Tryd.func64.trans (congrArg some (by kernel_rfl))
  f20 := Tryd.func80.trans (congrArg some (by kernel_rfl))
  t0 := Tryd.underlying0
  a0 := Tryd.isAgg0
  z0 := Tryd.sizeOf0
  v0 := Tryd.zeroValue0
  i0 := by kernel_rfl
  t3 := Tryd.underlying3
  a3 := Tryd.isAgg3
  z3 := Tryd.sizeOf3
  v3 := Tryd.zeroValue3
  i3 := by kernel_rfl
  t4 := Tryd.underlying4
  a4 := Tryd.isAgg4
  z4 := Tryd.sizeOf4
  v4 := Tryd.zeroValue4
  i4 := by kernel_rfl
  t9 := Tryd.underlying9
  a9 := Tryd.isAgg9
  z9 := Tryd.sizeOf9
  v9 := Tryd.zeroValue9
  i9 := by kernel_rfl
  t21 := Tryd.underlying21
  a21 := Tryd.isAgg21
  z21 := Tryd.sizeOf21
  v21 := Tryd.zeroValue21
  i21 := by kernel_rfl
  t23 := Tryd.underlying147
  a23 := Tryd.isAgg147
  z23 := Tryd.sizeOf147
  v23 := Tryd.zeroValue147
  i23 := by kernel_rfl }
open Go.RowKit Go.Lib in
theorem Tryd.strings_IndexFunc_grows (g : Nat) (lb : Array Value) (eg : ∀ args w, (callFunc g args).run Tryd.prog w = .ok (.enter g args) w) (p : Nat → Bool) (s : ByteArray) (w : World) (hp : PredGrows Tryd.prog g lb p w) :
    Calls Tryd.prog 64 #[.string s, .func (.func g) #[] lb] w fun e w' => e = .returned (.int .i64 (Lib.idxFunc p true s)) ∧ Below w.heap.size w w' := Any.strings_IndexFunc_grows Tryd.laysGw15 g lb eg p s w hp
def Tryd.lays199_ren : Go.Shelf.Ren := ⟨fun | 199 => 65 | 261 => 81 | 311 => 85 | 312 => 86 | n => n, fun | 21 => 21 | 4 => 4 | 51 => 23 | 141 => 178 | 0 => 0 | 196 => 185 | 193 => 182 | 3 => 3 | 198 => 188 | 49 => 186 | 194 => 183 | 201 => 191 | 226 => 193 | 46 => 146 | 227 => 194 | n => n, fun | 6 => 6 | n => n⟩
theorem Tryd.lays199 : Go.Proofs.Lays.n199 Tryd.prog Tryd.lays199_ren := {
  mixed := by kernel_rfl
  f199 := Tryd.func65.trans (congrArg some (by kernel_rfl))
  f261 := Tryd.func81.trans (congrArg some (by kernel_rfl))
  f311 := Tryd.func85.trans (congrArg some (by kernel_rfl))
  f312 := Tryd.func86.trans (congrArg some (by kernel_rfl))
  t0 := Tryd.underlying0
  a0 := Tryd.isAgg0
  z0 := Tryd.sizeOf0
  v0 := Tryd.zeroValue0
  t3 := Tryd.underlying3
  a3 := Tryd.isAgg3
  z3 := Tryd.sizeOf3
  v3 := Tryd.zeroValue3
  t4 := Tryd.underlying4
  a4 := Tryd.isAgg4
  z4 := Tryd.sizeOf4
  v4 := Tryd.zeroValue4
  t21 := Tryd.underlying21
  a21 := Tryd.isAgg21
  z21 := Tryd.sizeOf21
  v21 := Tryd.zeroValue21
  t46 := Tryd.underlying146
  a46 := Tryd.isAgg146
  z46 := Tryd.sizeOf146
  v46 := Tryd.zeroValue146
  t49 := Tryd.underlying186
  a49 := Tryd.isAgg186
  z49 := Tryd.sizeOf186
  v49 := Tryd.zeroValue186
  t51 := Tryd.underlying23
  a51 := Tryd.isAgg23
  z51 := Tryd.sizeOf23
  v51 := Tryd.zeroValue23
  t141 := Tryd.underlying178
  a141 := Tryd.isAgg178
  z141 := Tryd.sizeOf178
  v141 := Tryd.zeroValue178
  t193 := Tryd.underlying182
  a193 := Tryd.isAgg182
  z193 := Tryd.sizeOf182
  v193 := Tryd.zeroValue182
  t194 := Tryd.underlying183
  a194 := Tryd.isAgg183
  z194 := Tryd.sizeOf183
  v194 := Tryd.zeroValue183
  t196 := Tryd.underlying185
  a196 := Tryd.isAgg185
  z196 := Tryd.sizeOf185
  v196 := Tryd.zeroValue185
  t198 := Tryd.underlying188
  a198 := Tryd.isAgg188
  z198 := Tryd.sizeOf188
  v198 := Tryd.zeroValue188
  t201 := Tryd.underlying191
  a201 := Tryd.isAgg191
  z201 := Tryd.sizeOf191
  v201 := Tryd.zeroValue191
  t226 := Tryd.underlying193
  a226 := Tryd.isAgg193
  z226 := Tryd.sizeOf193
  v226 := Tryd.zeroValue193
  t227 := Tryd.underlying194
  a227 := Tryd.isAgg194
  z227 := Tryd.sizeOf194
  v227 := Tryd.zeroValue194
  g6 := by kernel_rfl }
open Go.RowKit Go.Lib in
/-- **unicode.IsSpace AT EVERY int32.** (LAID: no walk: one application.) -/
theorem Tryd.unicode_IsSpace_any (r : Int) (w : World) (hlo : -2147483648 ≤ r) (hhi : r ≤ 2147483647) (hW : Lib.WhiteTab 6 w) :
    Calls Tryd.prog 65 #[.int .i32 r] w fun e w' => e = .returned (.bool (Lib.isSpaceZ r)) ∧ Below w.heap.size w w' := Any.unicode_IsSpace_any Tryd.lays199 r w hlo hhi hW
def Tryd.lays187_ren : Go.Shelf.Ren := ⟨fun | 187 => 38 | 255 => 58 | n => n, fun | 37 => 65 | 5 => 5 | 3 => 3 | n => n, fun | n => n⟩
theorem Tryd.lays187 : Go.Proofs.Lays.n187 Tryd.prog Tryd.lays187_ren := {
  mixed := by kernel_rfl
  f187 := Tryd.func38.trans (congrArg some (by kernel_rfl))
  f255 := Tryd.func58.trans (congrArg some (by kernel_rfl))
  t3 := Tryd.underlying3
  a3 := Tryd.isAgg3
  z3 := Tryd.sizeOf3
  v3 := Tryd.zeroValue3
  t5 := Tryd.underlying5
  a5 := Tryd.isAgg5
  z5 := Tryd.sizeOf5
  v5 := Tryd.zeroValue5
  t37 := Tryd.underlying65
  a37 := Tryd.isAgg65
  z37 := Tryd.sizeOf65
  v37 := Tryd.zeroValue65 }
open Go.RowKit Go.Lib in
/-- bytes.IndexByte, b at whatever address: "IndexByte returns the index of the first instance of c in b, or -1 if c is not present in b." (LAID: no walk: one application.) -/
theorem Tryd.bytes_IndexByte_at (a : Addr) (n c : Nat) (xs : List Int) (cv : Int) (w : World) (hx : xs.length = n) (hc : ∀ i, i < n → w.cell? (a.add i) = some (.int .u8 (xs.getD i 0))) :
    Calls Tryd.prog 38 #[.slice (some a) n c, .int .u8 cv] w fun e w' => e = .returned (.int .i64 (Lib.indexByte (Lib.bytesOf xs) cv.toNat.toUInt8)) ∧ w' = w := Any.bytes_IndexByte_at Tryd.lays187 a n c xs cv w hx hc
def Tryd.lays196_ren : Go.Shelf.Ren := ⟨fun | 196 => 63 | 259 => 79 | n => n, fun | 9 => 9 | 4 => 4 | 3 => 3 | 5 => 5 | 12 => 12 | 119 => 157 | 0 => 0 | 46 => 146 | 139 => 160 | 138 => 159 | 53 => 167 | n => n, fun | 3 => 3 | 4 => 4 | n => n⟩
theorem Tryd.lays196 : Go.Proofs.Lays.n196 Tryd.prog Tryd.lays196_ren := {
  mixed := by kernel_rfl
  f196 := Tryd.func63.trans (congrArg some (by kernel_rfl))
  f259 := Tryd.func79.trans (congrArg some (by kernel_rfl))
  t0 := Tryd.underlying0
  a0 := Tryd.isAgg0
  z0 := Tryd.sizeOf0
  v0 := Tryd.zeroValue0
  t3 := Tryd.underlying3
  a3 := Tryd.isAgg3
  z3 := Tryd.sizeOf3
  v3 := Tryd.zeroValue3
  t4 := Tryd.underlying4
  a4 := Tryd.isAgg4
  z4 := Tryd.sizeOf4
  v4 := Tryd.zeroValue4
  t5 := Tryd.underlying5
  a5 := Tryd.isAgg5
  z5 := Tryd.sizeOf5
  v5 := Tryd.zeroValue5
  t9 := Tryd.underlying9
  a9 := Tryd.isAgg9
  z9 := Tryd.sizeOf9
  v9 := Tryd.zeroValue9
  t12 := Tryd.underlying12
  a12 := Tryd.isAgg12
  z12 := Tryd.sizeOf12
  v12 := Tryd.zeroValue12
  t46 := Tryd.underlying146
  a46 := Tryd.isAgg146
  z46 := Tryd.sizeOf146
  v46 := Tryd.zeroValue146
  t53 := Tryd.underlying167
  a53 := Tryd.isAgg167
  z53 := Tryd.sizeOf167
  v53 := Tryd.zeroValue167
  t119 := Tryd.underlying157
  a119 := Tryd.isAgg157
  z119 := Tryd.sizeOf157
  t138 := Tryd.underlying159
  a138 := Tryd.isAgg159
  z138 := Tryd.sizeOf159
  v138 := Tryd.zeroValue159
  t139 := Tryd.underlying160
  a139 := Tryd.isAgg160
  z139 := Tryd.sizeOf160
  v139 := Tryd.zeroValue160
  g3 := by kernel_rfl
  g4 := by kernel_rfl }
open Go.RowKit in
theorem Tryd.utf8_ValidString (s : ByteArray) (w : World) (hs : s.size ≤ 9223372036854775807) (hT : Lib.Utf8Tabs 3 4 w) :
    Calls Tryd.prog 63 #[.string s] w fun e w' => e = .returned (.bool (Lib.validD s.data.toList)) ∧ Below w.heap.size w w' := Any.utf8_ValidString Tryd.lays196 s w hs hT
def Tryd.lays7n32_ren : Go.Shelf.Ren := ⟨fun | 32 => 36 | 49 => 54 | n => n, fun | 30 => 65 | 21 => 21 | 3 => 3 | 0 => 0 | 5 => 5 | 4 => 4 | 33 => 99 | 66 => 157 | 25 => 146 | 69 => 160 | 68 => 159 | n => n, fun | 2 => 3 | 3 => 4 | n => n⟩
theorem Tryd.lays7n32 : Go.Proofs.Lays7.n32 Tryd.prog Tryd.lays7n32_ren := {
  mixed := by kernel_rfl
  f32 := Tryd.func36.trans (congrArg some (by kernel_rfl))
  f49 := Tryd.func54.trans (congrArg some (by kernel_rfl))
  t0 := Tryd.underlying0
  a0 := Tryd.isAgg0
  z0 := Tryd.sizeOf0
  v0 := Tryd.zeroValue0
  i0 := by kernel_rfl
  t3 := Tryd.underlying3
  a3 := Tryd.isAgg3
  z3 := Tryd.sizeOf3
  v3 := Tryd.zeroValue3
  i3 := by kernel_rfl
  t4 := Tryd.underlying4
  a4 := Tryd.isAgg4
  z4 := Tryd.sizeOf4
  v4 := Tryd.zeroValue4
  i4 := by kernel_rfl
  t5 := Tryd.underlying5
  a5 := Tryd.isAgg5
  z5 := Tryd.sizeOf5
  v5 := Tryd.zeroValue5
  i5 := by kernel_rfl
  t21 := Tryd.underlying21
  a21 := Tryd.isAgg21
  z21 := Tryd.sizeOf21
  v21 := Tryd.zeroValue21
  i21 := by kernel_rfl
  t25 := Tryd.underlying146
  a25 := Tryd.isAgg146
  z25 := Tryd.sizeOf146
  v25 := Tryd.zeroValue146
  i25 := by kernel_rfl
  t30 := Tryd.underlying65
  a30 := Tryd.isAgg65
  z30 := Tryd.sizeOf65
  v30 := Tryd.zeroValue65
  i30 := by kernel_rfl
  t33 := Tryd.underlying99
  a33 := Tryd.isAgg99
  z33 := Tryd.sizeOf99
  v33 := Tryd.zeroValue99
  i33 := by kernel_rfl
  t66 := Tryd.underlying157
  a66 := Tryd.isAgg157
  z66 := Tryd.sizeOf157
  t68 := Tryd.underlying159
  a68 := Tryd.isAgg159
  z68 := Tryd.sizeOf159
  v68 := Tryd.zeroValue159
  i68 := by kernel_rfl
  t69 := Tryd.underlying160
  a69 := Tryd.isAgg160
  z69 := Tryd.sizeOf160
  v69 := Tryd.zeroValue160
  i69 := by kernel_rfl
  g2 := by kernel_rfl
  g3 := by kernel_rfl }
open Go.RowKit in
theorem Tryd.utf8_DecodeRune (s : ByteArray) (b off cap : Nat) (w : World) (hT : Lib.Utf8Tabs 3 4 w) (hp : ∀ j, j < s.size → w.cell? ⟨b, off + j, none⟩ = some (.int .u8 (s.get! j).toNat)) :
    Calls Tryd.prog 36 #[.slice (some ⟨b, off, none⟩) s.size cap] w fun e w' => e = .returned (.tuple #[.int .i32 (Lib.decodeGo s).1, .int .i64 (Lib.decodeGo s).2]) ∧ Below w.heap.size w w' := Any7.utf8_DecodeRune Tryd.lays7n32 s b off cap w hT hp
end Go.Proofs

namespace Go.Proofs.YtkbegfihdpiacaaDoor.PX
open Go.RowKit Nt Go.Lib Go.Proofs.YtkbegfihdpiacaaDoorW.PrintWords Go.Proofs.YtkbegfihdpiacaaDoorW.PrintLast
set_option linter.unusedVariables false
set_option linter.unusedSimpArgs false
theorem idx_none (p : Nat → Bool) (s : ByteArray) : ∀ (f pos : Nat), (decide (idxFuncFrom p true s f pos < 0)) = (runesN f (s.data.toList.drop pos)).all (fun r => !p r)
  | 0, pos => by simp [idxFuncFrom, runesN]
  | f + 1, pos => by
    have hsz : s.data.toList.length = s.size := by rw [Array.length_toList]; rfl
    by_cases h : pos < s.size
    · have hne : s.data.toList.drop pos ≠ [] := by
        intro e
        have := congrArg List.length e
        rw [List.length_drop, hsz] at this
        simp at this
        omega
      unfold idxFuncFrom
      rw [if_pos h, runesN_cons f hne, List.all_cons, decodeL_drop]
      by_cases hp : p (Utf8.decode s pos).1 = true
      · rw [if_pos hp, hp]; simp
      · rw [if_neg hp, idx_none p s f, List.drop_drop]
        simp [hp]
    · have he : s.data.toList.drop pos = [] := List.drop_eq_nil_of_le (by omega)
      rw [idxFuncFrom_end p true s _ _ h, he, runesN_nil]
      rfl
theorem idx_top (p : Nat → Bool) (s : ByteArray) : (decide (idxFunc p true s < 0)) = (runesD s.data.toList).all (fun r => !p r) := by
  have hsz : s.data.toList.length = s.size := by rw [Array.length_toList]; rfl
  unfold idxFunc runesD
  rw [idx_none, List.drop_zero, hsz]
theorem enc_plus (r : Nat) : (43 : UInt8) ∈ encodeRune (r : Int) ↔ r = 43 := by
  unfold encodeRune
  by_cases h1 : r ≤ 127
  · rw [encodeRuneZ_one (by omega) (by omega)]
    simp only [List.map_cons, List.map_nil, List.mem_singleton, Int.toNat_natCast]
    constructor
    · intro h
      have := congrArg UInt8.toNat h
      simp at this
      omega
    · rintro rfl; rfl
  · have key : ∀ x ∈ encodeRuneZ (r : Int), 128 ≤ x ∧ x < 256 := by
      intro x hx
      unfold encodeRuneZ at hx
      repeat' split at hx
      all_goals simp at hx
      all_goals omega
    constructor
    · intro h
      obtain ⟨x, hx, he⟩ := List.mem_map.1 h
      have hk := key x hx
      have := congrArg UInt8.toNat he
      simp at this
      omega
    · omega
theorem plus_runes (l : List UInt8) (hv : validD l = true) : (runesD l).all (fun r => !(r == 43)) = !l.contains 43 := by
  have he : encs (runesD l) = l := by
    rcases encs_runes l.length l rfl with ⟨_, k⟩ | ⟨a, _⟩
    · exact k
    · rw [a] at hv; cases hv
  rw [Bool.eq_iff_iff]
  simp only [List.all_eq_true, Bool.not_eq_true', beq_eq_false_iff_ne, List.contains_eq_mem, decide_eq_false_iff_not]
  constructor
  · intro h hm
    rw [← he] at hm
    simp only [Nt.encs, List.mem_flatten, List.mem_map] at hm
    obtain ⟨b, ⟨r, hr, rfl⟩, hb⟩ := hm
    exact h r hr ((enc_plus r).1 hb)
  · intro h r hr e
    refine h ?_
    rw [← he]
    simp only [Nt.encs, List.mem_flatten, List.mem_map]
    exact ⟨_, ⟨r, hr, rfl⟩, (enc_plus r).2 e⟩
theorem name_split (l : List UInt8) : nameD l = (!l.isEmpty && validD l && (runesD l).all (fun r => !isSpaceR r) && !l.contains 43) := by
  unfold nameD
  cases hv : validD l with
  | false => simp
  | true =>
    rw [← plus_runes l hv]
    have : (runesD l).all (fun r => !(isSpaceR r || r == 43)) = ((runesD l).all (fun r => !isSpaceR r) && (runesD l).all (fun r => !(r == 43))) := by
      induction runesD l with
      | nil => rfl
      | cons a t ih => simp only [List.all_cons, ih]; cases isSpaceR a <;> cases (a == 43) <;> simp
    rw [this]
    cases (runesD l).all (fun r => !isSpaceR r) <;> cases (runesD l).all (fun r => !(r == 43)) <;> cases l.isEmpty <;> rfl
theorem zz_one (s : ByteArray) (c : UInt8) (hs : s.size ≤ 2147483647) : ∀ (d i : Nat), i + d = s.size →
    ∃ k r, sumdbnote_zzIndex.l0 k s ⟨#[c]⟩ (i : Int) = some r ∧ ((r = -1 ∧ ∀ j, i ≤ j → j < s.size → s.data.toList[j]? ≠ some c) ∨ (∃ n : Nat, r = (n : Int) ∧ i ≤ n ∧ n < s.size ∧ s.data.toList[n]? = some c ∧ ∀ j, i ≤ j → j < n → s.data.toList[j]? ≠ some c))
  | 0, i, h => by
    refine ⟨1, -1, ?_, .inl ⟨rfl, fun j h1 h2 => by omega⟩⟩
    unfold sumdbnote_zzIndex.l0
    have e1 : wrap64 ((i : Int) + ((⟨#[c]⟩ : ByteArray).size : Int)) = (i : Int) + 1 := by
      show wrap64 ((i : Int) + 1) = _
      exact IntWalk.wrap64_in _ ⟨by omega, by omega⟩
    rw [e1, if_neg (by omega)]
  | d + 1, i, h => by
    have e1 : wrap64 ((i : Int) + ((⟨#[c]⟩ : ByteArray).size : Int)) = (i : Int) + 1 := by
      show wrap64 ((i : Int) + 1) = _
      exact IntWalk.wrap64_in _ ⟨by omega, by omega⟩
    have e2 : wrap64 ((i : Int) + 1) = ((i + 1 : Nat) : Int) := by rw [IntWalk.wrap64_in _ ⟨by omega, by omega⟩]; rfl
    have hsz : s.data.toList.length = s.size := by rw [Array.length_toList]; rfl
    have hx : (s.extract i (i + 1)).toList = [s.data.toList[i]'(by omega)] := by
      rw [ByteArray.toList_eq, ByteArray.data_extract, Array.toList_extract]
      simp only [List.extract]
      rw [show i + 1 - i = 1 by omega, List.drop_eq_getElem_cons (by omega)]
      rfl
    have hc : (⟨#[c]⟩ : ByteArray).toList = [c] := by rw [ByteArray.toList_eq]
    have hget : s.data.toList[i]? = some (s.data.toList[i]'(by omega)) := List.getElem?_eq_getElem (by omega)
    by_cases hb : s.data.toList[i]'(by omega) = c
    · refine ⟨1, i, ?_, .inr ⟨i, rfl, Nat.le_refl _, by omega, by rw [hget, hb], fun j h1 h2 => by omega⟩⟩
      unfold sumdbnote_zzIndex.l0
      rw [e1, if_pos (by omega), if_pos (by omega), if_pos (by omega)]
      rw [show ((i : Int)).toNat = i by omega, show ((i : Int) + 1).toNat = i + 1 by omega, hx, hc, hb, if_pos rfl]
    · obtain ⟨k, r, hr, hcase⟩ := zz_one s c hs d (i + 1) (by omega)
      refine ⟨k + 1, r, ?_, ?_⟩
      · unfold sumdbnote_zzIndex.l0
        rw [e1, if_pos (by omega), if_pos (by omega), if_pos (by omega)]
        rw [show ((i : Int)).toNat = i by omega, show ((i : Int) + 1).toNat = i + 1 by omega, hx, hc, if_neg (by simpa using hb), e2]
        exact hr
      · rcases hcase with ⟨h1, h2⟩ | ⟨n, h1, h2, h3, h4, h5⟩
        · refine .inl ⟨h1, fun j hj hj' => ?_⟩
          rcases Nat.eq_or_lt_of_le hj with rfl | hlt
          · rw [hget]; simpa using hb
          · exact h2 j hlt hj'
        · refine .inr ⟨n, h1, by omega, h3, h4, fun j hj hj' => ?_⟩
          rcases Nat.eq_or_lt_of_le hj with rfl | hlt
          · rw [hget]; simpa using hb
          · exact h5 j hlt hj'
theorem contains_one (s : ByteArray) (c : UInt8) (hs : s.size ≤ 2147483647) : ∃ k, sumdbnote_zzContains.f k s ⟨#[c]⟩ = some (s.data.toList.contains c) := by
  have hsz : s.data.toList.length = s.size := by rw [Array.length_toList]; rfl
  obtain ⟨k, r, hr, hcase⟩ := zz_one s c hs s.size 0 (by omega)
  refine ⟨k, ?_⟩
  unfold sumdbnote_zzContains.f sumdbnote_zzIndex.f
  rw [show (0 : Int) = ((0 : Nat) : Int) from rfl, hr]
  simp only [Option.bind_some]
  congr 1
  rcases hcase with ⟨rfl, h2⟩ | ⟨n, rfl, _, h3, h4, _⟩
  · rw [Bool.eq_iff_iff]
    simp only [decide_eq_true_eq, List.contains_eq_mem]
    constructor
    · intro h; omega
    · intro h
      obtain ⟨j, hj, he⟩ := List.getElem_of_mem h
      exact absurd (by rw [List.getElem?_eq_getElem hj, he]) (h2 j (Nat.zero_le _) (by omega))
  · rw [Bool.eq_iff_iff]
    simp only [decide_eq_true_eq, List.contains_eq_mem]
    exact ⟨fun _ => List.mem_of_getElem? h4, fun _ => by omega⟩
end Go.Proofs.YtkbegfihdpiacaaDoor.PX

namespace Go.Proofs.YtkbegfihdpiacaaDoor.PX
open Go.RowKit Nt Go.Lib Go.Proofs.YtkbegfihdpiacaaDoorW.PrintWords Go.Proofs.YtkbegfihdpiacaaDoorW.PrintLast
set_option linter.unusedVariables false
set_option linter.unusedSimpArgs false
theorem cell_keep {w W : World} (hb : Below w.heap.size w W) {a : Addr} {v : Value} (h : w.cell? a = some v) : W.cell? a = some v := by
  rw [hb.cell (World.block_lt_of_cell? w a h)]
  exact h
theorem white_keep {w W : World} (h : WhiteTab 6 w) (hb : Below w.heap.size w W) : WhiteTab 6 W := by
  obtain ⟨T, oT, R, oR, h1, h2, h3, h4, h5⟩ := h
  exact ⟨T, oT, R, oR, cell_keep hb h1, cell_keep hb h2, cell_keep hb h3, cell_keep hb h4, fun i hi => cell_keep hb (h5 i hi)⟩
theorem utf8_keep {w W : World} (h : Utf8Tabs 3 4 w) (hb : Below w.heap.size w W) : Utf8Tabs 3 4 W :=
  ⟨fun c hc => cell_keep hb (h.1 c hc), fun i hi => ⟨cell_keep hb (h.2 i hi).1, cell_keep hb (h.2 i hi).2⟩⟩
theorem enter_space : ∀ args w, (callFunc 65 args).run Tryd.prog w = .ok (.enter 65 args) w := by
  intro args w
  simp [go_sem, Tryd.func65]
theorem space_grows (w : World) (hW : WhiteTab 6 w) : PredGrows Tryd.prog 65 #[] (fun r => isSpaceR r) w := by
  intro W x hx hb
  refine (Tryd.unicode_IsSpace_any (x : Int) W (by omega) (by omega) (white_keep hW hb)).mono ?_
  rintro e w' ⟨rfl, h⟩
  exact ⟨by rw [isSpaceZ_nat], h⟩
theorem ret_bool {a b : Bool} (h : a = b) : Ending.returned (.bool a) = Ending.returned (.bool b) := by rw [h]
set_option maxRecDepth 100000 in
set_option maxHeartbeats 1000000 in
theorem valid_any (s : ByteArray) (w : World) (hs : s.size ≤ 2147483647) (hU : Utf8Tabs 3 4 w) (hW : WhiteTab 6 w) :
    Calls Tryd.prog 43 #[.string s] w fun e w' => e = .returned (.bool (nameD s.data.toList)) ∧ Below w.heap.size w w' := by
  have hn := name_split s.data.toList
  generalize hN : nameD s.data.toList = nm at *
  clear hN
  have hx := idx_top (fun r => isSpaceR r) s
  have cV := fun W hU => Tryd.utf8_ValidString s W (by omega) hU
  have cI := fun W hp => Tryd.strings_IndexFunc_grows 65 #[] enter_space (fun r => isSpaceR r) s W hp
  obtain ⟨kc, hc⟩ := contains_one s 43 hs
  have cC := fun W => sumdbnote_zzContains.calls kc s ⟨#[43]⟩ _ W hc
  clear hc
  generalize hv : validD s.data.toList = v at *
  generalize hi : Lib.idxFunc (fun r => isSpaceR r) true s = ix at *
  generalize hal : (runesD s.data.toList).all (fun r => !isSpaceR r) = al at *
  generalize hct : s.data.toList.contains 43 = ct at *
  clear hv hi hal hct
  have hem : s.data.toList.isEmpty = s.toList.isEmpty := by rw [← ByteArray.toList_eq]
  rw [hem] at hn
  clear hem
  have HN := Lib.hid hn
  clear hn
  cases he : s.toList.isEmpty with
  | true =>
    rw [he] at HN
    go_enter Tryd.func43, Tryd.ntmps43
    go_wp2
    go_ret
    exact ⟨ret_bool (by rw [HN.out]; rfl), Below.refl _ _⟩
  | false =>
    rw [he] at HN
    cases v with
    | false =>
      go_enter Tryd.func43, Tryd.ntmps43
      go_wp2_with (go_at_call 63; refine (cV _ hU).mono ?_; rintro e w1 ⟨rfl, hb1⟩)
      go_ret
      exact ⟨ret_bool (by rw [HN.out]; rfl), hb1⟩
    | true =>
      cases al with
      | false =>
        go_enter Tryd.func43, Tryd.ntmps43
        go_wp2_with (first | (go_at_call 63; refine (cV _ hU).mono ?_; rintro e w1 ⟨rfl, hb1⟩; have hW1 := white_keep hW hb1) | (go_at_call 64; refine (cI _ (space_grows _ hW1)).mono ?_; rintro e w2 ⟨rfl, hb2⟩))
        go_ret
        exact ⟨ret_bool (by rw [HN.out]; rfl), hb1.trans (hb2.mono hb1.size)⟩
      | true =>
        go_enter Tryd.func43, Tryd.ntmps43
        go_wp2_with (first | (go_at_call 63; refine (cV _ hU).mono ?_; rintro e w1 ⟨rfl, hb1⟩; have hW1 := white_keep hW hb1) | (go_at_call 64; refine (cI _ (space_grows _ hW1)).mono ?_; rintro e w2 ⟨rfl, hb2⟩) | (go_at_call 66; refine (cC _).mono ?_; rintro e w3 ⟨rfl, hb3⟩))
        go_ret
        exact ⟨ret_bool (by rw [HN.out]; cases ct <;> rfl), hb1.trans ((hb2.trans (hb3.below.mono hb2.size)).mono hb1.size)⟩
end Go.Proofs.YtkbegfihdpiacaaDoor.PX
