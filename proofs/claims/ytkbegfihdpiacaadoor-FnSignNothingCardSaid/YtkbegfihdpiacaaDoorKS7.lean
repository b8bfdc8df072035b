/- Part 7 of the proof: what the theorem reaches of the texts PX1, PX5. -/
import Derived.Test.YtkbegfihdpiacaaDoorKS5

namespace Go.Proofs.YtkbegfihdpiacaaDoor.PX
open Go.RowKit Go.Proofs.YtkbegfihdpiacaaDoorW.PrintWords Go.Proofs.YtkbegfihdpiacaaDoorW.PrintLast Go.Proofs.YtkbegfihdpiacaaDoorW.PrintMore
attribute [local go_sem] max2_int min2_int max_two min_two max_three min_three max_four min_four   -- for this text's walks alone
set_option linter.unusedVariables false
set_option linter.unusedSimpArgs false
theorem eqA37 (d : Nat) (w : World) (x0 y0 : ByteArray) (x1 y1 : Int) (x2 y2 : ByteArray) :
    (Op.equalIn (d + 2) 37 (.agg #[.string x0, .int .u32 x1, .string x2]) (.agg #[.string y0, .int .u32 y1, .string y2])).run Tryd.prog w = .ok (x0.toList == y0.toList && (x1 == y1 && (x2.toList == y2.toList))) w := by
  refine eqA_of Tryd.underlying37 (by kernel_rfl) ?_
  refine eqf_cons (by rfl) (by go_simp; rfl) (by go_simp; rfl) (by go_simp) ?_
  refine eqf_cons (by rfl) (by go_simp; rfl) (by go_simp; rfl) (by go_simp) ?_
  exact eqf_last (by rfl) (by go_simp; rfl) (by go_simp; rfl) (by go_simp)
end Go.Proofs.YtkbegfihdpiacaaDoor.PX

namespace Go.Proofs.YtkbegfihdpiacaaDoor.PX
open Go.RowKit Go.Proofs.YtkbegfihdpiacaaDoorW.PrintWords Go.Proofs.YtkbegfihdpiacaaDoorW.PrintLast Go.Proofs.YtkbegfihdpiacaaDoorW.PrintMore
attribute [local go_sem] max2_int min2_int max_two min_two max_three min_three max_four min_four   -- for this text's walks alone
set_option linter.unusedVariables false
set_option linter.unusedSimpArgs false
attribute [local go_sem high] eqA37
def spec_space.j0 : Nat → Int → Bool → Option (Bool)
  | 0, _, _ => none
  | k + 1, x0, x3 => if x3 = true then (some true) else (if x0 = 32 then (some true) else (if x0 = 133 then (some true) else (if x0 = 160 then (some true) else (if x0 = 5760 then (some true) else (if x0 ≥ 8192 then (if x0 ≤ 8202 then (some true) else (if x0 = 8232 then (some true) else (if x0 = 8233 then (some true) else (if x0 = 8239 then (some true) else (if x0 = 8287 then (some true) else (some (x0 == 12288))))))) else (if x0 = 8232 then (some true) else (if x0 = 8233 then (some true) else (if x0 = 8239 then (some true) else (if x0 = 8287 then (some true) else (some (x0 == 12288)))))))))))
def spec_space.f (k : Nat) (a0 : Int) : Option (Bool) := if a0 ≥ 9 then (spec_space.j0 k a0 (decide (a0 ≤ 13))) else (spec_space.j0 k a0 false)
theorem spec_space.mono_l : ∀ k, (∀ y0 y1, LeO (spec_space.j0 k y0 y1) (spec_space.j0 (k + 1) y0 y1))
  | 0 => fun _ _ r h => by simp [spec_space.j0] at h
  | k + 1 => by
    have ih0 := spec_space.mono_l k
    · intro y0 y1
      unfold spec_space.j0
      repeat' first
      | (with_reducible exact ih0 _ _)
      | (with_reducible exact LeO.refl _)
      | (with_reducible exact LeO.none _)
      | (with_reducible refine LeO.ite ?_ ?_)
      | (with_reducible refine LeO.bind ?_ (fun _ => ?_))
      | exact ih0 _ _
      | exact LeO.none _
      | refine LeO.ite ?_ ?_
      | refine LeO.bind ?_ (fun _ => ?_)
theorem spec_space.mono : ∀ a0 k, LeO (spec_space.f k a0) (spec_space.f (k + 1) a0) := by
  intro a0 k
  have ih0 := spec_space.mono_l k
  unfold spec_space.f
  repeat' first
      | (with_reducible exact ih0 _ _)
      | (with_reducible exact LeO.refl _)
      | (with_reducible exact LeO.none _)
      | (with_reducible refine LeO.ite ?_ ?_)
      | (with_reducible refine LeO.bind ?_ (fun _ => ?_))
      | exact ih0 _ _
      | exact LeO.none _
      | refine LeO.ite ?_ ?_
      | refine LeO.bind ?_ (fun _ => ?_)
def spec_Hash.f (a0 : ByteArray) : Option (Int) := if 0 < (a0.size : Int) then (if 1 < (a0.size : Int) then (if 2 < (a0.size : Int) then (if 3 < (a0.size : Int) then (some (Go.bits .or .u32 (Go.bits .or .u32 (Go.bits .or .u32 ((((bt a0 0) % 4294967296) * 16777216) % 4294967296) ((((bt a0 1) % 4294967296) * 65536) % 4294967296)) ((((bt a0 2) % 4294967296) * 256) % 4294967296)) ((bt a0 3) % 4294967296))) else (none)) else (none)) else (none)) else (none)
set_option maxHeartbeats 8000000 in
set_option maxRecDepth 100000 in
theorem spec_Hash.calls (a0 : ByteArray) (r : Int) (w : World) (h : spec_Hash.f a0 = some r) :
    Calls Tryd.prog 35 #[.string a0] w fun e w' => e = .returned (.int .u32 r) ∧ Drawn0 w w' := by
  have H : (if 0 < (a0.size : Int) then (if 1 < (a0.size : Int) then (if 2 < (a0.size : Int) then (if 3 < (a0.size : Int) then (some (Go.bits .or .u32 (Go.bits .or .u32 (Go.bits .or .u32 ((((bt a0 0) % 4294967296) * 16777216) % 4294967296) ((((bt a0 1) % 4294967296) * 65536) % 4294967296)) ((((bt a0 2) % 4294967296) * 256) % 4294967296)) ((bt a0 3) % 4294967296))) else (none)) else (none)) else (none)) else (none)) = some r := h
  clear h
  by_cases c2 : 0 < (a0.size : Int)
  · rw [if_pos c2] at H
    have c2b0 : decide (0 < (a0.size : Int)) = true := decide_eq_true c2
    have c2b1 : decide (0 < a0.size) = true := decide_eq_true (by omega)
    clear c2
    by_cases c4 : 1 < (a0.size : Int)
    · rw [if_pos c4] at H
      have c4b0 : decide (1 < (a0.size : Int)) = true := decide_eq_true c4
      have c4b1 : decide (1 < a0.size) = true := decide_eq_true (by omega)
      clear c4
      by_cases c6 : 2 < (a0.size : Int)
      · rw [if_pos c6] at H
        have c6b0 : decide (2 < (a0.size : Int)) = true := decide_eq_true c6
        have c6b1 : decide (2 < a0.size) = true := decide_eq_true (by omega)
        clear c6
        by_cases c8 : 3 < (a0.size : Int)
        · rw [if_pos c8] at H
          have c8b0 : decide (3 < (a0.size : Int)) = true := decide_eq_true c8
          have c8b1 : decide (3 < a0.size) = true := decide_eq_true (by omega)
          clear c8
          obtain rfl := Option.some.inj H
          have p3 : 0 ≤ (0 : Int) := (by omega)
          have q3 : 0 < a0.size := (by have : (0 : Int) < (a0.size : Int) := of_decide_eq_true (by first | (with_reducible assumption) | assumption); omega)
          have hx3 : ∀ h : 0 < a0.size, ((a0[0]'h).toNat : Int) = bt a0 0 := bt_at a0 0
          clear p3
          have qi3 : (0 < (a0.size : Int)) = True := eq_true (of_decide_eq_true (by first | (with_reducible assumption) | assumption))
          replace q3 := eq_true q3
          have p5 : 0 ≤ (1 : Int) := (by omega)
          have q5 : 1 < a0.size := (by have : (1 : Int) < (a0.size : Int) := of_decide_eq_true (by first | (with_reducible assumption) | assumption); omega)
          have hx5 : ∀ h : 1 < a0.size, ((a0[1]'h).toNat : Int) = bt a0 1 := bt_at a0 1
          clear p5
          have qi5 : (1 < (a0.size : Int)) = True := eq_true (of_decide_eq_true (by first | (with_reducible assumption) | assumption))
          replace q5 := eq_true q5
          have p7 : 0 ≤ (2 : Int) := (by omega)
          have q7 : 2 < a0.size := (by have : (2 : Int) < (a0.size : Int) := of_decide_eq_true (by first | (with_reducible assumption) | assumption); omega)
          have hx7 : ∀ h : 2 < a0.size, ((a0[2]'h).toNat : Int) = bt a0 2 := bt_at a0 2
          clear p7
          have qi7 : (2 < (a0.size : Int)) = True := eq_true (of_decide_eq_true (by first | (with_reducible assumption) | assumption))
          replace q7 := eq_true q7
          have p9 : 0 ≤ (3 : Int) := (by omega)
          have q9 : 3 < a0.size := (by have : (3 : Int) < (a0.size : Int) := of_decide_eq_true (by first | (with_reducible assumption) | assumption); omega)
          have hx9 : ∀ h : 3 < a0.size, ((a0[3]'h).toNat : Int) = bt a0 3 := bt_at a0 3
          clear p9
          have qi9 : (3 < (a0.size : Int)) = True := eq_true (of_decide_eq_true (by first | (with_reducible assumption) | assumption))
          replace q9 := eq_true q9
          go_enter Tryd.func35, Tryd.ntmps35
          go_wp2
          repeat (go_quiet (fail); try go_wp2)
          go_ret
          exact ⟨by first | rfl | (simp; done) | (simp [*]; done), by repeat (first | exact Drawn0.refl _ | apply Drawn0.step)⟩
        · rw [if_neg c8] at H
          exact absurd H (by simp)
      · rw [if_neg c6] at H
        exact absurd H (by simp)
    · rw [if_neg c4] at H
      exact absurd H (by simp)
  · rw [if_neg c2] at H
    exact absurd H (by simp)
def spec_Find.l0 : Nat → ByteArray → Int → List (S59) → Int → Int → Option (Int)
  | 0, _, _, _, _, _ => none
  | k + 1, x1, x2, x9, x10, x11 => if x11 < x10 then (if 0 ≤ x11 then (if x11 < (x9.length : Int) then (if ((rd_T59 x9 x11).f0).toList = x1.toList then (if ((rd_T59 x9 x11).f1) = x2 then (some x11) else (spec_Find.l0 k x1 x2 x9 x10 (wrap64 (x11 + 1)))) else (spec_Find.l0 k x1 x2 x9 x10 (wrap64 (x11 + 1)))) else (none)) else (none)) else (some (-1))
def spec_Find.f (k : Nat) (l0 : List (S59)) (a1 : ByteArray) (a2 : Int) : Option (Int) := spec_Find.l0 k a1 a2 l0 (l0.length : Int) 0
theorem spec_Find.mono_l : ∀ k, (∀ y0 y1 y2 y3 y4, LeO (spec_Find.l0 k y0 y1 y2 y3 y4) (spec_Find.l0 (k + 1) y0 y1 y2 y3 y4))
  | 0 => fun _ _ _ _ _ r h => by simp [spec_Find.l0] at h
  | k + 1 => by
    have ih0 := spec_Find.mono_l k
    · intro y0 y1 y2 y3 y4
      unfold spec_Find.l0
      repeat' first
      | (with_reducible exact ih0 _ _ _ _ _)
      | (with_reducible exact LeO.refl _)
      | (with_reducible exact LeO.none _)
      | (with_reducible refine LeO.ite ?_ ?_)
      | (with_reducible refine LeO.bind ?_ (fun _ => ?_))
      | exact ih0 _ _ _ _ _
      | exact LeO.none _
      | refine LeO.ite ?_ ?_
      | refine LeO.bind ?_ (fun _ => ?_)
theorem spec_Find.mono : ∀ a0 a1 a2 k, LeO (spec_Find.f k a0 a1 a2) (spec_Find.f (k + 1) a0 a1 a2) := by
  intro a0 a1 a2 k
  have ih0 := spec_Find.mono_l k
  unfold spec_Find.f
  repeat' first
      | (with_reducible exact ih0 _ _ _ _ _)
      | (with_reducible exact LeO.refl _)
      | (with_reducible exact LeO.none _)
      | (with_reducible refine LeO.ite ?_ ?_)
      | (with_reducible refine LeO.bind ?_ (fun _ => ?_))
      | exact ih0 _ _ _ _ _
      | exact LeO.none _
      | refine LeO.ite ?_ ?_
      | refine LeO.bind ?_ (fun _ => ?_)
set_option maxHeartbeats 8000000 in
set_option maxRecDepth 100000 in
theorem spec_Find.calls (k : Nat) (A0 : Option Addr) (c0 : Nat) (l0 : List (S59)) (a1 : ByteArray) (a2 : Int) (r : Int) (w : World) (hr0 : Kd.C k59 w A0 l0.length l0) (hc0 : l0.length ≤ c0) (h : spec_Find.f k l0 a1 a2 = some r) :
    Calls Tryd.prog 20 #[.slice A0 l0.length c0, .string a1, .int .u32 a2] w fun e w' => e = .returned (.int .i64 r) ∧ Below w.heap.size w w' := by
  have hu59 := Tryd.underlying59
  have HR0 := Aside0.mk hr0
  have HC0 := Aside0.mk hc0
  clear hr0 hc0
  have HB := Aside0.mk (Below.refl w.heap.size w)
  have H : (spec_Find.l0 k a1 a2 l0 (l0.length : Int) 0) = some r := h
  clear h
  have H' := Aside0.mk H
  clear H
  go_enter Tryd.func20, Tryd.ntmps20
  go_wp2
  go_loopg [11] k (fun kq v11 w' => ∃ (x11_1 : Int), v11 = .int .i64 x11_1 ∧ Aside0 (spec_Find.l0 kq a1 a2 l0 (l0.length : Int) x11_1 = some r) ∧ Aside0 (kq ≤ k) ∧ Aside0 (Below w.heap.size w w'))
  case atStart => exact ⟨(0), (by first | rfl | (simp; done) | (simp [*]; done)), H', ⟨Nat.le_refl _⟩, ⟨by repeat (first | (with_reducible first | exact HB.out | apply below_alloc | apply pw_below_drewN | apply below_drew1) | exact HB.out)⟩⟩
  case round =>
    clear H'
    try clear c2
    try clear p2
    obtain ⟨x11_1, rfl, HA, HK1, HB⟩ := hrel
    cases gk with
    | zero => exact absurd HA.out (by simp [spec_Find.l0])
    | succ k1 =>
      have H := HA.out
      clear HA
      simp only [spec_Find.l0] at H
      by_cases c4 : x11_1 < (l0.length : Int)
      · rw [if_pos c4] at H
        have c4b0 : decide (x11_1 < (l0.length : Int)) = true := decide_eq_true c4
        clear c4
        by_cases c5 : 0 ≤ x11_1
        · rw [if_pos c5] at H
          have c5b0 : decide (0 ≤ x11_1) = true := decide_eq_true c5
          clear c5
          by_cases c6 : x11_1 < (l0.length : Int)
          · rw [if_pos c6] at H
            have c6b0 : decide (x11_1 < (l0.length : Int)) = true := decide_eq_true c6
            clear c6
            by_cases c7 : ((rd_T59 l0 x11_1).f0).toList = a1.toList
            · rw [if_pos c7] at H
              have c7b0 : (((rd_T59 l0 x11_1).f0).toList == a1.toList) = true := beq_iff_eq.mpr c7
              have c7b1 : (((rd_T59 l0 x11_1).f0).toList != a1.toList) = false := bne_eq_false_iff_eq.mpr c7
              clear c7
              by_cases c8 : ((rd_T59 l0 x11_1).f1) = a2
              · rw [if_pos c8] at H
                have c8b0 : (((rd_T59 l0 x11_1).f1) == a2) = true := beq_iff_eq.mpr c8
                have c8b1 : (((rd_T59 l0 x11_1).f1) != a2) = false := bne_eq_false_iff_eq.mpr c8
                clear c8
                obtain rfl := Option.some.inj H
                have p179 : 0 ≤ (x11_1 : Int) := of_decide_eq_true (by first | (with_reducible assumption) | assumption)
                have q179 : x11_1 < (l0.length : Int) := of_decide_eq_true (by first | (with_reducible assumption) | assumption)
                obtain ⟨ad179, A179_2, c179_2, A179_3, c179_3, e179, hx179_0, hx179_1, hx179_2, hx179_3, hl179_2, hi179_2, hl179_3, hi179_3⟩ := at_T59 HR0.out x11_1 p179 q179
                cases e179
                replace hx179_0 := (HB.out.cell (World.block_lt_of_cell? w _ hx179_0)).trans hx179_0
                replace hx179_1 := (HB.out.cell (World.block_lt_of_cell? w _ hx179_1)).trans hx179_1
                replace hx179_2 := (HB.out.cell (World.block_lt_of_cell? w _ hx179_2)).trans hx179_2
                replace hx179_3 := (HB.out.cell (World.block_lt_of_cell? w _ hx179_3)).trans hx179_3
                have HR179_2 := Aside0.mk hi179_2
                have HC179_2 := Aside0.mk hl179_2
                clear hi179_2 hl179_2
                have HR179_3 := Aside0.mk hi179_3
                have HC179_3 := Aside0.mk hl179_3
                clear hi179_3 hl179_3
                replace p179 := eq_true p179
                replace q179 := eq_true q179
                go_wp2_with (first | ((with_reducible refine gate_dst (N := 8) rfl ?_); refine box_event ?hg (N := 8) ?hd (cs := #[.string (⟨#[]⟩ : ByteArray), .int .u32 0, .slice none 0 0, .slice none 0 0]) (t := 59) ?hr ?_; (case hd => rfl); (case hg => rfl); (case hr => first | (go_simp; done) | (go_simp; rfl)); intro gb180 hg w9 hbox hb; have n0_ := Aside0.mk (below_step (by repeat (first | (with_reducible first | exact HB.out | apply below_alloc | apply pw_below_drewN | apply below_drew1) | exact HB.out)) hb); have n1_ := Aside0.mk (hbox); have n2_ := Aside0.mk ((by rw [hg]; exact (below_size (by repeat (first | (with_reducible first | exact HB.out | apply below_alloc | apply pw_below_drewN | apply below_drew1) | exact HB.out))) : w.heap.size ≤ gb180)); have n3_ := Aside0.mk ((by rw [hg]; exact (below_size (by repeat (first | (with_reducible first | exact HB.out | apply below_alloc | apply pw_below_drewN | apply below_drew1) | exact HB.out))) : w.heap.size ≤ gb180)); clear HB; have HB := n0_; have BK180 := n1_; have GW180 := n2_; have GE180 := n3_; clear n0_ n1_ n2_ n3_; clear hb hbox hg; have hcz10_0 : w9.cell? ⟨gb180, 0, none⟩ = some (.string (⟨#[]⟩ : ByteArray)) := (blk_cell BK180.out 0).trans rfl; have hcz10_1 : w9.cell? ⟨gb180, 1, none⟩ = some (.int .u32 0) := (blk_cell BK180.out 1).trans rfl; have hcz10_2 : w9.cell? ⟨gb180, 2, none⟩ = some (.slice none 0 0) := (blk_cell BK180.out 2).trans rfl; have hcz10_3 : w9.cell? ⟨gb180, 3, none⟩ = some (.slice none 0 0) := (blk_cell BK180.out 3).trans rfl; have hfz10_0 := blk_frozen BK180.out 0; have hfz10_1 := blk_frozen BK180.out 1; have hfz10_2 := blk_frozen BK180.out 2; have hfz10_3 := blk_frozen BK180.out 3))
                go_ret
                exact ⟨by first | rfl | (simp [errW_none, errW_some] <;> rfl) | (simp [*, errW_none, errW_some] <;> rfl), by repeat (first | (with_reducible first | exact HB.out | apply below_alloc | apply pw_below_drewN | apply below_drew1 | refine below_set ?_ GE180.out) | exact HB.out)⟩
              · rw [if_neg c8] at H
                have c8b0 : (((rd_T59 l0 x11_1).f1) == a2) = false := beq_eq_false_iff_ne.mpr c8
                have c8b1 : (((rd_T59 l0 x11_1).f1) != a2) = true := bne_iff_ne.mpr c8
                have H' := Aside0.mk H
                clear H
                have p179 : 0 ≤ (x11_1 : Int) := of_decide_eq_true (by first | (with_reducible assumption) | assumption)
                have q179 : x11_1 < (l0.length : Int) := of_decide_eq_true (by first | (with_reducible assumption) | assumption)
                obtain ⟨ad179, A179_2, c179_2, A179_3, c179_3, e179, hx179_0, hx179_1, hx179_2, hx179_3, hl179_2, hi179_2, hl179_3, hi179_3⟩ := at_T59 HR0.out x11_1 p179 q179
                cases e179
                replace hx179_0 := (HB.out.cell (World.block_lt_of_cell? w _ hx179_0)).trans hx179_0
                replace hx179_1 := (HB.out.cell (World.block_lt_of_cell? w _ hx179_1)).trans hx179_1
                replace hx179_2 := (HB.out.cell (World.block_lt_of_cell? w _ hx179_2)).trans hx179_2
                replace hx179_3 := (HB.out.cell (World.block_lt_of_cell? w _ hx179_3)).trans hx179_3
                have HR179_2 := Aside0.mk hi179_2
                have HC179_2 := Aside0.mk hl179_2
                clear hi179_2 hl179_2
                have HR179_3 := Aside0.mk hi179_3
                have HC179_3 := Aside0.mk hl179_3
                clear hi179_3 hl179_3
                replace p179 := eq_true p179
                replace q179 := eq_true q179
                go_wp2_with (first | ((with_reducible refine gate_dst (N := 8) rfl ?_); refine box_event ?hg (N := 8) ?hd (cs := #[.string (⟨#[]⟩ : ByteArray), .int .u32 0, .slice none 0 0, .slice none 0 0]) (t := 59) ?hr ?_; (case hd => rfl); (case hg => rfl); (case hr => first | (go_simp; done) | (go_simp; rfl)); intro gb180 hg w11 hbox hb; have n0_ := Aside0.mk (below_step (by repeat (first | (with_reducible first | exact HB.out | apply below_alloc | apply pw_below_drewN | apply below_drew1) | exact HB.out)) hb); have n1_ := Aside0.mk (hbox); have n2_ := Aside0.mk ((by rw [hg]; exact (below_size (by repeat (first | (with_reducible first | exact HB.out | apply below_alloc | apply pw_below_drewN | apply below_drew1) | exact HB.out))) : w.heap.size ≤ gb180)); have n3_ := Aside0.mk ((by rw [hg]; exact (below_size (by repeat (first | (with_reducible first | exact HB.out | apply below_alloc | apply pw_below_drewN | apply below_drew1) | exact HB.out))) : w.heap.size ≤ gb180)); clear HB; have HB := n0_; have BK180 := n1_; have GW180 := n2_; have GE180 := n3_; clear n0_ n1_ n2_ n3_; clear hb hbox hg; have hcz12_0 : w11.cell? ⟨gb180, 0, none⟩ = some (.string (⟨#[]⟩ : ByteArray)) := (blk_cell BK180.out 0).trans rfl; have hcz12_1 : w11.cell? ⟨gb180, 1, none⟩ = some (.int .u32 0) := (blk_cell BK180.out 1).trans rfl; have hcz12_2 : w11.cell? ⟨gb180, 2, none⟩ = some (.slice none 0 0) := (blk_cell BK180.out 2).trans rfl; have hcz12_3 : w11.cell? ⟨gb180, 3, none⟩ = some (.slice none 0 0) := (blk_cell BK180.out 3).trans rfl; have hfz12_0 := blk_frozen BK180.out 0; have hfz12_1 := blk_frozen BK180.out 1; have hfz12_2 := blk_frozen BK180.out 2; have hfz12_3 := blk_frozen BK180.out 3))
                go_roundg k1
                case measure => have := HK1.out; omega
                case rel => exact ⟨(wrap64 (x11_1 + 1)), (by first | rfl | (simp; done) | (simp [*]; done)), H', ⟨by have := HK1.out; omega⟩, ⟨by repeat (first | (with_reducible first | exact HB.out | apply below_alloc | apply pw_below_drewN | apply below_drew1 | refine below_set ?_ GE180.out) | exact HB.out)⟩⟩
            · rw [if_neg c7] at H
              have c7b0 : (((rd_T59 l0 x11_1).f0).toList == a1.toList) = false := beq_eq_false_iff_ne.mpr c7
              have c7b1 : (((rd_T59 l0 x11_1).f0).toList != a1.toList) = true := bne_iff_ne.mpr c7
              have H' := Aside0.mk H
              clear H
              have p179 : 0 ≤ (x11_1 : Int) := of_decide_eq_true (by first | (with_reducible assumption) | assumption)
              have q179 : x11_1 < (l0.length : Int) := of_decide_eq_true (by first | (with_reducible assumption) | assumption)
              obtain ⟨ad179, A179_2, c179_2, A179_3, c179_3, e179, hx179_0, hx179_1, hx179_2, hx179_3, hl179_2, hi179_2, hl179_3, hi179_3⟩ := at_T59 HR0.out x11_1 p179 q179
              cases e179
              replace hx179_0 := (HB.out.cell (World.block_lt_of_cell? w _ hx179_0)).trans hx179_0
              replace hx179_1 := (HB.out.cell (World.block_lt_of_cell? w _ hx179_1)).trans hx179_1
              replace hx179_2 := (HB.out.cell (World.block_lt_of_cell? w _ hx179_2)).trans hx179_2
              replace hx179_3 := (HB.out.cell (World.block_lt_of_cell? w _ hx179_3)).trans hx179_3
              have HR179_2 := Aside0.mk hi179_2
              have HC179_2 := Aside0.mk hl179_2
              clear hi179_2 hl179_2
              have HR179_3 := Aside0.mk hi179_3
              have HC179_3 := Aside0.mk hl179_3
              clear hi179_3 hl179_3
              replace p179 := eq_true p179
              replace q179 := eq_true q179
              go_wp2_with (first | ((with_reducible refine gate_dst (N := 8) rfl ?_); refine box_event ?hg (N := 8) ?hd (cs := #[.string (⟨#[]⟩ : ByteArray), .int .u32 0, .slice none 0 0, .slice none 0 0]) (t := 59) ?hr ?_; (case hd => rfl); (case hg => rfl); (case hr => first | (go_simp; done) | (go_simp; rfl)); intro gb180 hg w13 hbox hb; have n0_ := Aside0.mk (below_step (by repeat (first | (with_reducible first | exact HB.out | apply below_alloc | apply pw_below_drewN | apply below_drew1) | exact HB.out)) hb); have n1_ := Aside0.mk (hbox); have n2_ := Aside0.mk ((by rw [hg]; exact (below_size (by repeat (first | (with_reducible first | exact HB.out | apply below_alloc | apply pw_below_drewN | apply below_drew1) | exact HB.out))) : w.heap.size ≤ gb180)); have n3_ := Aside0.mk ((by rw [hg]; exact (below_size (by repeat (first | (with_reducible first | exact HB.out | apply below_alloc | apply pw_below_drewN | apply below_drew1) | exact HB.out))) : w.heap.size ≤ gb180)); clear HB; have HB := n0_; have BK180 := n1_; have GW180 := n2_; have GE180 := n3_; clear n0_ n1_ n2_ n3_; clear hb hbox hg; have hcz14_0 : w13.cell? ⟨gb180, 0, none⟩ = some (.string (⟨#[]⟩ : ByteArray)) := (blk_cell BK180.out 0).trans rfl; have hcz14_1 : w13.cell? ⟨gb180, 1, none⟩ = some (.int .u32 0) := (blk_cell BK180.out 1).trans rfl; have hcz14_2 : w13.cell? ⟨gb180, 2, none⟩ = some (.slice none 0 0) := (blk_cell BK180.out 2).trans rfl; have hcz14_3 : w13.cell? ⟨gb180, 3, none⟩ = some (.slice none 0 0) := (blk_cell BK180.out 3).trans rfl; have hfz14_0 := blk_frozen BK180.out 0; have hfz14_1 := blk_frozen BK180.out 1; have hfz14_2 := blk_frozen BK180.out 2; have hfz14_3 := blk_frozen BK180.out 3))
              go_roundg k1
              case measure => have := HK1.out; omega
              case rel => exact ⟨(wrap64 (x11_1 + 1)), (by first | rfl | (simp; done) | (simp [*]; done)), H', ⟨by have := HK1.out; omega⟩, ⟨by repeat (first | (with_reducible first | exact HB.out | apply below_alloc | apply pw_below_drewN | apply below_drew1 | refine below_set ?_ GE180.out) | exact HB.out)⟩⟩
          · rw [if_neg c6] at H
            exact absurd H (by simp)
        · rw [if_neg c5] at H
          exact absurd H (by simp)
      · rw [if_neg c4] at H
        have c4b0 : decide (x11_1 < (l0.length : Int)) = false := decide_eq_false c4
        clear c4
        obtain rfl := Option.some.inj H
        go_wp2
        go_ret
        exact ⟨by first | rfl | (simp [errW_none, errW_some] <;> rfl) | (simp [*, errW_none, errW_some] <;> rfl), by repeat (first | (with_reducible first | exact HB.out | apply below_alloc | apply pw_below_drewN | apply below_drew1) | exact HB.out)⟩
def spec_has.l0 : Nat → List (S37) → Int → Int → ByteArray → Int → ByteArray → Option (Bool)
  | 0, _, _, _, _, _, _ => none
  | k + 1, x7, x8, x9, x182000, x182001, x182002 => if x9 < x8 then (if 0 ≤ x9 then (if x9 < (x7.length : Int) then (if ((((rd_T37 x7 x9).f0).toList) == x182000.toList && (((rd_T37 x7 x9).f1) == x182001 && ((((rd_T37 x7 x9).f2).toList) == x182002.toList))) = true then (some true) else (spec_has.l0 k x7 x8 (wrap64 (x9 + 1)) x182000 x182001 x182002)) else (none)) else (none)) else (some false)
def spec_has.f (k : Nat) (l0 : List (S37)) (a1_0 : ByteArray) (a1_1 : Int) (a1_2 : ByteArray) : Option (Bool) := spec_has.l0 k l0 (l0.length : Int) 0 a1_0 a1_1 a1_2
theorem spec_has.mono_l : ∀ k, (∀ y0 y1 y2 y3 y4 y5, LeO (spec_has.l0 k y0 y1 y2 y3 y4 y5) (spec_has.l0 (k + 1) y0 y1 y2 y3 y4 y5))
  | 0 => fun _ _ _ _ _ _ r h => by simp [spec_has.l0] at h
  | k + 1 => by
    have ih0 := spec_has.mono_l k
    · intro y0 y1 y2 y3 y4 y5
      unfold spec_has.l0
      repeat' first
      | (with_reducible exact ih0 _ _ _ _ _ _)
      | (with_reducible exact LeO.refl _)
      | (with_reducible exact LeO.none _)
      | (with_reducible refine LeO.ite ?_ ?_)
      | (with_reducible refine LeO.bind ?_ (fun _ => ?_))
      | exact ih0 _ _ _ _ _ _
      | exact LeO.none _
      | refine LeO.ite ?_ ?_
      | refine LeO.bind ?_ (fun _ => ?_)
theorem spec_has.mono : ∀ a0 a1 a2 a3 k, LeO (spec_has.f k a0 a1 a2 a3) (spec_has.f (k + 1) a0 a1 a2 a3) := by
  intro a0 a1 a2 a3 k
  have ih0 := spec_has.mono_l k
  unfold spec_has.f
  repeat' first
      | (with_reducible exact ih0 _ _ _ _ _ _)
      | (with_reducible exact LeO.refl _)
      | (with_reducible exact LeO.none _)
      | (with_reducible refine LeO.ite ?_ ?_)
      | (with_reducible refine LeO.bind ?_ (fun _ => ?_))
      | exact ih0 _ _ _ _ _ _
      | exact LeO.none _
      | refine LeO.ite ?_ ?_
      | refine LeO.bind ?_ (fun _ => ?_)
set_option maxHeartbeats 8000000 in
set_option maxRecDepth 100000 in
theorem spec_has.calls (k : Nat) (A0 : Option Addr) (c0 : Nat) (l0 : List (S37)) (a1_0 : ByteArray) (a1_1 : Int) (a1_2 : ByteArray) (r : Bool) (w : World) (hr0 : Kd.C k37 w A0 l0.length l0) (hc0 : l0.length ≤ c0) (h : spec_has.f k l0 a1_0 a1_1 a1_2 = some r) :
    Calls Tryd.prog 21 #[.slice A0 l0.length c0, .agg #[.string a1_0, .int .u32 a1_1, .string a1_2]] w fun e w' => e = .returned (.bool r) ∧ Below w.heap.size w w' := by
  have hu37 := Tryd.underlying37
  have HR0 := Aside0.mk hr0
  have HC0 := Aside0.mk hc0
  clear hr0 hc0
  have HB := Aside0.mk (Below.refl w.heap.size w)
  have H : (spec_has.l0 k l0 (l0.length : Int) 0 a1_0 a1_1 a1_2) = some r := h
  clear h
  have H' := Aside0.mk H
  clear H
  go_enter Tryd.func21, Tryd.ntmps21
  go_wp2_with (first | ((with_reducible refine gate_dst (N := 3) rfl ?_); refine box_event ?hg (N := 3) ?hd (cs := #[.string a1_0, .int .u32 a1_1, .string a1_2]) (t := 37) ?hr ?_; (case hd => rfl); (case hg => rfl); (case hr => first | (go_simp; done) | (go_simp; rfl)); intro gb181 hg w3 hbox hb; have n0_ := Aside0.mk (below_step (by repeat (first | (with_reducible first | exact HB.out | apply below_alloc | apply pw_below_drewN | apply below_drew1) | exact HB.out)) hb); have n1_ := Aside0.mk (hbox); have n2_ := Aside0.mk ((by rw [hg]; exact (below_size (by repeat (first | (with_reducible first | exact HB.out | apply below_alloc | apply pw_below_drewN | apply below_drew1) | exact HB.out))) : w.heap.size ≤ gb181)); have n3_ := Aside0.mk ((by rw [hg]; exact (below_size (by repeat (first | (with_reducible first | exact HB.out | apply below_alloc | apply pw_below_drewN | apply below_drew1) | exact HB.out))) : w.heap.size ≤ gb181)); clear HB; have HB := n0_; have BK181 := n1_; have GW181 := n2_; have GE181 := n3_; clear n0_ n1_ n2_ n3_; clear hb hbox hg))
  go_loopg [9] k (fun kq v9 w' => ∃ (x9_1 : Int), v9 = .int .i64 x9_1 ∧ Aside0 (spec_has.l0 kq l0 (l0.length : Int) x9_1 a1_0 a1_1 a1_2 = some r) ∧ Aside0 (kq ≤ k) ∧ Aside0 (w'.heap[gb181]? = some (.cells #[.string a1_0, .int .u32 a1_1, .string a1_2] 37 (0, 0))) ∧ Aside0 (Below w.heap.size w w'))
  case atStart => exact ⟨(0), (by first | rfl | (simp; done) | (simp [*]; done)), H', ⟨Nat.le_refl _⟩, ⟨by (with_reducible repeat (first | refine blk_drewN ?_ _ | refine blk_drew ?_ | refine blk_alloc ?_ _)); exact BK181.out⟩, ⟨by repeat (first | (with_reducible first | exact HB.out | apply below_alloc | apply pw_below_drewN | apply below_drew1 | refine below_set ?_ GE181.out) | exact HB.out)⟩⟩
  case round =>
    clear H'
    try clear c2
    try clear p2
    obtain ⟨x9_1, rfl, HA, HK1, BK181, HB⟩ := hrel
    cases gk with
    | zero => exact absurd HA.out (by simp [spec_has.l0])
    | succ k1 =>
      have H := HA.out
      clear HA
      simp only [spec_has.l0] at H
      by_cases c4 : x9_1 < (l0.length : Int)
      · rw [if_pos c4] at H
        have c4b0 : decide (x9_1 < (l0.length : Int)) = true := decide_eq_true c4
        clear c4
        by_cases c5 : 0 ≤ x9_1
        · rw [if_pos c5] at H
          have c5b0 : decide (0 ≤ x9_1) = true := decide_eq_true c5
          clear c5
          by_cases c6 : x9_1 < (l0.length : Int)
          · rw [if_pos c6] at H
            have c6b0 : decide (x9_1 < (l0.length : Int)) = true := decide_eq_true c6
            clear c6
            by_cases c7 : ((((rd_T37 l0 x9_1).f0).toList) == a1_0.toList && (((rd_T37 l0 x9_1).f1) == a1_1 && ((((rd_T37 l0 x9_1).f2).toList) == a1_2.toList))) = true
            · rw [if_pos c7] at H
              have c7b0 : ((((rd_T37 l0 x9_1).f0).toList) == a1_0.toList && (((rd_T37 l0 x9_1).f1) == a1_1 && ((((rd_T37 l0 x9_1).f2).toList) == a1_2.toList))) = true := c7
              (try (have c7b1 : decide ((((rd_T37 l0 x9_1).f0).toList) = a1_0.toList && (((rd_T37 l0 x9_1).f1) == a1_1 && ((((rd_T37 l0 x9_1).f2).toList) == a1_2.toList))) = true := by simpa using c7))
              (try (have c7b2 : ((((rd_T37 l0 x9_1).f0).toList) == a1_0.toList && (((rd_T37 l0 x9_1).f1) == a1_1 && ((((rd_T37 l0 x9_1).f2).toList) == a1_2.toList))) = true := by simpa using c7))
              clear c7
              obtain rfl := Option.some.inj H
              have p182 : 0 ≤ (x9_1 : Int) := of_decide_eq_true (by first | (with_reducible assumption) | assumption)
              have q182 : x9_1 < (l0.length : Int) := of_decide_eq_true (by first | (with_reducible assumption) | assumption)
              obtain ⟨ad182, e182, hx182_0, hx182_1, hx182_2⟩ := at_T37 HR0.out x9_1 p182 q182
              cases e182
              replace hx182_0 := (HB.out.cell (World.block_lt_of_cell? w _ hx182_0)).trans hx182_0
              replace hx182_1 := (HB.out.cell (World.block_lt_of_cell? w _ hx182_1)).trans hx182_1
              replace hx182_2 := (HB.out.cell (World.block_lt_of_cell? w _ hx182_2)).trans hx182_2
              replace p182 := eq_true p182
              replace q182 := eq_true q182
              go_wp2_with (first | ((with_reducible refine gate_dst (N := 6) rfl ?_); refine box_event ?hg (N := 6) ?hd (cs := #[.string (⟨#[]⟩ : ByteArray), .int .u32 0, .string (⟨#[]⟩ : ByteArray)]) (t := 37) ?hr ?_; (case hd => rfl); (case hg => rfl); (case hr => first | (go_simp; done) | (go_simp; rfl)); intro gb183 hg w8 hbox hb; have n0_ := Aside0.mk (blk_below (g := gb181) (o := .cells #[.string a1_0, .int .u32 a1_1, .string a1_2] 37 (0, 0)) (by (with_reducible repeat (first | refine blk_drewN ?_ _ | refine blk_drew ?_ | refine blk_alloc ?_ _)); exact BK181.out) hb); have n1_ := Aside0.mk (below_step (by repeat (first | (with_reducible first | exact HB.out | apply below_alloc | apply pw_below_drewN | apply below_drew1 | refine below_set ?_ GE181.out) | exact HB.out)) hb); have n2_ := Aside0.mk (hbox); have n3_ := Aside0.mk ((by rw [hg]; exact (below_size (by repeat (first | (with_reducible first | exact HB.out | apply below_alloc | apply pw_below_drewN | apply below_drew1 | refine below_set ?_ GE181.out) | exact HB.out))) : w.heap.size ≤ gb183)); have n4_ := Aside0.mk ((by rw [hg]; exact (below_size (by repeat (first | (with_reducible first | exact HB.out | apply below_alloc | apply pw_below_drewN | apply below_drew1 | refine below_set ?_ GE181.out) | exact HB.out))) : w.heap.size ≤ gb183)); have n5_ := Aside0.mk ((by rw [hg]; exact Nat.ne_of_lt (blk_lt (g := gb181) (o := .cells #[.string a1_0, .int .u32 a1_1, .string a1_2] 37 (0, 0)) (by (with_reducible repeat (first | refine blk_drewN ?_ _ | refine blk_drew ?_ | refine blk_alloc ?_ _)); exact BK181.out)) : gb181 ≠ gb183)); have n6_ := Aside0.mk ((by rw [hg]; exact Nat.ne_of_gt (blk_lt (g := gb181) (o := .cells #[.string a1_0, .int .u32 a1_1, .string a1_2] 37 (0, 0)) (by (with_reducible repeat (first | refine blk_drewN ?_ _ | refine blk_drew ?_ | refine blk_alloc ?_ _)); exact BK181.out)) : gb183 ≠ gb181)); clear BK181; clear HB; have BK181 := n0_; have HB := n1_; have BK183 := n2_; have GW183 := n3_; have GE183 := n4_; have NB181_183 := n5_; have NB183_181 := n6_; clear n0_ n1_ n2_ n3_ n4_ n5_ n6_; clear hb hbox hg; have hnb9 := NB183_181.out; have hnc9 := NB181_183.out; have hcz10_0 : w8.cell? ⟨gb183, 0, none⟩ = some (.string (⟨#[]⟩ : ByteArray)) := (blk_cell BK183.out 0).trans rfl; have hcz10_1 : w8.cell? ⟨gb183, 1, none⟩ = some (.int .u32 0) := (blk_cell BK183.out 1).trans rfl; have hcz10_2 : w8.cell? ⟨gb183, 2, none⟩ = some (.string (⟨#[]⟩ : ByteArray)) := (blk_cell BK183.out 2).trans rfl; have hfz10_0 := blk_frozen BK183.out 0; have hfz10_1 := blk_frozen BK183.out 1; have hfz10_2 := blk_frozen BK183.out 2; have hcz11_0 : w8.cell? ⟨gb181, 0, none⟩ = some (.string a1_0) := (blk_cell BK181.out 0).trans rfl; have hcz11_1 : w8.cell? ⟨gb181, 1, none⟩ = some (.int .u32 a1_1) := (blk_cell BK181.out 1).trans rfl; have hcz11_2 : w8.cell? ⟨gb181, 2, none⟩ = some (.string a1_2) := (blk_cell BK181.out 2).trans rfl; have hfz11_0 := blk_frozen BK181.out 0; have hfz11_1 := blk_frozen BK181.out 1; have hfz11_2 := blk_frozen BK181.out 2))
              go_ret
              exact ⟨by first | rfl | (simp [errW_none, errW_some] <;> rfl) | (simp [*, errW_none, errW_some] <;> rfl), by repeat (first | (with_reducible first | exact HB.out | apply below_alloc | apply pw_below_drewN | apply below_drew1 | refine below_set ?_ GE181.out | refine below_set ?_ GE183.out) | exact HB.out)⟩
            · rw [if_neg c7] at H
              have c7b0 : ((((rd_T37 l0 x9_1).f0).toList) == a1_0.toList && (((rd_T37 l0 x9_1).f1) == a1_1 && ((((rd_T37 l0 x9_1).f2).toList) == a1_2.toList))) = false := by simpa using c7
              (try (have c7b1 : decide ((((rd_T37 l0 x9_1).f0).toList) = a1_0.toList && (((rd_T37 l0 x9_1).f1) == a1_1 && ((((rd_T37 l0 x9_1).f2).toList) == a1_2.toList))) = false := by simpa using c7))
              (try (have c7b2 : ((((rd_T37 l0 x9_1).f0).toList) == a1_0.toList && (((rd_T37 l0 x9_1).f1) == a1_1 && ((((rd_T37 l0 x9_1).f2).toList) == a1_2.toList))) = false := by simpa using c7))
              (try (have c7b3 : ¬ ((((rd_T37 l0 x9_1).f0).toList) = a1_0.toList && (((rd_T37 l0 x9_1).f1) == a1_1 && ((((rd_T37 l0 x9_1).f2).toList) == a1_2.toList))) := by simpa using c7))
              clear c7
              have H' := Aside0.mk H
              clear H
              have p182 : 0 ≤ (x9_1 : Int) := of_decide_eq_true (by first | (with_reducible assumption) | assumption)
              have q182 : x9_1 < (l0.length : Int) := of_decide_eq_true (by first | (with_reducible assumption) | assumption)
              obtain ⟨ad182, e182, hx182_0, hx182_1, hx182_2⟩ := at_T37 HR0.out x9_1 p182 q182
              cases e182
              replace hx182_0 := (HB.out.cell (World.block_lt_of_cell? w _ hx182_0)).trans hx182_0
              replace hx182_1 := (HB.out.cell (World.block_lt_of_cell? w _ hx182_1)).trans hx182_1
              replace hx182_2 := (HB.out.cell (World.block_lt_of_cell? w _ hx182_2)).trans hx182_2
              replace p182 := eq_true p182
              replace q182 := eq_true q182
              go_wp2_with (first | ((with_reducible refine gate_dst (N := 6) rfl ?_); refine box_event ?hg (N := 6) ?hd (cs := #[.string (⟨#[]⟩ : ByteArray), .int .u32 0, .string (⟨#[]⟩ : ByteArray)]) (t := 37) ?hr ?_; (case hd => rfl); (case hg => rfl); (case hr => first | (go_simp; done) | (go_simp; rfl)); intro gb183 hg w12 hbox hb; have n0_ := Aside0.mk (blk_below (g := gb181) (o := .cells #[.string a1_0, .int .u32 a1_1, .string a1_2] 37 (0, 0)) (by (with_reducible repeat (first | refine blk_drewN ?_ _ | refine blk_drew ?_ | refine blk_alloc ?_ _)); exact BK181.out) hb); have n1_ := Aside0.mk (below_step (by repeat (first | (with_reducible first | exact HB.out | apply below_alloc | apply pw_below_drewN | apply below_drew1 | refine below_set ?_ GE181.out) | exact HB.out)) hb); have n2_ := Aside0.mk (hbox); have n3_ := Aside0.mk ((by rw [hg]; exact (below_size (by repeat (first | (with_reducible first | exact HB.out | apply below_alloc | apply pw_below_drewN | apply below_drew1 | refine below_set ?_ GE181.out) | exact HB.out))) : w.heap.size ≤ gb183)); have n4_ := Aside0.mk ((by rw [hg]; exact (below_size (by repeat (first | (with_reducible first | exact HB.out | apply below_alloc | apply pw_below_drewN | apply below_drew1 | refine below_set ?_ GE181.out) | exact HB.out))) : w.heap.size ≤ gb183)); have n5_ := Aside0.mk ((by rw [hg]; exact Nat.ne_of_lt (blk_lt (g := gb181) (o := .cells #[.string a1_0, .int .u32 a1_1, .string a1_2] 37 (0, 0)) (by (with_reducible repeat (first | refine blk_drewN ?_ _ | refine blk_drew ?_ | refine blk_alloc ?_ _)); exact BK181.out)) : gb181 ≠ gb183)); have n6_ := Aside0.mk ((by rw [hg]; exact Nat.ne_of_gt (blk_lt (g := gb181) (o := .cells #[.string a1_0, .int .u32 a1_1, .string a1_2] 37 (0, 0)) (by (with_reducible repeat (first | refine blk_drewN ?_ _ | refine blk_drew ?_ | refine blk_alloc ?_ _)); exact BK181.out)) : gb183 ≠ gb181)); clear BK181; clear HB; have BK181 := n0_; have HB := n1_; have BK183 := n2_; have GW183 := n3_; have GE183 := n4_; have NB181_183 := n5_; have NB183_181 := n6_; clear n0_ n1_ n2_ n3_ n4_ n5_ n6_; clear hb hbox hg; have hnb13 := NB183_181.out; have hnc13 := NB181_183.out; have hcz14_0 : w12.cell? ⟨gb183, 0, none⟩ = some (.string (⟨#[]⟩ : ByteArray)) := (blk_cell BK183.out 0).trans rfl; have hcz14_1 : w12.cell? ⟨gb183, 1, none⟩ = some (.int .u32 0) := (blk_cell BK183.out 1).trans rfl; have hcz14_2 : w12.cell? ⟨gb183, 2, none⟩ = some (.string (⟨#[]⟩ : ByteArray)) := (blk_cell BK183.out 2).trans rfl; have hfz14_0 := blk_frozen BK183.out 0; have hfz14_1 := blk_frozen BK183.out 1; have hfz14_2 := blk_frozen BK183.out 2; have hcz15_0 : w12.cell? ⟨gb181, 0, none⟩ = some (.string a1_0) := (blk_cell BK181.out 0).trans rfl; have hcz15_1 : w12.cell? ⟨gb181, 1, none⟩ = some (.int .u32 a1_1) := (blk_cell BK181.out 1).trans rfl; have hcz15_2 : w12.cell? ⟨gb181, 2, none⟩ = some (.string a1_2) := (blk_cell BK181.out 2).trans rfl; have hfz15_0 := blk_frozen BK181.out 0; have hfz15_1 := blk_frozen BK181.out 1; have hfz15_2 := blk_frozen BK181.out 2))
              go_roundg k1
              case measure => have := HK1.out; omega
              case rel => exact ⟨(wrap64 (x9_1 + 1)), (by first | rfl | (simp; done) | (simp [*]; done)), H', ⟨by have := HK1.out; omega⟩, ⟨by (with_reducible repeat (first | refine blk_drewN ?_ _ | refine blk_drew ?_ | refine blk_alloc ?_ _)); refine blk_far ?_ NB181_183.out _; (with_reducible repeat (first | refine blk_drewN ?_ _ | refine blk_drew ?_ | refine blk_alloc ?_ _)); refine blk_far ?_ NB181_183.out _; (with_reducible repeat (first | refine blk_drewN ?_ _ | refine blk_drew ?_ | refine blk_alloc ?_ _)); refine blk_far ?_ NB181_183.out _; (with_reducible repeat (first | refine blk_drewN ?_ _ | refine blk_drew ?_ | refine blk_alloc ?_ _)); exact BK181.out⟩, ⟨by repeat (first | (with_reducible first | exact HB.out | apply below_alloc | apply pw_below_drewN | apply below_drew1 | refine below_set ?_ GE181.out | refine below_set ?_ GE183.out) | exact HB.out)⟩⟩
          · rw [if_neg c6] at H
            exact absurd H (by simp)
        · rw [if_neg c5] at H
          exact absurd H (by simp)
      · rw [if_neg c4] at H
        have c4b0 : decide (x9_1 < (l0.length : Int)) = false := decide_eq_false c4
        clear c4
        obtain rfl := Option.some.inj H
        go_wp2
        go_ret
        exact ⟨by first | rfl | (simp [errW_none, errW_some] <;> rfl) | (simp [*, errW_none, errW_some] <;> rfl), by repeat (first | (with_reducible first | exact HB.out | apply below_alloc | apply pw_below_drewN | apply below_drew1 | refine below_set ?_ GE181.out) | exact HB.out)⟩
def spec_Accepts.l0 : Nat → ByteArray → ByteArray → List ByteArray → Int → Int → ByteArray → Int → List ByteArray → List ByteArray → Option (Bool)
  | 0, _, _, _, _, _, _, _, _, _ => none
  | k + 1, x1, x2, x10, x11, x12, x185000, x185001, x185002, x185003 => if x12 < x11 then (if 0 ≤ x12 then (if x12 < (x10.length : Int) then (if x12 < (x185003.length : Int) then (if (rdOf ByteArray.empty x10 x12).toList = x1.toList then (if (rdOf ByteArray.empty x185003 x12).toList = x2.toList then (some true) else (spec_Accepts.l0 k x1 x2 x10 x11 (wrap64 (x12 + 1)) x185000 x185001 x185002 x185003)) else (spec_Accepts.l0 k x1 x2 x10 x11 (wrap64 (x12 + 1)) x185000 x185001 x185002 x185003)) else (spec_Accepts.l0 k x1 x2 x10 x11 (wrap64 (x12 + 1)) x185000 x185001 x185002 x185003)) else (none)) else (none)) else (some false)
def spec_Accepts.f (k : Nat) (a0_0 : ByteArray) (a0_1 : Int) (l0_2 : List ByteArray) (l0_3 : List ByteArray) (a1 : ByteArray) (a2 : ByteArray) : Option (Bool) := spec_Accepts.l0 k a1 a2 l0_2 (l0_2.length : Int) 0 a0_0 a0_1 l0_2 l0_3
theorem spec_Accepts.mono_l : ∀ k, (∀ y0 y1 y2 y3 y4 y5 y6 y7 y8, LeO (spec_Accepts.l0 k y0 y1 y2 y3 y4 y5 y6 y7 y8) (spec_Accepts.l0 (k + 1) y0 y1 y2 y3 y4 y5 y6 y7 y8))
  | 0 => fun _ _ _ _ _ _ _ _ _ r h => by simp [spec_Accepts.l0] at h
  | k + 1 => by
    have ih0 := spec_Accepts.mono_l k
    · intro y0 y1 y2 y3 y4 y5 y6 y7 y8
      unfold spec_Accepts.l0
      repeat' first
      | (with_reducible exact ih0 _ _ _ _ _ _ _ _ _)
      | (with_reducible exact LeO.refl _)
      | (with_reducible exact LeO.none _)
      | (with_reducible refine LeO.ite ?_ ?_)
      | (with_reducible refine LeO.bind ?_ (fun _ => ?_))
      | exact ih0 _ _ _ _ _ _ _ _ _
      | exact LeO.none _
      | refine LeO.ite ?_ ?_
      | refine LeO.bind ?_ (fun _ => ?_)
theorem spec_Accepts.mono : ∀ a0 a1 a2 a3 a4 a5 k, LeO (spec_Accepts.f k a0 a1 a2 a3 a4 a5) (spec_Accepts.f (k + 1) a0 a1 a2 a3 a4 a5) := by
  intro a0 a1 a2 a3 a4 a5 k
  have ih0 := spec_Accepts.mono_l k
  unfold spec_Accepts.f
  repeat' first
      | (with_reducible exact ih0 _ _ _ _ _ _ _ _ _)
      | (with_reducible exact LeO.refl _)
      | (with_reducible exact LeO.none _)
      | (with_reducible refine LeO.ite ?_ ?_)
      | (with_reducible refine LeO.bind ?_ (fun _ => ?_))
      | exact ih0 _ _ _ _ _ _ _ _ _
      | exact LeO.none _
      | refine LeO.ite ?_ ?_
      | refine LeO.bind ?_ (fun _ => ?_)
set_option maxHeartbeats 8000000 in
set_option maxRecDepth 100000 in
theorem spec_Accepts.calls (k : Nat) (a0_0 : ByteArray) (a0_1 : Int) (A0_2 : Option Addr) (c0_2 : Nat) (l0_2 : List ByteArray) (A0_3 : Option Addr) (c0_3 : Nat) (l0_3 : List ByteArray) (a1 : ByteArray) (a2 : ByteArray) (r : Bool) (w : World) (hr0_2 : Kd.C Kd.string w A0_2 l0_2.length l0_2) (hc0_2 : l0_2.length ≤ c0_2) (hr0_3 : Kd.C Kd.string w A0_3 l0_3.length l0_3) (hc0_3 : l0_3.length ≤ c0_3) (h : spec_Accepts.f k a0_0 a0_1 l0_2 l0_3 a1 a2 = some r) :
    Calls Tryd.prog 22 #[.agg #[.string a0_0, .int .u32 a0_1, .slice A0_2 l0_2.length c0_2, .slice A0_3 l0_3.length c0_3], .string a1, .string a2] w fun e w' => e = .returned (.bool r) ∧ Below w.heap.size w w' := by
  have hu59 := Tryd.underlying59
  have HR0_2 := Aside0.mk hr0_2
  have HC0_2 := Aside0.mk hc0_2
  clear hr0_2 hc0_2
  have HR0_3 := Aside0.mk hr0_3
  have HC0_3 := Aside0.mk hc0_3
  clear hr0_3 hc0_3
  have HB := Aside0.mk (Below.refl w.heap.size w)
  have H : (spec_Accepts.l0 k a1 a2 l0_2 (l0_2.length : Int) 0 a0_0 a0_1 l0_2 l0_3) = some r := h
  clear h
  have H' := Aside0.mk H
  clear H
  go_enter Tryd.func22, Tryd.ntmps22
  go_wp2_with (first | ((with_reducible refine gate_dst (N := 3) rfl ?_); refine box_event ?hg (N := 3) ?hd (cs := #[.string a0_0, .int .u32 a0_1, .slice A0_2 l0_2.length c0_2, .slice A0_3 l0_3.length c0_3]) (t := 59) ?hr ?_; (case hd => rfl); (case hg => rfl); (case hr => first | (go_simp; done) | (go_simp; rfl)); intro gb184 hg w4 hbox hb; have n0_ := Aside0.mk (below_step (by repeat (first | (with_reducible first | exact HB.out | apply below_alloc | apply pw_below_drewN | apply below_drew1) | exact HB.out)) hb); have n1_ := Aside0.mk (hbox); have n2_ := Aside0.mk ((by rw [hg]; exact (below_size (by repeat (first | (with_reducible first | exact HB.out | apply below_alloc | apply pw_below_drewN | apply below_drew1) | exact HB.out))) : w.heap.size ≤ gb184)); have n3_ := Aside0.mk ((by rw [hg]; exact (below_size (by repeat (first | (with_reducible first | exact HB.out | apply below_alloc | apply pw_below_drewN | apply below_drew1) | exact HB.out))) : w.heap.size ≤ gb184)); clear HB; have HB := n0_; have BK184 := n1_; have GW184 := n2_; have GE184 := n3_; clear n0_ n1_ n2_ n3_; clear hb hbox hg; have hcz5_0 : w4.cell? ⟨gb184, 0, none⟩ = some (.string a0_0) := (blk_cell BK184.out 0).trans rfl; have hcz5_1 : w4.cell? ⟨gb184, 1, none⟩ = some (.int .u32 a0_1) := (blk_cell BK184.out 1).trans rfl; have hcz5_2 : w4.cell? ⟨gb184, 2, none⟩ = some (.slice A0_2 l0_2.length c0_2) := (blk_cell BK184.out 2).trans rfl; have hcz5_3 : w4.cell? ⟨gb184, 3, none⟩ = some (.slice A0_3 l0_3.length c0_3) := (blk_cell BK184.out 3).trans rfl; have hfz5_0 := blk_frozen BK184.out 0; have hfz5_1 := blk_frozen BK184.out 1; have hfz5_2 := blk_frozen BK184.out 2; have hfz5_3 := blk_frozen BK184.out 3))
  go_loopg [12] k (fun kq v12 w' => ∃ (x12_1 : Int), v12 = .int .i64 x12_1 ∧ Aside0 (spec_Accepts.l0 kq a1 a2 l0_2 (l0_2.length : Int) x12_1 a0_0 a0_1 l0_2 l0_3 = some r) ∧ Aside0 (kq ≤ k) ∧ Aside0 (w'.heap[gb184]? = some (.cells #[.string a0_0, .int .u32 a0_1, (.slice A0_2 l0_2.length c0_2), (.slice A0_3 l0_3.length c0_3)] 59 (0, 0))) ∧ Aside0 (Below w.heap.size w w'))
  case atStart => exact ⟨(0), (by first | rfl | (simp; done) | (simp [*]; done)), H', ⟨Nat.le_refl _⟩, ⟨by (with_reducible repeat (first | refine blk_drewN ?_ _ | refine blk_drew ?_ | refine blk_alloc ?_ _)); exact BK184.out⟩, ⟨by repeat (first | (with_reducible first | exact HB.out | apply below_alloc | apply pw_below_drewN | apply below_drew1 | refine below_set ?_ GE184.out) | exact HB.out)⟩⟩
  case round =>
    clear H'
    try clear c2
    try clear p2
    try clear hcz5_0
    try clear hcz5_1
    try clear hcz5_2
    try clear hcz5_3
    try clear hfz5_0
    try clear hfz5_1
    try clear hfz5_2
    try clear hfz5_3
    obtain ⟨x12_1, rfl, HA, HK1, BK184, HB⟩ := hrel
    cases gk with
    | zero => exact absurd HA.out (by simp [spec_Accepts.l0])
    | succ k1 =>
      have H := HA.out
      clear HA
      simp only [spec_Accepts.l0] at H
      by_cases c6 : x12_1 < (l0_2.length : Int)
      · rw [if_pos c6] at H
        have c6b0 : decide (x12_1 < (l0_2.length : Int)) = true := decide_eq_true c6
        clear c6
        by_cases c7 : 0 ≤ x12_1
        · rw [if_pos c7] at H
          have c7b0 : decide (0 ≤ x12_1) = true := decide_eq_true c7
          clear c7
          by_cases c8 : x12_1 < (l0_2.length : Int)
          · rw [if_pos c8] at H
            have c8b0 : decide (x12_1 < (l0_2.length : Int)) = true := decide_eq_true c8
            clear c8
            by_cases c9 : x12_1 < (l0_3.length : Int)
            · rw [if_pos c9] at H
              have c9b0 : decide (x12_1 < (l0_3.length : Int)) = true := decide_eq_true c9
              clear c9
              by_cases c10 : (rdOf ByteArray.empty l0_2 x12_1).toList = a1.toList
              · rw [if_pos c10] at H
                have c10b0 : ((rdOf ByteArray.empty l0_2 x12_1).toList == a1.toList) = true := beq_iff_eq.mpr c10
                have c10b1 : ((rdOf ByteArray.empty l0_2 x12_1).toList != a1.toList) = false := bne_eq_false_iff_eq.mpr c10
                clear c10
                by_cases c11 : (rdOf ByteArray.empty l0_3 x12_1).toList = a2.toList
                · rw [if_pos c11] at H
                  have c11b0 : ((rdOf ByteArray.empty l0_3 x12_1).toList == a2.toList) = true := beq_iff_eq.mpr c11
                  have c11b1 : ((rdOf ByteArray.empty l0_3 x12_1).toList != a2.toList) = false := bne_eq_false_iff_eq.mpr c11
                  clear c11
                  obtain rfl := Option.some.inj H
                  have p185 : 0 ≤ (x12_1 : Int) := of_decide_eq_true (by first | (with_reducible assumption) | assumption)
                  have q185 : x12_1 < (l0_2.length : Int) := of_decide_eq_true (by first | (with_reducible assumption) | assumption)
                  obtain ⟨ad185, e185, hx185_0⟩ := Kd.at_string HR0_2.out x12_1 p185 q185
                  cases e185
                  replace hx185_0 := (HB.out.cell (World.block_lt_of_cell? w _ hx185_0)).trans hx185_0
                  replace p185 := eq_true p185
                  replace q185 := eq_true q185
                  have hcz12_0 : wr.cell? ⟨gb184, 0, none⟩ = some (.string a0_0) := (blk_cell BK184.out 0).trans rfl
                  have hcz12_1 : wr.cell? ⟨gb184, 1, none⟩ = some (.int .u32 a0_1) := (blk_cell BK184.out 1).trans rfl
                  have hcz12_2 : wr.cell? ⟨gb184, 2, none⟩ = some (.slice (some ad185) l0_2.length c0_2) := (blk_cell BK184.out 2).trans rfl
                  have hcz12_3 : wr.cell? ⟨gb184, 3, none⟩ = some (.slice A0_3 l0_3.length c0_3) := (blk_cell BK184.out 3).trans rfl
                  have hfz12_0 := blk_frozen BK184.out 0
                  have hfz12_1 := blk_frozen BK184.out 1
                  have hfz12_2 := blk_frozen BK184.out 2
                  have hfz12_3 := blk_frozen BK184.out 3
                  have p186 : 0 ≤ (x12_1 : Int) := of_decide_eq_true (by first | (with_reducible assumption) | assumption)
                  have q186 : x12_1 < (l0_3.length : Int) := of_decide_eq_true (by first | (with_reducible assumption) | assumption)
                  obtain ⟨ad186, e186, hx186_0⟩ := Kd.at_string HR0_3.out x12_1 p186 q186
                  cases e186
                  replace hx186_0 := (HB.out.cell (World.block_lt_of_cell? w _ hx186_0)).trans hx186_0
                  replace p186 := eq_true p186
                  replace q186 := eq_true q186
                  go_wp2
                  go_ret
                  exact ⟨by first | rfl | (simp [errW_none, errW_some] <;> rfl) | (simp [*, errW_none, errW_some] <;> rfl), by repeat (first | (with_reducible first | exact HB.out | apply below_alloc | apply pw_below_drewN | apply below_drew1 | refine below_set ?_ GE184.out) | exact HB.out)⟩
                · rw [if_neg c11] at H
                  have c11b0 : ((rdOf ByteArray.empty l0_3 x12_1).toList == a2.toList) = false := beq_eq_false_iff_ne.mpr c11
                  have c11b1 : ((rdOf ByteArray.empty l0_3 x12_1).toList != a2.toList) = true := bne_iff_ne.mpr c11
                  have H' := Aside0.mk H
                  clear H
                  have p185 : 0 ≤ (x12_1 : Int) := of_decide_eq_true (by first | (with_reducible assumption) | assumption)
                  have q185 : x12_1 < (l0_2.length : Int) := of_decide_eq_true (by first | (with_reducible assumption) | assumption)
                  obtain ⟨ad185, e185, hx185_0⟩ := Kd.at_string HR0_2.out x12_1 p185 q185
                  cases e185
                  replace hx185_0 := (HB.out.cell (World.block_lt_of_cell? w _ hx185_0)).trans hx185_0
                  replace p185 := eq_true p185
                  replace q185 := eq_true q185
                  have hcz13_0 : wr.cell? ⟨gb184, 0, none⟩ = some (.string a0_0) := (blk_cell BK184.out 0).trans rfl
                  have hcz13_1 : wr.cell? ⟨gb184, 1, none⟩ = some (.int .u32 a0_1) := (blk_cell BK184.out 1).trans rfl
                  have hcz13_2 : wr.cell? ⟨gb184, 2, none⟩ = some (.slice (some ad185) l0_2.length c0_2) := (blk_cell BK184.out 2).trans rfl
                  have hcz13_3 : wr.cell? ⟨gb184, 3, none⟩ = some (.slice A0_3 l0_3.length c0_3) := (blk_cell BK184.out 3).trans rfl
                  have hfz13_0 := blk_frozen BK184.out 0
                  have hfz13_1 := blk_frozen BK184.out 1
                  have hfz13_2 := blk_frozen BK184.out 2
                  have hfz13_3 := blk_frozen BK184.out 3
                  have p186 : 0 ≤ (x12_1 : Int) := of_decide_eq_true (by first | (with_reducible assumption) | assumption)
                  have q186 : x12_1 < (l0_3.length : Int) := of_decide_eq_true (by first | (with_reducible assumption) | assumption)
                  obtain ⟨ad186, e186, hx186_0⟩ := Kd.at_string HR0_3.out x12_1 p186 q186
                  cases e186
                  replace hx186_0 := (HB.out.cell (World.block_lt_of_cell? w _ hx186_0)).trans hx186_0
                  replace p186 := eq_true p186
                  replace q186 := eq_true q186
                  go_wp2
                  go_roundg k1
                  case measure => have := HK1.out; omega
                  case rel => exact ⟨(wrap64 (x12_1 + 1)), (by first | rfl | (simp; done) | (simp [*]; done)), H', ⟨by have := HK1.out; omega⟩, ⟨by (with_reducible repeat (first | refine blk_drewN ?_ _ | refine blk_drew ?_ | refine blk_alloc ?_ _)); exact BK184.out⟩, ⟨by repeat (first | (with_reducible first | exact HB.out | apply below_alloc | apply pw_below_drewN | apply below_drew1 | refine below_set ?_ GE184.out) | exact HB.out)⟩⟩
              · rw [if_neg c10] at H
                have c10b0 : ((rdOf ByteArray.empty l0_2 x12_1).toList == a1.toList) = false := beq_eq_false_iff_ne.mpr c10
                have c10b1 : ((rdOf ByteArray.empty l0_2 x12_1).toList != a1.toList) = true := bne_iff_ne.mpr c10
                have H' := Aside0.mk H
                clear H
                have p185 : 0 ≤ (x12_1 : Int) := of_decide_eq_true (by first | (with_reducible assumption) | assumption)
                have q185 : x12_1 < (l0_2.length : Int) := of_decide_eq_true (by first | (with_reducible assumption) | assumption)
                obtain ⟨ad185, e185, hx185_0⟩ := Kd.at_string HR0_2.out x12_1 p185 q185
                cases e185
                replace hx185_0 := (HB.out.cell (World.block_lt_of_cell? w _ hx185_0)).trans hx185_0
                replace p185 := eq_true p185
                replace q185 := eq_true q185
                have hcz14_0 : wr.cell? ⟨gb184, 0, none⟩ = some (.string a0_0) := (blk_cell BK184.out 0).trans rfl
                have hcz14_1 : wr.cell? ⟨gb184, 1, none⟩ = some (.int .u32 a0_1) := (blk_cell BK184.out 1).trans rfl
                have hcz14_2 : wr.cell? ⟨gb184, 2, none⟩ = some (.slice (some ad185) l0_2.length c0_2) := (blk_cell BK184.out 2).trans rfl
                have hcz14_3 : wr.cell? ⟨gb184, 3, none⟩ = some (.slice A0_3 l0_3.length c0_3) := (blk_cell BK184.out 3).trans rfl
                have hfz14_0 := blk_frozen BK184.out 0
                have hfz14_1 := blk_frozen BK184.out 1
                have hfz14_2 := blk_frozen BK184.out 2
                have hfz14_3 := blk_frozen BK184.out 3
                go_wp2
                go_roundg k1
                case measure => have := HK1.out; omega
                case rel => exact ⟨(wrap64 (x12_1 + 1)), (by first | rfl | (simp; done) | (simp [*]; done)), H', ⟨by have := HK1.out; omega⟩, ⟨by (with_reducible repeat (first | refine blk_drewN ?_ _ | refine blk_drew ?_ | refine blk_alloc ?_ _)); exact BK184.out⟩, ⟨by repeat (first | (with_reducible first | exact HB.out | apply below_alloc | apply pw_below_drewN | apply below_drew1 | refine below_set ?_ GE184.out) | exact HB.out)⟩⟩
            · rw [if_neg c9] at H
              have c9b0 : decide (x12_1 < (l0_3.length : Int)) = false := decide_eq_false c9
              clear c9
              have H' := Aside0.mk H
              clear H
              have p185 : 0 ≤ (x12_1 : Int) := of_decide_eq_true (by first | (with_reducible assumption) | assumption)
              have q185 : x12_1 < (l0_2.length : Int) := of_decide_eq_true (by first | (with_reducible assumption) | assumption)
              obtain ⟨ad185, e185, hx185_0⟩ := Kd.at_string HR0_2.out x12_1 p185 q185
              cases e185
              replace hx185_0 := (HB.out.cell (World.block_lt_of_cell? w _ hx185_0)).trans hx185_0
              replace p185 := eq_true p185
              replace q185 := eq_true q185
              have hcz15_0 : wr.cell? ⟨gb184, 0, none⟩ = some (.string a0_0) := (blk_cell BK184.out 0).trans rfl
              have hcz15_1 : wr.cell? ⟨gb184, 1, none⟩ = some (.int .u32 a0_1) := (blk_cell BK184.out 1).trans rfl
              have hcz15_2 : wr.cell? ⟨gb184, 2, none⟩ = some (.slice (some ad185) l0_2.length c0_2) := (blk_cell BK184.out 2).trans rfl
              have hcz15_3 : wr.cell? ⟨gb184, 3, none⟩ = some (.slice A0_3 l0_3.length c0_3) := (blk_cell BK184.out 3).trans rfl
              have hfz15_0 := blk_frozen BK184.out 0
              have hfz15_1 := blk_frozen BK184.out 1
              have hfz15_2 := blk_frozen BK184.out 2
              have hfz15_3 := blk_frozen BK184.out 3
              go_wp2
              go_roundg k1
              case measure => have := HK1.out; omega
              case rel => exact ⟨(wrap64 (x12_1 + 1)), (by first | rfl | (simp; done) | (simp [*]; done)), H', ⟨by have := HK1.out; omega⟩, ⟨by (with_reducible repeat (first | refine blk_drewN ?_ _ | refine blk_drew ?_ | refine blk_alloc ?_ _)); exact BK184.out⟩, ⟨by repeat (first | (with_reducible first | exact HB.out | apply below_alloc | apply pw_below_drewN | apply below_drew1 | refine below_set ?_ GE184.out) | exact HB.out)⟩⟩
          · rw [if_neg c8] at H
            exact absurd H (by simp)
        · rw [if_neg c7] at H
          exact absurd H (by simp)
      · rw [if_neg c6] at H
        have c6b0 : decide (x12_1 < (l0_2.length : Int)) = false := decide_eq_false c6
        clear c6
        obtain rfl := Option.some.inj H
        go_wp2
        go_ret
        exact ⟨by first | rfl | (simp [errW_none, errW_some] <;> rfl) | (simp [*, errW_none, errW_some] <;> rfl), by repeat (first | (with_reducible first | exact HB.out | apply below_alloc | apply pw_below_drewN | apply below_drew1 | refine below_set ?_ GE184.out) | exact HB.out)⟩
end Go.Proofs.YtkbegfihdpiacaaDoor.PX
