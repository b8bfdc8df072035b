/- Part 15 of the proof: what the theorem reaches of the texts PX6, SpecO, IOpen, SOpP. -/
import Derived.IntWalk
import Derived.StillTailTactics
import Derived.Test.YtkbegfihdpiacaaDoorKS5
import Derived.Test.YtkbegfihdpiacaaDoorKS7
import Derived.Test.YtkbegfihdpiacaaDoorKS10
import Derived.Test.YtkbegfihdpiacaaDoorKS13
import Derived.Test.YtkbegfihdpiacaaDoorKS14

namespace Go.Proofs.YtkbegfihdpiacaaDoor.PX
open Go.RowKit Go.Proofs.YtkbegfihdpiacaaDoorW.PrintWords Go.Proofs.YtkbegfihdpiacaaDoorW.PrintLast Go.Proofs.YtkbegfihdpiacaaDoorW.PrintMore
attribute [local go_sem] max2_int min2_int max_two min_two max_three min_three max_four min_four   -- for this text's walks alone
set_option linter.unusedVariables false
set_option linter.unusedSimpArgs false
mutual
def spec_Open.j0 : Nat → ByteArray → List (S59) → ByteArray → List ByteArray → Bool → Bool → Option (ByteArray × (List (S37)) × (List (S37)) × Int × Bool)
  | 0, _, _, _, _, _, _ => none
  | k + 1, x0, x1, x7, x8, x9, x33 => if x33 = true then (some ((⟨#[]⟩ : ByteArray), ([] : List (S37)), ([] : List (S37)), 1, false)) else ((spec_Plain.f k x0).bind fun t193 => (if t193 = true then (spec_Open.j1 k x1 x7 x8 (!x9)) else (spec_Open.j1 k x1 x7 x8 true)))
def spec_Open.j1 : Nat → List (S59) → ByteArray → List ByteArray → Bool → Option (ByteArray × (List (S37)) × (List (S37)) × Int × Bool)
  | 0, _, _, _, _ => none
  | k + 1, x1, x7, x8, x41 => if x41 = true then (some ((⟨#[]⟩ : ByteArray), ([] : List (S37)), ([] : List (S37)), 1, true)) else (spec_Open.l0 k x1 x7 (([] : List (S37))) x8 (x8.length : Int) 0 x7 ([] : List (S37)) ([] : List (S37)))
def spec_Open.l0 : Nat → List (S59) → ByteArray → List (S37) → List ByteArray → Int → Int → ByteArray → List (S37) → List (S37) → Option (ByteArray × (List (S37)) × (List (S37)) × Int × Bool)
  | 0, _, _, _, _, _, _, _, _, _ => none
  | k + 1, x1, x7, x11, x46, x47, x48, x195000, x195001, x195002 => if x48 < x47 then (if 0 ≤ x48 then (if x48 < (x46.length : Int) then ((spec_Line.f (rdOf ByteArray.empty x46 x48)).bind fun bt199 => (if bt199.2.2.2.2.2 = true then (if bt199.2.2.2.2.1 = true then ((spec_Find.f k x1 bt199.1 bt199.2.1).bind fun t206 => (if t206 < 0 then ((spec_has.f k x195002 bt199.1 bt199.2.1 bt199.2.2.1).bind fun t207 => (if t207 = true then (spec_Open.l0 k x1 x7 x11 x46 x47 (wrap64 (x48 + 1)) x195000 x195001 x195002) else (if x195002.length < 3518437208883 then (spec_Open.l0 k x1 x7 x11 x46 x47 (wrap64 (x48 + 1)) x195000 x195001 (x195002 ++ [(⟨bt199.1, bt199.2.1, bt199.2.2.1⟩ : S37)])) else (none)))) else ((spec_has.f k x11 bt199.1 bt199.2.1 (⟨#[]⟩ : ByteArray)).bind fun t212 => (if t212 = true then (spec_Open.l0 k x1 x7 x11 x46 x47 (wrap64 (x48 + 1)) x195000 x195001 x195002) else (if x11.length < 3518437208883 then (if 0 ≤ t206 then (if t206 < (x1.length : Int) then ((spec_Accepts.f k ((rd_T59 x1 t206).f0) ((rd_T59 x1 t206).f1) ((rd_T59 x1 t206).f2) ((rd_T59 x1 t206).f3) x7 bt199.2.2.2.1).bind fun t217 => (if t217 = true then (if x195001.length < 3518437208883 then (spec_Open.l0 k x1 x7 (x11 ++ [(⟨bt199.1, bt199.2.1, (⟨#[]⟩ : ByteArray)⟩ : S37)]) x46 x47 (wrap64 (x48 + 1)) x195000 (x195001 ++ [(⟨bt199.1, bt199.2.1, bt199.2.2.1⟩ : S37)]) x195002) else (none)) else (some ((⟨#[]⟩ : ByteArray), (([(⟨bt199.1, bt199.2.1, (⟨#[]⟩ : ByteArray)⟩ : S37)] : List (S37))), ([] : List (S37)), 2, true)))) else (none)) else (none)) else (none)))))) else (some ((⟨#[]⟩ : ByteArray), ([] : List (S37)), ([] : List (S37)), 1, true))) else (some ((⟨#[]⟩ : ByteArray), ([] : List (S37)), ([] : List (S37)), 1, false)))) else (none)) else (none)) else (if (x195001.length : Int) = 0 then (some (x195000, x195001, x195002, 3, true)) else (some (x195000, x195001, x195002, 0, true)))
end
def spec_Open.f (k : Nat) (a0 : ByteArray) (l1 : List (S59)) : Option (ByteArray × (List (S37)) × (List (S37)) × Int × Bool) := (spec_Split.f k a0).bind fun bt188 => (if (a0.size : Int) > 2000 then (spec_Open.j0 k a0 l1 bt188.1 bt188.2.1 bt188.2.2 true) else (spec_Open.j0 k a0 l1 bt188.1 bt188.2.1 bt188.2.2 (decide ((bt188.2.1.length : Int) > 100))))
theorem spec_Open.mono_l : ∀ k, (∀ y0 y1 y2 y3 y4 y5, LeO (spec_Open.j0 k y0 y1 y2 y3 y4 y5) (spec_Open.j0 (k + 1) y0 y1 y2 y3 y4 y5)) ∧ (∀ y0 y1 y2 y3, LeO (spec_Open.j1 k y0 y1 y2 y3) (spec_Open.j1 (k + 1) y0 y1 y2 y3)) ∧ (∀ y0 y1 y2 y3 y4 y5 y6 y7 y8, LeO (spec_Open.l0 k y0 y1 y2 y3 y4 y5 y6 y7 y8) (spec_Open.l0 (k + 1) y0 y1 y2 y3 y4 y5 y6 y7 y8))
  | 0 => ⟨fun _ _ _ _ _ _ r h => by simp [spec_Open.j0] at h, fun _ _ _ _ r h => by simp [spec_Open.j1] at h, fun _ _ _ _ _ _ _ _ _ r h => by simp [spec_Open.l0] at h⟩
  | k + 1 => by
    obtain ⟨ih0, ih1, ih2⟩ := spec_Open.mono_l k
    refine ⟨?_, ?_, ?_⟩
    · intro y0 y1 y2 y3 y4 y5
      unfold spec_Open.j0
      repeat' first
      | (with_reducible exact ih0 _ _ _ _ _ _)
      | (with_reducible exact ih1 _ _ _ _)
      | (with_reducible exact ih2 _ _ _ _ _ _ _ _ _)
      | (with_reducible exact spec_Accepts.mono _ _ _ _ _ _ _)
      | (with_reducible exact spec_Find.mono _ _ _ _)
      | (with_reducible exact spec_Plain.mono _ _)
      | (with_reducible exact spec_Split.mono _ _)
      | (with_reducible exact spec_has.mono _ _ _ _ _)
      | (with_reducible exact LeO.refl _)
      | (with_reducible exact LeO.none _)
      | (with_reducible refine LeO.ite ?_ ?_)
      | (with_reducible refine LeO.bind ?_ (fun _ => ?_))
      | exact ih0 _ _ _ _ _ _
      | exact ih1 _ _ _ _
      | exact ih2 _ _ _ _ _ _ _ _ _
      | exact spec_Accepts.mono _ _ _ _ _ _ _
      | exact spec_Find.mono _ _ _ _
      | exact spec_Plain.mono _ _
      | exact spec_Split.mono _ _
      | exact spec_has.mono _ _ _ _ _
      | exact LeO.none _
      | refine LeO.ite ?_ ?_
      | refine LeO.bind ?_ (fun _ => ?_)
    · intro y0 y1 y2 y3
      unfold spec_Open.j1
      repeat' first
      | (with_reducible exact ih0 _ _ _ _ _ _)
      | (with_reducible exact ih1 _ _ _ _)
      | (with_reducible exact ih2 _ _ _ _ _ _ _ _ _)
      | (with_reducible exact spec_Accepts.mono _ _ _ _ _ _ _)
      | (with_reducible exact spec_Find.mono _ _ _ _)
      | (with_reducible exact spec_Plain.mono _ _)
      | (with_reducible exact spec_Split.mono _ _)
      | (with_reducible exact spec_has.mono _ _ _ _ _)
      | (with_reducible exact LeO.refl _)
      | (with_reducible exact LeO.none _)
      | (with_reducible refine LeO.ite ?_ ?_)
      | (with_reducible refine LeO.bind ?_ (fun _ => ?_))
      | exact ih0 _ _ _ _ _ _
      | exact ih1 _ _ _ _
      | exact ih2 _ _ _ _ _ _ _ _ _
      | exact spec_Accepts.mono _ _ _ _ _ _ _
      | exact spec_Find.mono _ _ _ _
      | exact spec_Plain.mono _ _
      | exact spec_Split.mono _ _
      | exact spec_has.mono _ _ _ _ _
      | exact LeO.none _
      | refine LeO.ite ?_ ?_
      | refine LeO.bind ?_ (fun _ => ?_)
    · intro y0 y1 y2 y3 y4 y5 y6 y7 y8
      unfold spec_Open.l0
      repeat' first
      | (with_reducible exact ih0 _ _ _ _ _ _)
      | (with_reducible exact ih1 _ _ _ _)
      | (with_reducible exact ih2 _ _ _ _ _ _ _ _ _)
      | (with_reducible exact spec_Accepts.mono _ _ _ _ _ _ _)
      | (with_reducible exact spec_Find.mono _ _ _ _)
      | (with_reducible exact spec_Plain.mono _ _)
      | (with_reducible exact spec_Split.mono _ _)
      | (with_reducible exact spec_has.mono _ _ _ _ _)
      | (with_reducible exact LeO.refl _)
      | (with_reducible exact LeO.none _)
      | (with_reducible refine LeO.ite ?_ ?_)
      | (with_reducible refine LeO.bind ?_ (fun _ => ?_))
      | exact ih0 _ _ _ _ _ _
      | exact ih1 _ _ _ _
      | exact ih2 _ _ _ _ _ _ _ _ _
      | exact spec_Accepts.mono _ _ _ _ _ _ _
      | exact spec_Find.mono _ _ _ _
      | exact spec_Plain.mono _ _
      | exact spec_Split.mono _ _
      | exact spec_has.mono _ _ _ _ _
      | exact LeO.none _
      | refine LeO.ite ?_ ?_
      | refine LeO.bind ?_ (fun _ => ?_)
theorem spec_Open.mono : ∀ a0 a1 k, LeO (spec_Open.f k a0 a1) (spec_Open.f (k + 1) a0 a1) := by
  intro a0 a1 k
  obtain ⟨ih0, ih1, ih2⟩ := spec_Open.mono_l k
  unfold spec_Open.f
  repeat' first
      | (with_reducible exact ih0 _ _ _ _ _ _)
      | (with_reducible exact ih1 _ _ _ _)
      | (with_reducible exact ih2 _ _ _ _ _ _ _ _ _)
      | (with_reducible exact spec_Accepts.mono _ _ _ _ _ _ _)
      | (with_reducible exact spec_Find.mono _ _ _ _)
      | (with_reducible exact spec_Plain.mono _ _)
      | (with_reducible exact spec_Split.mono _ _)
      | (with_reducible exact spec_has.mono _ _ _ _ _)
      | (with_reducible exact LeO.refl _)
      | (with_reducible exact LeO.none _)
      | (with_reducible refine LeO.ite ?_ ?_)
      | (with_reducible refine LeO.bind ?_ (fun _ => ?_))
      | exact ih0 _ _ _ _ _ _
      | exact ih1 _ _ _ _
      | exact ih2 _ _ _ _ _ _ _ _ _
      | exact spec_Accepts.mono _ _ _ _ _ _ _
      | exact spec_Find.mono _ _ _ _
      | exact spec_Plain.mono _ _
      | exact spec_Split.mono _ _
      | exact spec_has.mono _ _ _ _ _
      | exact LeO.none _
      | refine LeO.ite ?_ ?_
      | refine LeO.bind ?_ (fun _ => ?_)
def laws_keys.l0 : Nat → List (S59) → List (S34) → Int → Int → Option ((List (S59)))
  | 0, _, _, _, _ => none
  | k + 1, x3, x7, x8, x9 => if x9 < x8 then (if 0 ≤ x9 then (if x9 < (x7.length : Int) then (if x3.length < 1954687338268 then (laws_keys.l0 k (x3 ++ [(⟨(rd_T34 x7 x9).f0, (rd_T34 x7 x9).f1, (rd_T34 x7 x9).f2, (rd_T34 x7 x9).f3⟩ : S59)]) x7 x8 (wrap64 (x9 + 1))) else (none)) else (none)) else (none)) else (some x3)
def laws_keys.f (k : Nat) (l0 : List (S34)) : Option ((List (S59))) := laws_keys.l0 k (([] : List (S59))) l0 (l0.length : Int) 0
theorem laws_keys.mono_l : ∀ k, (∀ y0 y1 y2 y3, LeO (laws_keys.l0 k y0 y1 y2 y3) (laws_keys.l0 (k + 1) y0 y1 y2 y3))
  | 0 => fun _ _ _ _ r h => by simp [laws_keys.l0] at h
  | k + 1 => by
    have ih0 := laws_keys.mono_l k
    · intro y0 y1 y2 y3
      unfold laws_keys.l0
      repeat' first
      | (with_reducible exact ih0 _ _ _ _)
      | (with_reducible exact LeO.refl _)
      | (with_reducible exact LeO.none _)
      | (with_reducible refine LeO.ite ?_ ?_)
      | (with_reducible refine LeO.bind ?_ (fun _ => ?_))
      | exact ih0 _ _ _ _
      | exact LeO.none _
      | refine LeO.ite ?_ ?_
      | refine LeO.bind ?_ (fun _ => ?_)
theorem laws_keys.mono : ∀ a0 k, LeO (laws_keys.f k a0) (laws_keys.f (k + 1) a0) := by
  intro a0 k
  have ih0 := laws_keys.mono_l k
  unfold laws_keys.f
  repeat' first
      | (with_reducible exact ih0 _ _ _ _)
      | (with_reducible exact LeO.refl _)
      | (with_reducible exact LeO.none _)
      | (with_reducible refine LeO.ite ?_ ?_)
      | (with_reducible refine LeO.bind ?_ (fun _ => ?_))
      | exact ih0 _ _ _ _
      | exact LeO.none _
      | refine LeO.ite ?_ ?_
      | refine LeO.bind ?_ (fun _ => ?_)
set_option maxHeartbeats 8000000 in
set_option maxRecDepth 100000 in
theorem laws_keys.calls (k : Nat) (P0_ : Nat → Prop) (A0 : Option Addr) (c0 : Nat) (l0 : List (S34)) (r : List (S59)) (w : World) (hs0 : Kd.V k34 34 w w.heap.size (fun k_ => P0_ k_) (.slice A0 l0.length c0) l0) (h : laws_keys.f k l0 = some r) :
    Calls Tryd.prog 9 #[.slice A0 l0.length c0] w fun e w' => ∃ v0_ : Value, e = .returned (v0_) ∧ Kd.N k59 59 w' w.heap.size (fun k_ => (P0_ k_ ∨ w.heap.size ≤ k_)) v0_ r ∧ Below w.heap.size w w' := by
  have hu34 := Tryd.underlying34
  have hu59 := Tryd.underlying59
  have HO0 := Aside0.mk (show Kd.V k34 34 w w.heap.size (fun k_ => (P0_ k_ ∨ w.heap.size ≤ k_)) (.slice A0 l0.length c0) l0 from Kd.V_mono hs0 (fun k_ hk => .inl hk))
  have HB := Aside0.mk (Below.refl w.heap.size w)
  have H : (laws_keys.l0 k (([] : List (S59))) l0 (l0.length : Int) 0) = some r := h
  clear h
  obtain ⟨y224, hy224⟩ : ∃ y_ : List (S59), y_ = (([] : List (S59))) := ⟨_, rfl⟩
  replace H : (laws_keys.l0 k y224 l0 (l0.length : Int) 0) = some r := by first | (rw [hy224]; with_reducible exact H) | (have H2_ := (Option.bind_some _ _).symm.trans H; rw [hy224]; with_reducible exact H2_) | (have H2_ := (Option.bind_some _ _).symm.trans H; with_reducible exact H2_) | with_reducible exact H | (rw [hy224]; exact H) | exact H
  have Ny224 := Aside0.mk hy224
  clear hy224
  have H' := Aside0.mk H
  clear H
  go_enter Tryd.func9, Tryd.ntmps9
  go_wp2_with (first | ((with_reducible refine gate_dst (N := 6) rfl ?_); refine Kd.N_lit k59 _ 59 ?hg (N' := 6) ?hd (xs := ([] : List (S59))) (inner := []) (ok := (fun k_ => (P0_ k_ ∨ w.heap.size ≤ k_))) (okp := (fun k_ => (P0_ k_ ∨ w.heap.size ≤ k_))) ?hr ?hp (fun _ hk => hk) ((show ∀ k_, w.heap.size ≤ k_ → (fun k_ => (P0_ k_ ∨ w.heap.size ≤ k_)) k_ from fun k_ hk => (.inr (Nat.le_trans (below_size (by repeat (first | (with_reducible first | exact HB.out | apply below_alloc | apply pw_below_drewN | apply below_drew1) | exact HB.out))) hk))) _ (Nat.le_refl _)) (Below.refl _ _) (Nat.le_refl _) (by simp) ?_; (case hd => rfl); (case hg => rfl); (case hr => first | (go_simp; done) | (go_simp; rfl)); (case hp => exact (Reps.none _ _)); intro v225 w2 ho3 hb hg_ hnew_; clear hg_ hnew_; (first | rw [← Ny224.out] at ho3 | (simp only [Int.reduceToNat] at ho3; rw [← Ny224.out] at ho3)); have n0_ := Aside0.mk (Kd.V_elder' (by (with_reducible repeat (first | apply Kd.V_alloc | apply Kd.V_drewN | apply Kd.V_drew)); exact HO0.out) (Kd.N_base ho3) hb); have n1_ := Aside0.mk (Kd.N_lower ho3 (below_size (by repeat (first | (with_reducible first | exact HB.out | apply below_alloc | apply pw_below_drewN | apply below_drew1) | exact HB.out)))); have n2_ := Aside0.mk (below_step (by repeat (first | (with_reducible first | exact HB.out | apply below_alloc | apply pw_below_drewN | apply below_drew1) | exact HB.out)) hb); clear HO0; clear HB; have HO0 := n0_; have HO226 := n1_; have HB := n2_; clear n0_ n1_ n2_; clear hb ho3))
  go_loopg [3, 9] k (fun kq v3 v9 w' => ∃ (x3_1 : List (S59)) (x9_1 : Int), v9 = .int .i64 x9_1 ∧ Aside0 (laws_keys.l0 kq x3_1 l0 (l0.length : Int) x9_1 = some r) ∧ Aside0 (kq ≤ k) ∧ Aside0 (Kd.N k59 59 w' w.heap.size (fun k_ => (P0_ k_ ∨ w.heap.size ≤ k_)) v3 x3_1) ∧ Aside0 (Kd.V k34 34 w' w.heap.size (fun k_ => (P0_ k_ ∨ w.heap.size ≤ k_) ∧ some k_ ≠ (v3 : Value).ownBlock) (.slice A0 l0.length c0) l0) ∧ Aside0 (Below w.heap.size w w'))
  case atStart => exact ⟨(y224), (0), (by first | rfl | (simp; done) | (simp [*]; done)), H', ⟨Nat.le_refl _⟩, ⟨by (with_reducible repeat (first | apply Kd.N_alloc | apply Kd.N_drewN | apply Kd.N_drew)); exact HO226.out⟩, ⟨by (with_reducible repeat (first | apply Kd.V_alloc | apply Kd.V_drewN | apply Kd.V_drew)); exact HO0.out⟩, ⟨by repeat (first | (with_reducible first | exact HB.out | apply below_alloc | apply pw_below_drewN | apply below_drew1) | exact HB.out)⟩⟩
  case round =>
    clear H'
    try clear p2
    obtain ⟨x3_1, x9_1, rfl, HA, HK1, HO_3, HO_7, HB⟩ := hrel
    cases gk with
    | zero => exact absurd HA.out (by simp [laws_keys.l0])
    | succ k1 =>
      have H := HA.out
      clear HA
      simp only [laws_keys.l0] at H
      by_cases c4 : x9_1 < (l0.length : Int)
      · rw [if_pos c4] at H
        have c4b0 : decide (x9_1 < (l0.length : Int)) = true := decide_eq_true c4
        clear c4
        by_cases c5 : 0 ≤ x9_1
        · rw [if_pos c5] at H
          have c5b0 : decide (0 ≤ x9_1) = true := decide_eq_true c5
          clear c5
          by_cases c6 : x9_1 < (l0.length : Int)
          · rw [if_pos c6] at H
            have c6b0 : decide (x9_1 < (l0.length : Int)) = true := decide_eq_true c6
            clear c6
            by_cases c7 : x3_1.length < 1954687338268
            · rw [if_pos c7] at H
              have LMc7 := Aside0.mk c7
              clear c7
              obtain ⟨y229, hy229⟩ : ∃ y_ : List (S59), y_ = (x3_1 ++ [(⟨(rd_T34 l0 x9_1).f0, (rd_T34 l0 x9_1).f1, (rd_T34 l0 x9_1).f2, (rd_T34 l0 x9_1).f3⟩ : S59)]) := ⟨_, rfl⟩
              replace H : (laws_keys.l0 k1 y229 l0 (l0.length : Int) (wrap64 (x9_1 + 1))) = some r := by first | (rw [hy229]; with_reducible exact H) | (have H2_ := (Option.bind_some _ _).symm.trans H; rw [hy229]; with_reducible exact H2_) | (have H2_ := (Option.bind_some _ _).symm.trans H; with_reducible exact H2_) | with_reducible exact H | (rw [hy229]; exact H) | exact H
              have Ny229 := Aside0.mk hy229
              clear hy229
              have H' := Aside0.mk H
              clear H
              have p227 : 0 ≤ (x9_1 : Int) := of_decide_eq_true (by first | (with_reducible assumption) | assumption)
              have q227 : x9_1 < (l0.length : Int) := of_decide_eq_true (by first | (with_reducible assumption) | assumption)
              obtain ⟨ad227, A227_2, c227_2, A227_3, c227_3, e227, hx227_0, hx227_1, hx227_2, hx227_3, hl227_2, hi227_2, hl227_3, hi227_3⟩ := at_T34 (Kd.V_reads' HO_7.out).2.2 x9_1 p227 q227
              cases e227
              obtain ⟨ce227, hce227, hMe227, hcc227⟩ := Kd.V_get HO_7.out z34 x9_1 p227 (by first | exact q227 | exact of_decide_eq_true (by first | (with_reducible assumption) | assumption) | (have e_ := (Kd.V_reads' HO_7.out).1; omega))
              obtain ⟨ua227_2, uc227_2, ua227_3, uc227_3, rfl, ul227_2, ge227_2, ul227_3, ge227_3⟩ := k34_openF hMe227
              have hv227_2 := hcc227 2 _ rfl
              rw [add_field _ _ 2 (by omega)] at hv227_2
              replace hv227_2 := Option.some.inj (hv227_2.symm.trans hx227_2)
              injection hv227_2 with hva_ hvn_ hvc_
              rw [hva_] at ge227_2
              rw [hvc_] at ul227_2
              have HL227_2 := Aside0.mk (show Kd.V Kd.string 9 _ w.heap.size _ _ ((rd_T34 l0 x9_1).f2) from Kd.V_mk ul227_2 ge227_2)
              clear hva_ hvn_ hvc_ ge227_2 ul227_2
              have hv227_3 := hcc227 3 _ rfl
              rw [add_field _ _ 3 (by omega)] at hv227_3
              replace hv227_3 := Option.some.inj (hv227_3.symm.trans hx227_3)
              injection hv227_3 with hva_ hvn_ hvc_
              rw [hva_] at ge227_3
              rw [hvc_] at ul227_3
              have HL227_3 := Aside0.mk (show Kd.V Kd.string 9 _ w.heap.size _ _ ((rd_T34 l0 x9_1).f3) from Kd.V_mk ul227_3 ge227_3)
              clear hva_ hvn_ hvc_ ge227_3 ul227_3
              clear hcc227 hce227
              have HR227_2 := Aside0.mk hi227_2
              have HC227_2 := Aside0.mk hl227_2
              clear hi227_2 hl227_2
              have HR227_3 := Aside0.mk hi227_3
              have HC227_3 := Aside0.mk hl227_3
              clear hi227_3 hl227_3
              replace p227 := eq_true p227
              replace q227 := eq_true q227
              go_wp2_with (first | ((with_reducible refine gate_dst (N := 5) rfl ?_); refine box_event ?hg (N := 5) ?hd (cs := #[.string (⟨#[]⟩ : ByteArray), .int .u32 0, .slice none 0 0, .slice none 0 0]) (t := 34) ?hr ?_; (case hd => rfl); (case hg => rfl); (case hr => first | (go_simp; done) | (go_simp; rfl)); intro gb228 hg w8 hbox hb; have n0_ := Aside0.mk (Kd.N_below (Kd.N_elderB (by (with_reducible repeat (first | apply Kd.N_alloc | apply Kd.N_drewN | apply Kd.N_drew)); exact HO_3.out) gb228 (Nat.le_of_eq hg.symm)) hb); have n1_ := Aside0.mk (Kd.V_below (Kd.V_elderB (by (with_reducible repeat (first | apply Kd.V_alloc | apply Kd.V_drewN | apply Kd.V_drew)); exact HO_7.out) gb228 (Nat.le_of_eq hg.symm)) hb); have n2_ := Aside0.mk (Kd.V_below (Kd.V_elderB (by (with_reducible repeat (first | apply Kd.V_alloc | apply Kd.V_drewN | apply Kd.V_drew)); exact HL227_2.out) gb228 (Nat.le_of_eq hg.symm)) hb); have n3_ := Aside0.mk (Kd.V_below (Kd.V_elderB (by (with_reducible repeat (first | apply Kd.V_alloc | apply Kd.V_drewN | apply Kd.V_drew)); exact HL227_3.out) gb228 (Nat.le_of_eq hg.symm)) hb); have n4_ := Aside0.mk (Kd.C_below (by repeat (first | (with_reducible exact HR227_2.out) | (with_reducible refine Kd.C_alloc ?_ _) | (with_reducible refine Kd.C_drewN ?_ _) | (with_reducible refine Kd.C_drew ?_) | exact HR227_2.out)) hb); have n5_ := Aside0.mk (Kd.C_below (by repeat (first | (with_reducible exact HR227_3.out) | (with_reducible refine Kd.C_alloc ?_ _) | (with_reducible refine Kd.C_drewN ?_ _) | (with_reducible refine Kd.C_drew ?_) | exact HR227_3.out)) hb); have n6_ := Aside0.mk (below_step (by repeat (first | (with_reducible first | exact HB.out | apply below_alloc | apply pw_below_drewN | apply below_drew1) | exact HB.out)) hb); have n7_ := Aside0.mk (hbox); have n8_ := Aside0.mk ((by rw [hg]; exact (below_size (by repeat (first | (with_reducible first | exact HB.out | apply below_alloc | apply pw_below_drewN | apply below_drew1) | exact HB.out))) : w.heap.size ≤ gb228)); have n9_ := Aside0.mk ((by rw [hg]; exact (below_size (by repeat (first | (with_reducible first | exact HB.out | apply below_alloc | apply pw_below_drewN | apply below_drew1) | exact HB.out))) : w.heap.size ≤ gb228)); clear HO_3; clear HO_7; clear HL227_2; clear HL227_3; clear HR227_2; clear HR227_3; clear HB; have HO_3 := n0_; have HO_7 := n1_; have HL227_2 := n2_; have HL227_3 := n3_; have HR227_2 := n4_; have HR227_3 := n5_; have HB := n6_; have BK228 := n7_; have GW228 := n8_; have GE228 := n9_; clear n0_ n1_ n2_ n3_ n4_ n5_ n6_ n7_ n8_ n9_; clear hb hbox hg; have hcz9_0 : w8.cell? ⟨gb228, 0, none⟩ = some (.string (⟨#[]⟩ : ByteArray)) := (blk_cell BK228.out 0).trans rfl; have hcz9_1 : w8.cell? ⟨gb228, 1, none⟩ = some (.int .u32 0) := (blk_cell BK228.out 1).trans rfl; have hcz9_2 : w8.cell? ⟨gb228, 2, none⟩ = some (.slice none 0 0) := (blk_cell BK228.out 2).trans rfl; have hcz9_3 : w8.cell? ⟨gb228, 3, none⟩ = some (.slice none 0 0) := (blk_cell BK228.out 3).trans rfl; have hfz9_0 := blk_frozen BK228.out 0; have hfz9_1 := blk_frozen BK228.out 1; have hfz9_2 := blk_frozen BK228.out 2; have hfz9_3 := blk_frozen BK228.out 3) | ((with_reducible refine gate_store (t := 34) (p := 5) rfl ?_); refine store_event (t := 34) (p := 5) (v := ?vo_w10) (w1 := ((((w8.setCell ⟨gb228, 0, none⟩ (.string ((rd_T34 l0 x9_1).f0))).setCell ⟨gb228, 1, none⟩ (.int .u32 ((rd_T34 l0 x9_1).f1))).setCell ⟨gb228, 2, none⟩ (.slice A227_2 ((rd_T34 l0 x9_1).f2).length c227_2)).setCell ⟨gb228, 3, none⟩ (.slice A227_3 ((rd_T34 l0 x9_1).f3).length c227_3))) ?hg ?ho ?hn ?hr ?_; (case ho => rfl); (case hg => rfl); (case hn => rfl); (case hr => first | (go_simp; done) | (go_simp; rfl)); intro w10 hw; have n0_ : Aside0 (Kd.N k59 59 w10 w.heap.size (fun k_ => (P0_ k_ ∨ w.heap.size ≤ k_) ∧ k_ ≠ gb228) u3 x3_1) := ⟨(by rw [hw]; exact (by (with_reducible repeat (first | apply Kd.N_alloc | apply Kd.N_drewN | apply Kd.N_drew)); exact Kd.N_mono (Kd.N_far (p := ⟨gb228, 3, none⟩) (Kd.N_far (p := ⟨gb228, 2, none⟩) (Kd.N_far (p := ⟨gb228, 1, none⟩) (Kd.N_far (p := ⟨gb228, 0, none⟩) (Kd.N_mono HO_3.out (fun k_ hk => (⟨hk, hk.2⟩ : _ ∧ k_ ≠ gb228))) (fun _ hk => hk.2) (.string ((rd_T34 l0 x9_1).f0))) (fun _ hk => hk.2) (.int .u32 ((rd_T34 l0 x9_1).f1))) (fun _ hk => hk.2) (.slice A227_2 ((rd_T34 l0 x9_1).f2).length c227_2)) (fun _ hk => hk.2) (.slice A227_3 ((rd_T34 l0 x9_1).f3).length c227_3)) (fun _ hk => ⟨hk.1.1, hk.1.2⟩)))⟩; have n1_ : Aside0 (Kd.V k34 34 w10 w.heap.size (fun k_ => (P0_ k_ ∨ w.heap.size ≤ k_) ∧ some k_ ≠ (u3 : Value).ownBlock ∧ k_ ≠ gb228) (.slice (some ad227) l0.length c0) l0) := ⟨(by rw [hw]; exact (by (with_reducible repeat (first | apply Kd.V_alloc | apply Kd.V_drewN | apply Kd.V_drew)); exact Kd.V_mono (Kd.V_far (p := ⟨gb228, 3, none⟩) (Kd.V_far (p := ⟨gb228, 2, none⟩) (Kd.V_far (p := ⟨gb228, 1, none⟩) (Kd.V_far (p := ⟨gb228, 0, none⟩) (Kd.V_mono HO_7.out (fun k_ hk => (⟨hk, hk.2⟩ : _ ∧ k_ ≠ gb228))) (fun _ hk => hk.2) (.string ((rd_T34 l0 x9_1).f0))) (fun _ hk => hk.2) (.int .u32 ((rd_T34 l0 x9_1).f1))) (fun _ hk => hk.2) (.slice A227_2 ((rd_T34 l0 x9_1).f2).length c227_2)) (fun _ hk => hk.2) (.slice A227_3 ((rd_T34 l0 x9_1).f3).length c227_3)) (fun _ hk => ⟨hk.1.1.1, ⟨hk.1.1.2, hk.1.2⟩⟩)))⟩; have n2_ : Aside0 (Kd.V Kd.string 9 w10 w.heap.size (fun k_ => (P0_ k_ ∨ w.heap.size ≤ k_) ∧ some k_ ≠ (u3 : Value).ownBlock ∧ k_ ≠ gb228) (.slice A227_2 ((rd_T34 l0 x9_1).f2).length c227_2) ((rd_T34 l0 x9_1).f2)) := ⟨(by rw [hw]; exact (by (with_reducible repeat (first | apply Kd.V_alloc | apply Kd.V_drewN | apply Kd.V_drew)); exact Kd.V_mono (Kd.V_far (p := ⟨gb228, 3, none⟩) (Kd.V_far (p := ⟨gb228, 2, none⟩) (Kd.V_far (p := ⟨gb228, 1, none⟩) (Kd.V_far (p := ⟨gb228, 0, none⟩) (Kd.V_mono HL227_2.out (fun k_ hk => (⟨hk, hk.2⟩ : _ ∧ k_ ≠ gb228))) (fun _ hk => hk.2) (.string ((rd_T34 l0 x9_1).f0))) (fun _ hk => hk.2) (.int .u32 ((rd_T34 l0 x9_1).f1))) (fun _ hk => hk.2) (.slice A227_2 ((rd_T34 l0 x9_1).f2).length c227_2)) (fun _ hk => hk.2) (.slice A227_3 ((rd_T34 l0 x9_1).f3).length c227_3)) (fun _ hk => ⟨hk.1.1.1, ⟨hk.1.1.2, hk.1.2⟩⟩)))⟩; have n3_ : Aside0 (Kd.V Kd.string 9 w10 w.heap.size (fun k_ => (P0_ k_ ∨ w.heap.size ≤ k_) ∧ some k_ ≠ (u3 : Value).ownBlock ∧ k_ ≠ gb228) (.slice A227_3 ((rd_T34 l0 x9_1).f3).length c227_3) ((rd_T34 l0 x9_1).f3)) := ⟨(by rw [hw]; exact (by (with_reducible repeat (first | apply Kd.V_alloc | apply Kd.V_drewN | apply Kd.V_drew)); exact Kd.V_mono (Kd.V_far (p := ⟨gb228, 3, none⟩) (Kd.V_far (p := ⟨gb228, 2, none⟩) (Kd.V_far (p := ⟨gb228, 1, none⟩) (Kd.V_far (p := ⟨gb228, 0, none⟩) (Kd.V_mono HL227_3.out (fun k_ hk => (⟨hk, hk.2⟩ : _ ∧ k_ ≠ gb228))) (fun _ hk => hk.2) (.string ((rd_T34 l0 x9_1).f0))) (fun _ hk => hk.2) (.int .u32 ((rd_T34 l0 x9_1).f1))) (fun _ hk => hk.2) (.slice A227_2 ((rd_T34 l0 x9_1).f2).length c227_2)) (fun _ hk => hk.2) (.slice A227_3 ((rd_T34 l0 x9_1).f3).length c227_3)) (fun _ hk => ⟨hk.1.1.1, ⟨hk.1.1.2, hk.1.2⟩⟩)))⟩; have n4_ : Aside0 (w10.heap[gb228]? = some (.cells #[.string ((rd_T34 l0 x9_1).f0), .int .u32 ((rd_T34 l0 x9_1).f1), .slice A227_2 ((rd_T34 l0 x9_1).f2).length c227_2, .slice A227_3 ((rd_T34 l0 x9_1).f3).length c227_3] 34 (0, 0))) := ⟨(by rw [hw]; exact (by (with_reducible repeat (first | refine blk_drewN ?_ _ | refine blk_drew ?_ | refine blk_alloc ?_ _)); refine blk_put (cs := #[.string ((rd_T34 l0 x9_1).f0), .int .u32 ((rd_T34 l0 x9_1).f1), .slice A227_2 ((rd_T34 l0 x9_1).f2).length c227_2, .slice none 0 0]) ?_ 3 _ rfl; (with_reducible repeat (first | refine blk_drewN ?_ _ | refine blk_drew ?_ | refine blk_alloc ?_ _)); refine blk_put (cs := #[.string ((rd_T34 l0 x9_1).f0), .int .u32 ((rd_T34 l0 x9_1).f1), .slice none 0 0, .slice none 0 0]) ?_ 2 _ rfl; (with_reducible repeat (first | refine blk_drewN ?_ _ | refine blk_drew ?_ | refine blk_alloc ?_ _)); refine blk_put (cs := #[.string ((rd_T34 l0 x9_1).f0), .int .u32 0, .slice none 0 0, .slice none 0 0]) ?_ 1 _ rfl; (with_reducible repeat (first | refine blk_drewN ?_ _ | refine blk_drew ?_ | refine blk_alloc ?_ _)); refine blk_put (cs := #[.string (⟨#[]⟩ : ByteArray), .int .u32 0, .slice none 0 0, .slice none 0 0]) ?_ 0 _ rfl; (with_reducible repeat (first | refine blk_drewN ?_ _ | refine blk_drew ?_ | refine blk_alloc ?_ _)); exact BK228.out))⟩; have n5_ : Aside0 (Below w.heap.size w w10) := ⟨(by rw [hw]; exact (by repeat (first | (with_reducible first | exact HB.out | apply below_alloc | apply pw_below_drewN | apply below_drew1 | refine below_set ?_ GE228.out) | exact HB.out)))⟩; clear hw; clear HO_3; clear HO_7; clear HL227_2; clear HL227_3; clear BK228; clear HB; have HO_3 := n0_; have HO_7 := n1_; have HL227_2 := n2_; have HL227_3 := n3_; have BK228 := n4_; have HB := n5_; clear n0_ n1_ n2_ n3_ n4_ n5_; have hcz11_0 : w10.cell? ⟨gb228, 0, none⟩ = some (.string ((rd_T34 l0 x9_1).f0)) := (blk_cell BK228.out 0).trans rfl; have hcz11_1 : w10.cell? ⟨gb228, 1, none⟩ = some (.int .u32 ((rd_T34 l0 x9_1).f1)) := (blk_cell BK228.out 1).trans rfl; have hcz11_2 : w10.cell? ⟨gb228, 2, none⟩ = some (.slice A227_2 ((rd_T34 l0 x9_1).f2).length c227_2) := (blk_cell BK228.out 2).trans rfl; have hcz11_3 : w10.cell? ⟨gb228, 3, none⟩ = some (.slice A227_3 ((rd_T34 l0 x9_1).f3).length c227_3) := (blk_cell BK228.out 3).trans rfl; have hfz11_0 := blk_frozen BK228.out 0; have hfz11_1 := blk_frozen BK228.out 1; have hfz11_2 := blk_frozen BK228.out 2; have hfz11_3 := blk_frozen BK228.out 3) | ((with_reducible refine gate_builtin (b := .append) (xs := #[.tmp 13, .tmp 23]) rfl ?_); at_builtin; refine Kd.N_append k59 (w0 := w) w.heap.size rfl (.tmp 13) (.tmp 23) 30 59 (.agg #[(.string ⟨#[]⟩), (.int .u32 0), (.slice none 0 0), (.slice none 0 0)]) 72 rfl Tryd.underlying30 info59 rfl (by decide) (by omega) u3 x3_1 (⟨(rd_T34 l0 x9_1).f0, (rd_T34 l0 x9_1).f1, (rd_T34 l0 x9_1).f2, (rd_T34 l0 x9_1).f3⟩ : S59) [.string ((rd_T34 l0 x9_1).f0), .int .u32 ((rd_T34 l0 x9_1).f1), .slice A227_2 ((rd_T34 l0 x9_1).f2).length c227_2, .slice A227_3 ((rd_T34 l0 x9_1).f3).length c227_3] (fun k_ => (P0_ k_ ∨ w.heap.size ≤ k_) ∧ k_ ≠ gb228) (fun k_ => ((fun k_ => (P0_ k_ ∨ w.heap.size ≤ k_) ∧ k_ ≠ gb228)) k_ ∧ some k_ ≠ (u3 : Value).ownBlock) rfl rfl ?aP (fun _ hk => hk) ?aF ?aO ?aB ?aS ?aL ?_; (case aP => exact (k59_mkF _ _ (⟨(rd_T34 l0 x9_1).f0, (rd_T34 l0 x9_1).f1, (rd_T34 l0 x9_1).f2, (rd_T34 l0 x9_1).f3⟩ : S59) (Kd.V_reads' (Kd.V_mono (ok' := (fun k_ => ((fun k_ => (P0_ k_ ∨ w.heap.size ≤ k_) ∧ k_ ≠ gb228)) k_ ∧ some k_ ≠ (u3 : Value).ownBlock)) (HL227_2.out) (fun k_ hk => ⟨⟨hk.1, hk.2.2⟩, hk.2.1⟩))).2.1 (Kd.V_F (Kd.V_mono (ok' := (fun k_ => ((fun k_ => (P0_ k_ ∨ w.heap.size ≤ k_) ∧ k_ ≠ gb228)) k_ ∧ some k_ ≠ (u3 : Value).ownBlock)) (HL227_2.out) (fun k_ hk => ⟨⟨hk.1, hk.2.2⟩, hk.2.1⟩))) (Kd.V_reads' (Kd.V_mono (ok' := (fun k_ => ((fun k_ => (P0_ k_ ∨ w.heap.size ≤ k_) ∧ k_ ≠ gb228)) k_ ∧ some k_ ≠ (u3 : Value).ownBlock)) (HL227_3.out) (fun k_ hk => ⟨⟨hk.1, hk.2.2⟩, hk.2.1⟩))).2.1 (Kd.V_F (Kd.V_mono (ok' := (fun k_ => ((fun k_ => (P0_ k_ ∨ w.heap.size ≤ k_) ∧ k_ ≠ gb228)) k_ ∧ some k_ ≠ (u3 : Value).ownBlock)) (HL227_3.out) (fun k_ hk => ⟨⟨hk.1, hk.2.2⟩, hk.2.1⟩))))); (case aB => exact (by repeat (first | (with_reducible first | exact HB.out | apply below_alloc | apply pw_below_drewN | apply below_drew1 | refine below_set ?_ GE228.out) | exact HB.out))); (case aF => exact (fun k_ hk => ⟨(.inr (Nat.le_trans (below_size (by repeat (first | (with_reducible first | exact HB.out | apply below_alloc | apply pw_below_drewN | apply below_drew1 | refine below_set ?_ GE228.out) | exact HB.out))) hk)), Kd.freshB (g := gb228) (o := .cells #[.string ((rd_T34 l0 x9_1).f0), .int .u32 ((rd_T34 l0 x9_1).f1), .slice A227_2 ((rd_T34 l0 x9_1).f2).length c227_2, .slice A227_3 ((rd_T34 l0 x9_1).f3).length c227_3] 34 (0, 0)) (by (with_reducible repeat (first | refine blk_drewN ?_ _ | refine blk_drew ?_ | refine blk_alloc ?_ _)); exact BK228.out) k_ hk⟩)); (case aO => exact (by (with_reducible repeat (first | apply Kd.N_alloc | apply Kd.N_drewN | apply Kd.N_drew)); exact HO_3.out)); (case aS => exact (below_size (by repeat (first | (with_reducible first | exact HB.out | apply below_alloc | apply pw_below_drewN | apply below_drew1 | refine below_set ?_ GE228.out) | exact HB.out)))); (case aL => have := LMc7.out; omega); intro v230 w12 ho hb hg hat; rw [← Ny229.out] at ho; have n0_ := Aside0.mk (Kd.V_afterv (ok := (fun k_ => (P0_ k_ ∨ w.heap.size ≤ k_) ∧ k_ ≠ gb228)) (by (with_reducible repeat (first | apply Kd.V_alloc | apply Kd.V_drewN | apply Kd.V_drew)); exact Kd.V_mono HO_7.out (fun _ hk => ⟨⟨hk.1, hk.2.2⟩, hk.2.1⟩)) hg hat); have n1_ := Aside0.mk (Kd.V_afterv (ok := (fun k_ => (P0_ k_ ∨ w.heap.size ≤ k_) ∧ k_ ≠ gb228)) (by (with_reducible repeat (first | apply Kd.V_alloc | apply Kd.V_drewN | apply Kd.V_drew)); exact Kd.V_mono HL227_2.out (fun _ hk => ⟨⟨hk.1, hk.2.2⟩, hk.2.1⟩)) hg hat); have n2_ := Aside0.mk (Kd.V_afterv (ok := (fun k_ => (P0_ k_ ∨ w.heap.size ≤ k_) ∧ k_ ≠ gb228)) (by (with_reducible repeat (first | apply Kd.V_alloc | apply Kd.V_drewN | apply Kd.V_drew)); exact Kd.V_mono HL227_3.out (fun _ hk => ⟨⟨hk.1, hk.2.2⟩, hk.2.1⟩)) hg hat); have n3_ := Aside0.mk (blk_grown (g := gb228) (o := .cells #[.string ((rd_T34 l0 x9_1).f0), .int .u32 ((rd_T34 l0 x9_1).f1), .slice A227_2 ((rd_T34 l0 x9_1).f2).length c227_2, .slice A227_3 ((rd_T34 l0 x9_1).f3).length c227_3] 34 (0, 0)) (by (with_reducible repeat (first | refine blk_drewN ?_ _ | refine blk_drew ?_ | refine blk_alloc ?_ _)); exact BK228.out) hg (Kd.N_ne HO_3.out BK228.out (by decide))); have n4_ := Aside0.mk (hb); have n5_ := Aside0.mk (ho); clear HO_7; clear HL227_2; clear HL227_3; clear BK228; clear HB; clear HO_3; have HO_7 := n0_; have HL227_2 := n1_; have HL227_3 := n2_; have BK228 := n3_; have HB := n4_; have HO231 := n5_; clear n0_ n1_ n2_ n3_ n4_ n5_; clear ho hb hg hat))
              go_roundg k1
              case measure => have := HK1.out; omega
              case rel => exact ⟨(y229), (wrap64 (x9_1 + 1)), (by first | rfl | (simp; done) | (simp [*]; done)), H', ⟨by have := HK1.out; omega⟩, ⟨by (with_reducible repeat (first | apply Kd.N_alloc | apply Kd.N_drewN | apply Kd.N_drew)); exact Kd.N_mono HO231.out (fun _ hk => hk.1)⟩, ⟨by (with_reducible repeat (first | apply Kd.V_alloc | apply Kd.V_drewN | apply Kd.V_drew)); exact Kd.V_mono HO_7.out (fun _ hk => ⟨hk.1.1, hk.2⟩)⟩, ⟨by repeat (first | (with_reducible first | exact HB.out | apply below_alloc | apply pw_below_drewN | apply below_drew1 | refine below_set ?_ GE228.out) | exact HB.out)⟩⟩
            · rw [if_neg c7] at H
              exact absurd H (by simp)
          · rw [if_neg c6] at H
            exact absurd H (by simp)
        · rw [if_neg c5] at H
          exact absurd H (by simp)
      · rw [if_neg c4] at H
        have c4b0 : decide (x9_1 < (l0.length : Int)) = false := decide_eq_false c4
        clear c4
        obtain rfl := Option.some.inj H
        go_wp2
        go_ret
        exact ⟨_, by first | rfl | (simp [errW_none, errW_some] <;> rfl) | (simp [*, errW_none, errW_some] <;> rfl), by (with_reducible repeat (first | apply Kd.N_alloc | apply Kd.N_drewN | apply Kd.N_drew)); exact HO_3.out, by repeat (first | (with_reducible first | exact HB.out | apply below_alloc | apply pw_below_drewN | apply below_drew1) | exact HB.out)⟩
end Go.Proofs.YtkbegfihdpiacaaDoor.PX

namespace Go.Proofs.YtkbegfihdpiacaaDoor.PX
open Go.RowKit Nt Go.Lib Go.Maps Go.Proofs.YtkbegfihdpiacaaDoorW.PrintWords Go.Proofs.YtkbegfihdpiacaaDoorW.PrintLast
set_option linter.unusedVariables false
set_option linter.unusedSimpArgs false
def key59 (x : S34) : S59 := ⟨x.f0, x.f1, x.f2, x.f3⟩
def sig37 (x : S118) : S37 := ⟨x.f0, x.f1, x.f2⟩
theorem w1 (i : Nat) (h : i ≤ 9000000000) : wrap64 ((i : Int) + 1) = ((i + 1 : Nat) : Int) := (IntWalk.wrap64_in _ (by omega)).trans (by omega)
theorem tl_eq (a b : ByteArray) : a.toList = b.toList ↔ a = b := by
  rw [ByteArray.toList_eq, ByteArray.toList_eq]
  constructor
  · intro h; cases a; cases b; simpa using h
  · rintro rfl; rfl
theorem rd59 (ks : List S34) (i : Nat) (h : i < ks.length) : rd_T59 (ks.map key59) (i : Int) = key59 ks[i] := by
  unfold rd_T59; simp [List.getElem?_eq_getElem h]
def findI (nm : ByteArray) (h : Int) : List S34 → Nat → Int
  | [], _ => -1
  | x :: l, i => if x.f0 = nm ∧ x.f1 = h then (i : Int) else findI nm h l (i + 1)
theorem find_l0 (ks : List S34) (hk : ks.length ≤ 3000000000) (nm : ByteArray) (h : Int) : ∀ (k i : Nat), i ≤ ks.length → ks.length - i < k → spec_Find.l0 k nm h (ks.map key59) (ks.length : Int) (i : Int) = some (findI nm h (ks.drop i) i)
  | 0, i, _, hf => by omega
  | k + 1, i, hi, hf => by
    unfold spec_Find.l0
    by_cases hlt : i < ks.length
    · rw [if_pos (by omega), if_pos (by omega), if_pos (by rw [List.length_map]; omega), rd59 ks i hlt, w1 i (by omega), find_l0 ks hk nm h k (i + 1) (by omega) (by omega), List.drop_eq_getElem_cons hlt]
      rw [findI]
      show (if ks[i].f0.toList = nm.toList then (if ks[i].f1 = h then some (i : Int) else _) else _) = _
      by_cases h1 : ks[i].f0 = nm
      · rw [if_pos ((tl_eq _ _).2 h1)]
        by_cases h2 : ks[i].f1 = h
        · rw [if_pos h2, if_pos ⟨h1, h2⟩]
        · rw [if_neg h2, if_neg (fun e => h2 e.2)]
      · rw [if_neg (fun e => h1 ((tl_eq _ _).1 e)), if_neg (fun e => h1 e.1)]
    · rw [if_neg (by omega), List.drop_eq_nil_of_le (by omega)]
      rfl
theorem find_f (ks : List S34) (hk : ks.length ≤ 3000000000) (nm : ByteArray) (h : Int) (k : Nat) (hf : ks.length < k) : spec_Find.f k (ks.map key59) nm h = some (findI nm h ks 0) := by
  have := find_l0 ks hk nm h k 0 (Nat.zero_le _) (by omega)
  unfold spec_Find.f
  rw [List.length_map]
  exact this
/-- The place found. -/
theorem findI_spec (nm : ByteArray) (h : Int) : ∀ (l : List S34) (i : Nat), (findI nm h l i = -1 ∧ findS l nm h = none) ∨ (∃ j x, findI nm h l i = ((i + j : Nat) : Int) ∧ l[j]? = some x ∧ findS l nm h = some x)
  | [], i => .inl ⟨rfl, rfl⟩
  | x :: l, i => by
    unfold findI findS
    by_cases hx : x.f0 = nm ∧ x.f1 = h
    · rw [if_pos hx]
      exact .inr ⟨0, x, rfl, rfl, List.find?_cons_of_pos (by simp [hx.1, hx.2])⟩
    · rw [if_neg hx, List.find?_cons_of_neg (by simpa using hx)]
      rcases findI_spec nm h l (i + 1) with ⟨h1, h2⟩ | ⟨j, y, h1, h2, h3⟩
      · exact .inl ⟨h1, h2⟩
      · exact .inr ⟨j + 1, y, by rw [h1]; omega, by simpa using h2, h3⟩
theorem rd37 (l : List S37) (i : Nat) (h : i < l.length) : rd_T37 l (i : Int) = l[i] := by
  unfold rd_T37; simp [List.getElem?_eq_getElem h]
def hasB (l : List S37) (a : ByteArray) (b : Int) (c : ByteArray) : Bool := l.any fun x => x.f0.toList == a.toList && (x.f1 == b && (x.f2.toList == c.toList))
theorem hasB_iff (l : List S37) (a : ByteArray) (b : Int) (c : ByteArray) : hasB l a b c = true ↔ (⟨a, b, c⟩ : S37) ∈ l := by
  unfold hasB
  rw [List.any_eq_true]
  constructor
  · rintro ⟨x, hx, h⟩
    simp only [Bool.and_eq_true, beq_iff_eq, tl_eq] at h
    obtain ⟨rfl, rfl, rfl⟩ := h
    exact hx
  · intro h
    exact ⟨_, h, by simp⟩
theorem has_l0 (l : List S37) (hk : l.length ≤ 2147483647) (a : ByteArray) (b : Int) (c : ByteArray) : ∀ (k i : Nat), i ≤ l.length → l.length - i < k → spec_has.l0 k l (l.length : Int) (i : Int) a b c = some (hasB (l.drop i) a b c)
  | 0, i, _, hf => by omega
  | k + 1, i, hi, hf => by
    unfold spec_has.l0
    by_cases hlt : i < l.length
    · rw [if_pos (by omega), if_pos (by omega), if_pos (by omega), rd37 l i hlt, w1 i (by omega), has_l0 l hk a b c k (i + 1) (by omega) (by omega), List.drop_eq_getElem_cons hlt]
      unfold hasB
      rw [List.any_cons]
      cases hb : (l[i].f0.toList == a.toList && (l[i].f1 == b && (l[i].f2.toList == c.toList))) <;> simp
    · rw [if_neg (by omega), List.drop_eq_nil_of_le (by omega)]
      rfl
theorem has_f (l : List S37) (hk : l.length ≤ 2147483647) (a : ByteArray) (b : Int) (c : ByteArray) (k : Nat) (hf : l.length < k) : spec_has.f k l a b c = some (hasB l a b c) :=
  has_l0 l hk a b c k 0 (Nat.zero_le _) (by omega)
theorem rdB (l : List ByteArray) (i : Nat) (h : i < l.length) : rdOf ByteArray.empty l (i : Int) = l[i] := by
  unfold rdOf; simp [List.getElem?_eq_getElem h]
theorem acc_l0 (ts ss : List ByteArray) (hk : ts.length ≤ 2147483647) (m g : ByteArray) (a0 : ByteArray) (a1 : Int) (a2 : List ByteArray) : ∀ (k i : Nat), i ≤ ts.length → ts.length - i < k → spec_Accepts.l0 k m g ts (ts.length : Int) (i : Int) a0 a1 a2 ss = some (accS (ts.drop i) (ss.drop i) m g)
  | 0, i, _, hf => by omega
  | k + 1, i, hi, hf => by
    unfold spec_Accepts.l0
    by_cases hlt : i < ts.length
    · have hd := accS_drop ts ss m g i (List.getElem?_eq_getElem hlt)
      rw [if_pos (by omega), if_pos (by omega), if_pos (by omega), w1 i (by omega), acc_l0 ts ss hk m g a0 a1 a2 k (i + 1) (by omega) (by omega), rdB ts i hlt, hd]
      by_cases h2 : i < ss.length
      · rw [if_pos (by omega), rdB ss i h2, List.getElem?_eq_getElem h2]
        by_cases e1 : ts[i].toList = m.toList
        · by_cases e2 : ss[i].toList = g.toList
          · simp [e1, e2]
          · simp [e1, e2]
        · simp [e1]
      · rw [if_neg (by omega), List.getElem?_eq_none (by omega)]
        have : ss.drop (i + 1) = [] := List.drop_eq_nil_of_le (by omega)
        rw [this]
        cases ts.drop (i + 1) <;> rfl
    · rw [if_neg (by omega), List.drop_eq_nil_of_le (by omega : ts.length ≤ i)]
      rfl
theorem acc_f (x : S34) (hk : x.f2.length ≤ 2147483647) (m g : ByteArray) (k : Nat) (hf : x.f2.length < k) : spec_Accepts.f k x.f0 x.f1 x.f2 x.f3 m g = some (accS x.f2 x.f3 m g) :=
  acc_l0 x.f2 x.f3 hk m g _ _ _ k 0 (Nat.zero_le _) (by omega)
theorem bt_S (l : List UInt8) (i : Nat) : bt (S l) (i : Int) = bI l i := by
  unfold bt bI
  by_cases h : i < l.length
  · have h' : (i : Int).toNat < (S l).size := by rw [S_sz]; omega
    rw [dif_pos h']
    simp [S, List.getElem?_eq_getElem h]
    rfl
  · rw [dif_neg (by rw [S_sz]; omega)]
    simp [List.getElem?_eq_none (by omega : l.length ≤ i)]
theorem plain_l0 (l : List UInt8) (hl : l.length ≤ 2147483647) : ∀ (k i : Nat), i ≤ l.length → l.length - i < k → spec_Plain.l0 k (S l) (l.length : Int) (i : Int) = some (lowD (l.drop i) && validD l)
  | 0, i, _, hf => by omega
  | k + 1, i, hi, hf => by
    unfold spec_Plain.l0
    by_cases hlt : i < l.length
    · rw [if_pos (by omega), if_pos (by omega), if_pos (by rw [S_sz]; omega), w1 i (by omega), plain_l0 l hl k (i + 1) (by omega) (by omega), bt_S, List.drop_eq_getElem_cons hlt]
      have hb : bI l i = (l[i].toNat : Int) := by unfold bI; simp [List.getElem?_eq_getElem hlt]
      rw [hb]
      unfold lowD
      rw [List.all_cons]
      by_cases h1 : l[i].toNat < 32
      · rw [if_pos (by omega)]
        by_cases h2 : l[i].toNat = 10
        · rw [if_pos (by omega), h2]; rfl
        · rw [if_neg (by omega), decide_eq_false (by omega), beq_eq_false_iff_ne.2 h2]; rfl
      · rw [if_neg (by omega), decide_eq_true (by omega)]; rfl
    · rw [if_neg (by omega), List.drop_eq_nil_of_le (by omega)]
      unfold spec_Utf.f
      rw [if_pos (by rw [S_sz]; exact hl)]
      rfl
theorem plain_f (l : List UInt8) (hl : l.length ≤ 2147483647) (k : Nat) (hf : l.length < k) : spec_Plain.f k (S l) = some (plainD l) := by
  unfold spec_Plain.f
  rw [S_sz]
  exact plain_l0 l hl k 0 (Nat.zero_le _) (by omega)
def linesG (cur : List UInt8) : List UInt8 → List (List UInt8)
  | [] => []
  | b :: l => if b = 10 then cur :: linesG [] l else linesG (cur ++ [b]) l
theorem endsNl_tail {b : UInt8} {l : List UInt8} (h : endsNl (b :: l)) : endsNl l := by
  have := endsNl_drop (b :: l) 1 h
  simpa using this
theorem linesG_eq : ∀ (l : List UInt8) (cur : List UInt8), endsNl l → linesG cur l = if l = [] then [] else (cur ++ l.take (nl l)) :: linesD (l.drop (nl l + 1))
  | [], cur, _ => rfl
  | b :: l, cur, h => by
    rw [linesG, if_neg (List.cons_ne_nil _ _)]
    have ht := endsNl_tail h
    by_cases hb : b = 10
    · rw [if_pos hb, linesG_eq l [] ht]
      have hn : nl (b :: l) = 0 := by unfold nl; rw [if_pos hb]
      rw [hn]
      by_cases hl : l = []
      · subst hl; simp [linesD_nil]
      · rw [if_neg hl]
        simp only [List.take_zero, List.append_nil, List.nil_append, Nat.zero_add, List.drop_succ_cons, List.drop_zero]
        rw [linesD_cons l hl]
    · rw [if_neg hb, linesG_eq l (cur ++ [b]) ht]
      have hn : nl (b :: l) = nl l + 1 := by rw [nl, if_neg hb]
      rw [hn]
      by_cases hl : l = []
      · subst hl
        rcases h with h | h
        · cases h
        · simp at h; exact absurd h hb
      · rw [if_neg hl]
        simp
theorem linesG_nil (l : List UInt8) (h : endsNl l) : linesG [] l = linesD l := by
  rw [linesG_eq l [] h]
  by_cases hl : l = []
  · subst hl; rfl
  · rw [if_neg hl, linesD_cons l hl]; rfl
theorem split_l1 (l : List UInt8) (hl : l.length ≤ 2147483647) (n : Nat) (hn : n + 1 ≤ l.length) : ∀ (k f i : Nat) (acc : List ByteArray), f ≤ i → i ≤ l.length → acc.length ≤ i → l.length - i < k →
    spec_Split.l1 k (S l) (n : Int) acc (f : Int) (i : Int) = some (S (l.take (n + 1)), acc ++ (linesG ((l.drop f).take (i - f)) (l.drop i)).map S, true)
  | 0, f, i, acc, _, _, _, hf => by omega
  | k + 1, f, i, acc, hfi, hi, ha, hf => by
    unfold spec_Split.l1
    by_cases hlt : i < l.length
    · have hb : bI l i = (l[i].toNat : Int) := by unfold bI; simp [List.getElem?_eq_getElem hlt]
      rw [if_pos (by rw [S_sz]; omega), if_pos (by omega), w1 i (by omega), bt_S, hb, List.drop_eq_getElem_cons hlt]
      rw [linesG]
      by_cases h10 : l[i] = 10
      · have : (l[i].toNat : Int) = 10 := by rw [h10]; rfl
        rw [if_pos this, if_pos (by omega), if_pos (by omega), if_pos (by rw [S_sz]; omega), if_pos (by omega), if_pos h10, split_l1 l hl n hn k (i + 1) (i + 1) _ (Nat.le_refl _) (by omega) (by simp; omega) (by omega)]
        have he : (S l).extract (f : Int).toNat (i : Int).toNat = S ((l.drop f).take (i - f)) := by
          rw [Int.toNat_natCast, Int.toNat_natCast, ← S_data ((S l).extract f i), S_extract]; rfl
        rw [he, Nat.sub_self, List.take_zero, List.map_cons, List.append_assoc]
        rfl
      · have : ¬ (l[i].toNat : Int) = 10 := by
          intro e; exact h10 (UInt8.toNat_inj.1 (by have : (10 : UInt8).toNat = 10 := rfl; omega))
        rw [if_neg this, if_neg h10, split_l1 l hl n hn k f (i + 1) acc (by omega) (by omega) (by omega) (by omega)]
        have ht : (l.drop f).take (i + 1 - f) = (l.drop f).take (i - f) ++ [l[i]] := by
          rw [show i + 1 - f = (i - f) + 1 by omega, List.take_add_one, List.getElem?_drop, show f + (i - f) = i by omega, List.getElem?_eq_getElem hlt]; rfl
        rw [ht]
    · rw [if_neg (by rw [S_sz]; omega), w1 n (by omega), if_pos (by omega), if_pos (by rw [S_sz]; omega), List.drop_eq_nil_of_le (by omega : l.length ≤ i)]
      have he : (S l).extract 0 ((n + 1 : Nat) : Int).toNat = S (l.take (n + 1)) := by
        rw [Int.toNat_natCast, ← S_data ((S l).extract 0 (n + 1)), S_extract, List.drop_zero]; rfl
      rw [he]
      simp [linesG]
def splitD (l : List UInt8) : ByteArray × List ByteArray × Bool :=
  match lastN l l.length with
  | none => (S [], [], false)
  | some i => if l.drop (i + 2) = [] then (S [], [], false) else if l[l.length - 1]? = some 10 then (S (l.take (i + 1)), (linesD (l.drop (i + 2))).map S, true) else (S [], [], false)
theorem split_end (l : List UInt8) (hl : l.length ≤ 2147483647) (k : Nat) (hk : l.length + 2 < k) (i : Nat) (hi : lastN l l.length = some i) :
    (if (wrap64 ((i : Int) + 2)) ≥ ((S l).size : Int) then (spec_Split.j1 k (S l) (i : Int) true) else (if 0 ≤ (wrap64 (((S l).size : Int) - 1)) then (if (wrap64 (((S l).size : Int) - 1)) < ((S l).size : Int) then (spec_Split.j1 k (S l) (i : Int) ((bt (S l) (wrap64 (((S l).size : Int) - 1))) != 10)) else (none)) else (none))) = some (splitD l) := by
  have hlt := lastN_lt l _ _ hi
  obtain ⟨k, rfl⟩ : ∃ m, k = m + 1 := ⟨k - 1, by omega⟩
  have e2 : wrap64 ((i : Int) + 2) = ((i + 2 : Nat) : Int) := (IntWalk.wrap64_in _ (by omega)).trans (by omega)
  unfold splitD
  rw [hi, e2, S_sz]
  simp only
  by_cases hd : l.drop (i + 2) = []
  · have := List.drop_eq_nil_iff.1 hd
    rw [if_pos (by omega), if_pos hd]
    rfl
  · have hlen : i + 2 < l.length := by
      rcases Nat.lt_or_ge (i + 2) l.length with h | h
      · exact h
      · exact absurd (List.drop_eq_nil_of_le h) hd
    have e3 : wrap64 ((l.length : Int) - 1) = ((l.length - 1 : Nat) : Int) := (IntWalk.wrap64_in _ (by omega)).trans (by omega)
    rw [if_neg (by omega), if_neg hd, e3, if_pos (by omega), if_pos (by omega), bt_S]
    have hx : l[l.length - 1]? = some l[l.length - 1] := List.getElem?_eq_getElem (by omega)
    have hb : bI l (l.length - 1) = (l[l.length - 1].toNat : Int) := by unfold bI; simp [hx]
    rw [hb, hx]
    by_cases h10 : l[l.length - 1] = 10
    · have : ((l[l.length - 1].toNat : Int) != 10) = false := by rw [h10]; rfl
      rw [if_pos (by rw [h10]), this]
      show spec_Split.l1 k (S l) (i : Int) [] (wrap64 ((i : Int) + 2)) (wrap64 ((i : Int) + 2)) = _
      rw [e2, split_l1 l hl i (by omega) k (i + 2) (i + 2) [] (Nat.le_refl _) (by omega) (by simp) (by omega), Nat.sub_self, List.take_zero, List.nil_append]
      rw [linesG_nil _ (endsNl_drop l (i + 2) (.inr (by rw [hx, h10])))]
    · have : ((l[l.length - 1].toNat : Int) != 10) = true := by
        rw [bne_iff_ne]; intro e; exact h10 (UInt8.toNat_inj.1 (by have : (10 : UInt8).toNat = 10 := rfl; omega))
      rw [if_neg (fun e => h10 (Option.some.inj e)), this]
      rfl
theorem split_l0 (l : List UInt8) (hl : l.length ≤ 2147483647) : ∀ (k i : Nat), i ≤ l.length - 1 → (l.length - i) + l.length + 4 < k → spec_Split.l0 k (S l) (idxI (lastN l i)) (wrap64 (((S l).size : Int) - 1)) (i : Int) = some (splitD l)
  | 0, i, _, hf => by omega
  | k + 1, i, hi, hf => by
    have e3 : wrap64 (((S l).size : Int) - 1) = (l.length : Int) - 1 := by rw [S_sz]; exact IntWalk.wrap64_in _ (by omega)
    unfold spec_Split.l0
    by_cases hlt : i + 1 < l.length
    · have ih := split_l0 l hl k (i + 1) (by omega) (by omega)
      rw [e3] at ih ⊢
      rw [if_pos (by omega), if_pos (by omega), if_pos (by rw [S_sz]; omega), w1 i (by omega), bt_S, bt_S]
      have hnn := nnAt_iff l i hlt
      have hln : lastN l (i + 1) = if nnAt l i = true then some i else lastN l i := rfl
      rw [hln] at ih
      by_cases h1 : bI l i = 10
      · rw [if_pos h1, if_pos (by omega), if_pos (by rw [S_sz]; omega)]
        by_cases h2 : bI l (i + 1) = 10
        · rw [if_pos h2]
          rw [if_pos (hnn.2 ⟨h1, h2⟩)] at ih
          exact ih
        · rw [if_neg h2]
          rw [if_neg (fun e => h2 (hnn.1 e).2)] at ih
          exact ih
      · rw [if_neg h1]
        rw [if_neg (fun e => h1 (hnn.1 e).1)] at ih
        exact ih
    · have hie : i = l.length - 1 := by omega
      rw [e3, if_neg (by omega)]
      rw [hie, ← lastN_end l]
      cases hlast : lastN l l.length with
      | none =>
        rw [show idxI none = -1 from rfl, if_pos (by decide)]
        obtain ⟨k, rfl⟩ : ∃ m, k = m + 1 := ⟨k - 1, by omega⟩
        unfold splitD
        rw [hlast]
        rfl
      | some j =>
        rw [show idxI (some j) = (j : Int) from rfl, if_neg (by omega)]
        have := split_end l hl k (by omega) j hlast
        rw [e3] at this
        exact this
theorem split_f (l : List UInt8) (hl : l.length ≤ 2147483647) (k : Nat) (hf : l.length + l.length + 4 < k) : spec_Split.f k (S l) = some (splitD l) := by
  unfold spec_Split.f
  exact split_l0 l hl k 0 (Nat.zero_le _) (by omega)
end Go.Proofs.YtkbegfihdpiacaaDoor.PX

namespace Go.Proofs.YtkbegfihdpiacaaDoor.PX
open Go.RowKit Nt Go.Lib Go.Maps Go.Proofs.YtkbegfihdpiacaaDoorW.PrintWords Go.Proofs.YtkbegfihdpiacaaDoorW.PrintLast
set_option linter.unusedVariables false
set_option linter.unusedSimpArgs false
/-- What Open tells. -/
def outM (t : ByteArray) : ORes → ByteArray × List S75 × List S75 × Int
  | .bad => (⟨#[]⟩, [], [], 1)
  | .inv nm h => (⟨#[]⟩, [⟨nm, h, ⟨#[]⟩⟩], [], 2)
  | .ok [] u => (t, [], u.map sig75, 3)
  | .ok (x :: s) u => (t, (x :: s).map sig75, u.map sig75, 0)
theorem asInv (p : Option Addr) (w : World) : (Instr.typeAssert (.iface 72 (.pointer p)) 62 72 true).run Tryd.prog w = .ok (.tuple #[.pointer p, .bool true]) w := by kernel_rfl
theorem asInvE (p : Option Addr) (w : World) : (Instr.typeAssert (.iface 195 (.pointer p)) 62 72 true).run Tryd.prog w = .ok (.tuple #[.pointer none, .bool false]) w := by kernel_rfl
theorem asInvU (p : Option Addr) (w : World) : (Instr.typeAssert (.iface 76 (.pointer p)) 62 72 true).run Tryd.prog w = .ok (.tuple #[.pointer none, .bool false]) w := by kernel_rfl
theorem asUnvU (p : Option Addr) (w : World) : (Instr.typeAssert (.iface 76 (.pointer p)) 62 76 true).run Tryd.prog w = .ok (.tuple #[.pointer p, .bool true]) w := by kernel_rfl
theorem asUnvE (p : Option Addr) (w : World) : (Instr.typeAssert (.iface 195 (.pointer p)) 62 76 true).run Tryd.prog w = .ok (.tuple #[.pointer none, .bool false]) w := by kernel_rfl
theorem Utf8Tabs.below' {g3 g4 : Nat} {w W : World} (h : Utf8Tabs g3 g4 w) (hb : Below w.heap.size w W) : Utf8Tabs g3 g4 W :=
  ⟨fun c hc => pw_cell_below hb (h.1 c hc), fun i hi => ⟨pw_cell_below hb (h.2 i hi).1, pw_cell_below hb (h.2 i hi).2⟩⟩
theorem WhiteTab.below' {g6 : Nat} {w W : World} (h : WhiteTab g6 w) (hb : Below w.heap.size w W) : WhiteTab g6 W := by
  obtain ⟨T, oT, R, oR, h1, h2, h3, h4, h5⟩ := h
  exact ⟨T, oT, R, oR, pw_cell_below hb h1, pw_cell_below hb h2, pw_cell_below hb h3, pw_cell_below hb h4, fun i hi => pw_cell_below hb (h5 i hi)⟩
theorem bytes_rb (W : World) (l : List UInt8) (hl : l.length ≤ 2147483647) : RB (Lib.bytesWorld W 5 (S l)) (some ⟨W.heap.size, 0, none⟩) l := by
  have h := bytes_reads W 5 (S l) (by rw [S_sz]; omega)
  have e : Go.Proofs.YtkbegfihdpiacaaDoorW.PrintWords.bytesOf (S l) = ints l := by unfold Go.Proofs.YtkbegfihdpiacaaDoorW.PrintWords.bytesOf ints S; simp
  rw [e, S_sz] at h
  exact h
def IOPost (w : World) (o : ByteArray × List S75 × List S75 × Int) (e : Ending) (w' : World) : Prop :=
  ∃ v1 v2, e = .returned (.tuple #[.agg #[.string o.1, v1, v2], .int .i64 o.2.2.2]) ∧ Kd.R k75 75 w' w.heap.size (fun _ => True) v1 o.2.1 ∧ Kd.R k75 75 w' w.heap.size (fun _ => True) v2 o.2.2.1 ∧ Below w.heap.size w w'
theorem io_oh {w W0 w1 w2 : World} {b : Nat} {f : Value → Option Value} {ks : List S34} {vs : List Value} {eM : Value} (hU : Utf8Tabs 3 4 w) (hW : WhiteTab 6 w)
    (hE : w.cell? ⟨0, 0, none⟩ = some eM) (hap : Apart ks) (hok : KeyOk ks) (hkt : ∀ (x : S34), x ∈ ks → x.f2.length ≤ 2147483647 ∧ x.f3.length ≤ 2147483647)
    (hbw : Below w.heap.size w W0) (hb1 : Below W0.heap.size W0 w1) (hb2 : Below w1.heap.size w1 w2) (hvs : Vs W0 ks vs) (hm : MapR Tryd.prog 122 w2 b f) (hvm : VM w2 w1.heap.size ks vs ks.length f) : OH w2 b w1.heap.size f ks vs eM none [] :=
  have hb : Below w.heap.size w w2 := (hbw.trans (hb1.mono hbw.size)).trans (hb2.mono (Nat.le_trans hbw.size hb1.size))
  { hU := Utf8Tabs.below' hU hb
    hW := WhiteTab.below' hW hb
    hE := pw_cell_below hb hE
    hm := hm
    hv := hvm
    hvs := (hvs.below hb1).below hb2
    hap := hap
    hok := hok
    hl := hkt
    hT := ⟨rfl, by decide, fun h => absurd h (by decide)⟩
    hTl := by decide }
/-- What Open of a note leaves, by values. -/
def OV (w0 : World) (eM : Value) (text : ByteArray) (tot : ORes) (vn ve : Value) (w' : World) : Prop :=
  Below w0.heap.size w0 w' ∧ match tot with
  | .bad => vn = .pointer none ∧ ve = eM
  | .inv nm h => ∃ g, vn = .pointer none ∧ ve = .iface 72 (.pointer (some ⟨g, 0, none⟩)) ∧ w'.heap[g]? = some (.cells #[.string nm, .int .u32 h] 74 (0, 0))
  | .ok sigs unv => ∃ gN vS vU, w'.heap[gN]? = some (.cells #[.string text, vS, vU] 94 (0, 0)) ∧ Kd.R k118 118 w' w0.heap.size (fun _ => True) vS sigs ∧ Kd.R k118 118 w' w0.heap.size (fun _ => True) vU unv ∧
      ((sigs = [] ∧ ∃ g2, vn = .pointer none ∧ ve = .iface 76 (.pointer (some ⟨g2, 0, none⟩)) ∧ w'.heap[g2]? = some (.cells #[.pointer (some ⟨gN, 0, none⟩)] 78 (0, 0))) ∨ (sigs ≠ [] ∧ vn = .pointer (some ⟨gN, 0, none⟩) ∧ ve = .nilIface))
theorem OPost.ret {w0 : World} {eM : Value} {text : ByteArray} {tot : ORes} {e : Ending} {w' : World} (h : OPost w0 eM text tot e w') : ∃ vn ve, e = .returned (.tuple #[vn, ve]) ∧ OV w0 eM text tot vn ve w' := by
  obtain ⟨hb, h⟩ := h
  cases tot with
  | bad => exact ⟨_, _, h, hb, rfl, rfl⟩
  | inv nm hh => obtain ⟨g, h, hc⟩ := h; exact ⟨_, _, h, hb, g, rfl, rfl, hc⟩
  | ok sigs unv =>
    obtain ⟨gN, vS, vU, h1, h2, h3, ⟨hs, g2, h, hc⟩ | ⟨hs, h⟩⟩ := h
    · exact ⟨_, _, h, hb, gN, vS, vU, h1, h2, h3, .inl ⟨hs, g2, rfl, rfl, hc⟩⟩
    · exact ⟨_, _, h, hb, gN, vS, vU, h1, h2, h3, .inr ⟨hs, rfl, rfl⟩⟩
theorem put3 {w : World} {g t : Nat} {x0 x1 x2 : Value} (h : w.heap[g]? = some (.cells #[x0, x1, x2] t (0, 0))) (u0 u1 u2 : Value) :
    (((w.setCell ⟨g, 0, none⟩ u0).setCell ⟨g, 1, none⟩ u1).setCell ⟨g, 2, none⟩ u2).heap[g]? = some (.cells #[u0, u1, u2] t (0, 0)) :=
  blk_put (blk_put (blk_put h 0 _ rfl) 1 _ rfl) 2 _ rfl
theorem belowT {w W : World} (h : Below w.heap.size w W) (u0 u1 u2 : Value) : Below w.heap.size w (((W.setCell ⟨w.heap.size, 0, none⟩ u0).setCell ⟨w.heap.size, 1, none⟩ u1).setCell ⟨w.heap.size, 2, none⟩ u2) :=
  ((h.setCell (Nat.le_refl _) _).setCell (Nat.le_refl _) _).setCell (Nat.le_refl _) _
theorem one75 (w : World) (N : Nat) (nm : ByteArray) (h : Int) (hN : N < w.heap.size) : Kd.R k75 75 (w.alloc (.cells #[.string nm, .int .u32 h, .string ⟨#[]⟩] 75)) (N + 1) (fun _ => True) (.slice (some ⟨w.heap.size, 0, none⟩) 1 1) [⟨nm, h, ⟨#[]⟩⟩] := by
  refine ⟨fun _ _ => trivial, OwnRow.lit (inner := [.string nm, .int .u32 h, .string ⟨#[]⟩]) w (N + 1) ?_ hN (by simp)⟩
  have hr := Reps.snoc (ps := ([] : List S75)) (cs := []) (c := [.string nm, .int .u32 h, .string ⟨#[]⟩]) (p := ⟨nm, h, ⟨#[]⟩⟩) (Reps.none (k75.M (w.alloc (.cells #[.string nm, .int .u32 h, .string ⟨#[]⟩] 75)) (N + 1) (fun k => True ∧ some k ≠ (Value.slice (some ⟨w.heap.size, 0, none⟩) 1 1).ownBlock)) k75.sz) ?_ rfl
  · exact hr
  · exact k75_mkM _ _ _ _
set_option maxRecDepth 100000 in
set_option maxHeartbeats 4000000 in
theorem iopen (w : World) (l : List UInt8) (A0 : Option Addr) (c0 : Nat) (ks : List S34) (eM : Value) (hU : Utf8Tabs 3 4 w) (hW : WhiteTab 6 w) (hE : w.cell? ⟨0, 0, none⟩ = some eM) (heM : ∃ pE, eM = .iface 195 (.pointer pE))
    (hk : Kd.C k34 w A0 ks.length ks) (hc0 : ks.length ≤ c0) (hkl : ks.length ≤ 2147483647) (hap : Apart ks) (hok : KeyOk ks) (hkt : ∀ (x : S34), x ∈ ks → x.f2.length ≤ 2147483647 ∧ x.f3.length ≤ 2147483647)
    (hl : l.length ≤ 2147483647) (hcnt : ∀ i, lastN l l.length = some i → l[l.length - 1]? = some 10 → (linesD (l.drop (i + 2))).length ≤ 100) (hlen : ∀ s u, (openM ks l).2 = .ok s u → s.length ≤ 1000000 ∧ u.length ≤ 1000000) :
    Calls Tryd.prog 11 #[.string (S l), .slice A0 ks.length c0] w (IOPost w (outM (openM ks l).1 (openM ks l).2)) := by
  have HU := Lib.hid hU
  have HW := Lib.hid hW
  have HE := Lib.hid hE
  have HEM := Lib.hid heM
  have HK := Lib.hid hk
  have HC := Lib.hid hc0
  have HKL := Lib.hid hkl
  have HAP := Lib.hid hap
  have HOK := Lib.hid hok
  have HKT := Lib.hid hkt
  have HL := Lib.hid hl
  have HCNT := Lib.hid hcnt
  have HLEN := Lib.hid hlen
  clear hU hW hE heM hk hc0 hkl hap hok hkt hl hcnt hlen
  go_enter Tryd.func11, Tryd.ntmps11
  go_upto_region 1 with fail
  generalize hWa : w.alloc (.cells #[.string ⟨#[]⟩, .slice none 0 0, .slice none 0 0] 40) = Wa
  have hba : Below w.heap.size w Wa := by subst hWa; exact (Below.refl _ _).alloc (Nat.le_refl _) _
  have hblk : Wa.heap[w.heap.size]? = some (.cells #[.string ⟨#[]⟩, .slice none 0 0, .slice none 0 0] 40 (0, 0)) := by subst hWa; exact heap_alloc_new w _
  have hsa : Wa.heap.size = w.heap.size + 1 := by subst hWa; simp
  have hrb := bytes_rb Wa l HL.out
  have hb0 : Below Wa.heap.size Wa (Lib.bytesWorld Wa 5 (S l)) := bytes_below (Below.refl _ _) (Nat.le_refl _) _ _
  have hge := grownCap_ge Wa l.length 0 5
  have kc : (convert 9 65 (.string (S l))).run Tryd.prog Wa = .ok (.slice (some ⟨Wa.heap.size, 0, none⟩) l.length (grownCap Wa l.length 0 5)) (Lib.bytesWorld Wa 5 (S l)) := by
    have h := print_bytes (P := Tryd.prog) 9 65 5 Tryd.underlying9 Tryd.underlying65 Tryd.underlying5 (S l) Wa
    rw [S_sz] at h; exact h
  generalize hcM : grownCap Wa l.length 0 5 = cM at hge
  generalize hW0 : Lib.bytesWorld Wa 5 (S l) = W0 at hrb hb0
  have hbw : Below w.heap.size w W0 := hba.trans (hb0.mono hba.size)
  rw [hcM, hW0] at kc
  rw [hsa] at kc hrb
  have HBW := Lib.hid hbw
  have HRB := Lib.hid hrb
  have HB0 := Lib.hid hb0
  clear hbw hrb hb0 hWa hcM hW0 hsa
  go_upto_region 2 with (first
    | (go_at_call 25; with_reducible refine (verifiers A0 c0 ks W0 (Kd.C_below HK.out HBW.out) HC.out HKL.out).mono ?_; rintro e w1 ⟨v1, vs, rfl, hown, hvs, hb1⟩; have HB1 := Lib.hid hb1; have HVS := Lib.hid hvs; have HOWN := Lib.hid hown; clear hown hvs hb1)
    | (go_at_call 24; with_reducible refine (vlist w w1 v1 ks vs _ HOWN.out (HVS.out.below HB1.out) HAP.out HOK.out HKL.out).mono ?_; rintro e w2 ⟨b, f, rfl, hm, hvm, hb2⟩; have HB2 := Lib.hid hb2; have HM := Lib.hid hm; have HVM := Lib.hid hvm; clear hm hvm hb2)
    | (go_at_call 23; with_reducible refine (nopen w2 b w1.heap.size f ks vs eM (io_oh HU.out HW.out HE.out HAP.out HOK.out HKT.out HBW.out HB1.out HB2.out HVS.out HM.out HVM.out) l (w.heap.size + 1) cM ((HRB.out.below HB1.out).below HB2.out) HL.out hge HCNT.out).mono ?_; rintro e w3 hp; obtain ⟨vn, ve, rfl, hov⟩ := OPost.ret hp; clear hp)
    | fail)
  have HLEN2 := HLEN.out
  clear kc hge
  generalize (openM ks l).2 = tot at *
  generalize (openM ks l).1 = text at *
  have hb3 : Below w.heap.size w w3 := ((HBW.out.trans (HB1.out.mono HBW.out.size)).trans (HB2.out.mono (Nat.le_trans HBW.out.size HB1.out.size))).trans (hov.1.mono (Nat.le_trans (Nat.le_trans HBW.out.size HB1.out.size) HB2.out.size))
  have hlt : w.heap.size < Wa.heap.size := blk_lt hblk
  have hlt0 := Nat.lt_of_lt_of_le hlt HB0.out.size
  have hlt1 := Nat.lt_of_lt_of_le hlt0 HB1.out.size
  have hblk3 : w3.heap[w.heap.size]? = some (.cells #[.string ⟨#[]⟩, .slice none 0 0, .slice none 0 0] 40 (0, 0)) := (hov.1.block _ (Nat.lt_of_lt_of_le hlt1 HB2.out.size)).trans ((HB2.out.block _ hlt1).trans ((HB1.out.block _ hlt0).trans ((HB0.out.block _ hlt).trans hblk)))
  have HB3 := Lib.hid hb3
  have HBLK := Lib.hid hblk3
  obtain ⟨hs0, hs1, hs2, hf0, hf1, hf2⟩ := three hblk3
  have hov2 := hov.2
  clear hov hb3 hblk3 hlt hlt0 hlt1 hblk hba
  cases tot with
  | bad =>
    obtain ⟨rfl, rfl⟩ := hov2
    obtain ⟨pE, hpE⟩ := HEM.out
    subst hpE
    have f1 := asInvE pE
    have f2 := asUnvE pE
    go_wp2_with fail
    refine bodyPost_ret (results_ct rfl _ _ w.heap.size 40 _ (0, 0) _ rfl (put3 HBLK.out _ _ _) Tryd.underlying40 rfl (by kernel_rfl)) rfl ?_
    exact ⟨_, _, rfl, Kd.R_nil _ _ _ _ _, Kd.R_nil _ _ _ _ _, belowT HB3.out _ _ _⟩
  | inv nm h =>
    obtain ⟨g, rfl, rfl, hc⟩ := hov2
    have f1 := asInv (some ⟨g, 0, none⟩)
    have hne : w.heap.size ≠ g := blk_ne HBLK.out hc (by decide)
    have c0 : w3.cell? ⟨g, 0, none⟩ = some (.string nm) := (blk_cell hc 0).trans rfl
    have c1 : w3.cell? ⟨g, 1, none⟩ = some (.int .u32 h) := (blk_cell hc 1).trans rfl
    go_upto_region 8 with fail
    go_still_tail 9, (by kernel_rfl)
    change wpList _ _ _ _ _ w3.drew
    generalize hd : w3.drew = w4
    have hB4 : Hid (Below w.heap.size w w4) := Lib.hid (by rw [← hd]; exact below_drew1 HB3.out)
    have hblk4 : Hid (w4.heap[w.heap.size]? = some (.cells #[.string ⟨#[]⟩, .slice none 0 0, .slice none 0 0] 40 (0, 0))) := Lib.hid (by rw [← hd]; exact HBLK.out)
    clear hs0 hs1 hs2 hf0 hf1 hf2 c0 c1 f1 hd
    have hblk5 : Hid ((w4.alloc (.cells #[.string nm, .int .u32 h, .string ⟨#[]⟩] 75)).heap[w.heap.size]? = some (.cells #[.string ⟨#[]⟩, .slice none 0 0, .slice none 0 0] 40 (0, 0))) := Lib.hid ((Below.heap_alloc _ _ _ (blk_lt hblk4.out)).trans hblk4.out)
    obtain ⟨hs0, hs1, hs2, hf0, hf1, hf2⟩ := three hblk5.out
    go_wp2_with fail
    refine bodyPost_ret (results_ct rfl _ _ w.heap.size 40 _ (0, 0) _ rfl (put3 hblk5.out _ _ _) Tryd.underlying40 rfl (by kernel_rfl)) rfl ?_
    exact ⟨_, _, rfl, far3 (one75 w4 _ nm h (blk_lt hblk4.out)) (Nat.lt_succ_self _) _ _ _, Kd.R_nil _ _ _ _ _, belowT (hB4.out.alloc hB4.out.size _) _ _ _⟩
  | ok sigs unv =>
    obtain ⟨gN, vS, vU, h1, h2, h3, ⟨rfl, g2, rfl, rfl, hc⟩ | ⟨hs, rfl, rfl⟩⟩ := hov2
    · have hbk := backC w3 gN text vS vU [] unv _ h1 h2 h3 (HLEN2 _ _ rfl).1 (HLEN2 _ _ rfl).2
      have HBK := Lib.hid hbk
      have f1 := asInvU (some ⟨g2, 0, none⟩)
      have f2 := asUnvU (some ⟨g2, 0, none⟩)
      have c0 : w3.cell? ⟨g2, 0, none⟩ = some (.pointer (some ⟨gN, 0, none⟩)) := (blk_cell hc 0).trans rfl
      clear hbk h1 h2 h3 HLEN2 hc
      go_wp2_with (go_at_call 26; refine HBK.out.mono ?_; rintro e w4 ⟨x1, x2, rfl, r1, r2, hb4⟩; obtain ⟨B1, d1, rfl⟩ := Kd.R_slice r1; obtain ⟨B2, d2, rfl⟩ := Kd.R_slice r2; obtain ⟨ht0, ht1, ht2, he0, he1, he2⟩ := three ((hb4.block _ (blk_lt HBLK.out)).trans HBLK.out))
      refine bodyPost_ret (results_ct rfl _ _ w.heap.size 40 _ (0, 0) _ rfl (put3 ((hb4.block _ (blk_lt HBLK.out)).trans HBLK.out) _ _ _) Tryd.underlying40 rfl (by kernel_rfl)) rfl ?_
      have hlt := blk_lt HBLK.out
      refine ⟨_, _, rfl, ?_, ?_, belowT (HB3.out.trans (hb4.mono HB3.out.size)) _ _ _⟩
      · exact far3 r1 hlt _ _ _
      · rw [List.length_map] at r2; exact far3 r2 hlt _ _ _
    · have hbk := backC w3 gN text vS vU sigs unv _ h1 h2 h3 (HLEN2 _ _ rfl).1 (HLEN2 _ _ rfl).2
      have HBK := Lib.hid hbk
      clear hbk h1 h2 h3 HLEN2
      go_wp2_with (go_at_call 26; refine HBK.out.mono ?_; rintro e w4 ⟨x1, x2, rfl, r1, r2, hb4⟩; obtain ⟨B1, d1, rfl⟩ := Kd.R_slice r1; obtain ⟨B2, d2, rfl⟩ := Kd.R_slice r2; obtain ⟨ht0, ht1, ht2, he0, he1, he2⟩ := three ((hb4.block _ (blk_lt HBLK.out)).trans HBLK.out))
      refine bodyPost_ret (results_ct rfl _ _ w.heap.size 40 _ (0, 0) _ rfl (put3 ((hb4.block _ (blk_lt HBLK.out)).trans HBLK.out) _ _ _) Tryd.underlying40 rfl (by kernel_rfl)) rfl ?_
      obtain ⟨x, sl, rfl⟩ : ∃ x sl, sigs = x :: sl := by cases sigs with | nil => exact absurd rfl hs | cons x sl => exact ⟨x, sl, rfl⟩
      have hlt := blk_lt HBLK.out
      refine ⟨_, _, rfl, ?_, ?_, belowT (HB3.out.trans (hb4.mono HB3.out.size)) _ _ _⟩
      · rw [List.length_map] at r1; exact far3 r1 hlt _ _ _
      · rw [List.length_map] at r2; exact far3 r2 hlt _ _ _
end Go.Proofs.YtkbegfihdpiacaaDoor.PX

namespace Go.Proofs.YtkbegfihdpiacaaDoor.PX
open Go.RowKit Nt Go.Lib Go.Maps Go.Proofs.YtkbegfihdpiacaaDoorW.PrintWords Go.Proofs.YtkbegfihdpiacaaDoorW.PrintLast
set_option linter.unusedVariables false
set_option linter.unusedSimpArgs false
/-- What the reference tells. -/
def resD (t : ByteArray) : ORes → ByteArray × List S37 × List S37 × Int × Bool
  | .bad => (⟨#[]⟩, [], [], 1, true)
  | .inv nm h => (⟨#[]⟩, [⟨nm, h, ⟨#[]⟩⟩], [], 2, true)
  | .ok [] u => (t, [], u.map sig37, 3, true)
  | .ok (x :: s) u => (t, (x :: s).map sig37, u.map sig37, 0, true)
def Seen37 (sn : List S37) (seen : List (ByteArray × Int)) : Prop := ∀ nm h, (⟨nm, h, ⟨#[]⟩⟩ : S37) ∈ sn ↔ (nm, h) ∈ seen
theorem sig37_mem (u : List S118) (x : S118) : sig37 x ∈ u.map sig37 ↔ x ∈ u := by
  rw [List.mem_map]
  constructor
  · rintro ⟨y, hy, e⟩
    have : y = x := by
      cases x; cases y; unfold sig37 at e; injection e with e1 e2 e3; subst e1; subst e2; subst e3; rfl
    exact this ▸ hy
  · intro h; exact ⟨x, h, rfl⟩
abbrev curL (l : List UInt8) : S37 := ⟨S (lineD l).1, ((lineD l).2.1 : Int), S (lineD l).2.2.1⟩
abbrev keyL (l : List UInt8) : S37 := ⟨S (lineD l).1, ((lineD l).2.1 : Int), ⟨#[]⟩⟩
abbrev Res : Type := ByteArray × List S37 × List S37 × Int × Bool
abbrev untold : Res := (⟨#[]⟩, [], [], 1, false)
abbrev malformed : Res := (⟨#[]⟩, [], [], 1, true)
open Classical in
noncomputable def sopL (ks : List S34) (text : ByteArray) : List (List UInt8) → List S37 → List S37 → List S37 → Res
  | [], _, sigs, unv => if sigs = [] then (text, [], unv, 3, true) else (text, sigs, unv, 0, true)
  | l :: ls, sn, sigs, unv =>
    if (lineD l).2.2.2.2.2 = false then untold else if (lineD l).2.2.2.2.1 = false then malformed
    else match findS ks (S (lineD l).1) ((lineD l).2.1 : Int) with
      | none => if curL l ∈ unv then sopL ks text ls sn sigs unv else sopL ks text ls sn sigs (unv ++ [curL l])
      | some x => if keyL l ∈ sn then sopL ks text ls sn sigs unv
        else if accS x.f2 x.f3 text (S (lineD l).2.2.2.1) = true then sopL ks text ls (sn ++ [keyL l]) (sigs ++ [curL l]) unv
        else (⟨#[]⟩, [keyL l], [], 2, true)
theorem sopL_open (ks : List S34) (text : ByteArray) : ∀ (ls : List (List UInt8)) (seen : List (ByteArray × Int)) (sn : List S37) (sigs unv : List S118), Seen37 sn seen → (sopL ks text ls sn (sigs.map sig37) (unv.map sig37)).2.2.2.2 = true →
    sopL ks text ls sn (sigs.map sig37) (unv.map sig37) = resD text (openL ks text ls seen sigs unv)
  | [], seen, sn, sigs, unv, hs, h => by
    rw [sopL, openL]
    cases sigs with
    | nil => rfl
    | cons x s => rfl
  | l :: ls, seen, sn, sigs, unv, hs, h => by
    rw [sopL] at h ⊢
    rw [openL]
    split at h
    · cases h
    · rename_i ht
      rw [if_neg ht]
      split at h
      · rename_i hf; rw [if_pos hf, if_pos hf]; rfl
      · rename_i hf
        rw [if_neg hf, if_neg hf]
        cases e : findS ks (S (lineD l).1) ((lineD l).2.1 : Int) with
        | none =>
          rw [e] at h
          simp only at h ⊢
          have hm : curL l ∈ unv.map sig37 ↔ (⟨S (lineD l).1, ((lineD l).2.1 : Int), S (lineD l).2.2.1⟩ : S118) ∈ unv := sig37_mem unv ⟨S (lineD l).1, ((lineD l).2.1 : Int), S (lineD l).2.2.1⟩
          have hap : unv.map sig37 ++ [curL l] = (unv ++ [(⟨S (lineD l).1, ((lineD l).2.1 : Int), S (lineD l).2.2.1⟩ : S118)]).map sig37 := by rw [List.map_append]; rfl
          by_cases hin : (⟨S (lineD l).1, ((lineD l).2.1 : Int), S (lineD l).2.2.1⟩ : S118) ∈ unv
          · rw [if_pos (hm.2 hin)] at h ⊢
            rw [if_pos hin]
            exact sopL_open ks text ls seen sn sigs unv hs h
          · rw [if_neg (fun e => hin (hm.1 e)), hap] at h ⊢
            rw [if_neg hin]
            exact sopL_open ks text ls seen sn sigs _ hs h
        | some x =>
          rw [e] at h
          simp only at h ⊢
          have hm : keyL l ∈ sn ↔ (S (lineD l).1, ((lineD l).2.1 : Int)) ∈ seen := hs _ _
          by_cases hin : (S (lineD l).1, ((lineD l).2.1 : Int)) ∈ seen
          · rw [if_pos (hm.2 hin)] at h ⊢
            rw [if_pos hin]
            exact sopL_open ks text ls seen sn sigs unv hs h
          · rw [if_neg (fun e => hin (hm.1 e))] at h ⊢
            rw [if_neg hin]
            by_cases ha : accS x.f2 x.f3 text (S (lineD l).2.2.2.1) = true
            · have hap : sigs.map sig37 ++ [curL l] = (sigs ++ [(⟨S (lineD l).1, ((lineD l).2.1 : Int), S (lineD l).2.2.1⟩ : S118)]).map sig37 := by rw [List.map_append]; rfl
              rw [if_pos ha, hap] at h ⊢
              rw [if_pos ha]
              refine sopL_open ks text ls _ _ _ unv ?_ h
              intro nm g
              rw [List.mem_append, List.mem_singleton, hs nm g, List.mem_cons]
              constructor
              · rintro (h | h)
                · exact .inr h
                · injection h with a b _
                  subst a; subst b
                  exact .inl rfl
              · rintro (h | h)
                · injection h with a b
                  subst a; subst b
                  exact .inr rfl
                · exact .inl h
            · rw [if_neg ha, if_neg ha]; rfl
/-- The lines of a message. -/
def lnsD (l : List UInt8) : List (List UInt8) := (splitD l).2.1.map (·.data.toList)
theorem lnsD_S (l : List UInt8) : (lnsD l).map S = (splitD l).2.1 := by
  unfold lnsD
  rw [List.map_map]
  conv => rhs; rw [← List.map_id (splitD l).2.1]
  exact List.map_congr_left fun x _ => S_data x
theorem lnsD_map (ls : List (List UInt8)) : (ls.map S).map (·.data.toList) = ls := by
  rw [List.map_map]
  conv => rhs; rw [← List.map_id ls]
  exact List.map_congr_left fun x _ => rfl
noncomputable def sopM (ks : List S34) (l : List UInt8) : Res :=
  if 2000 < l.length then untold else if 100 < (lnsD l).length then untold
  else if plainD l = true then if (splitD l).2.2 = true then sopL ks (splitD l).1 (lnsD l) [] [] [] else malformed else malformed
theorem line_len : ∀ (n : Nat) (l : List UInt8) (ln : List UInt8), ln ∈ linesF n l → ln.length ≤ l.length
  | 0, l, ln, h => by cases h
  | n + 1, l, ln, h => by
    rw [linesF] at h
    by_cases hl : l = []
    · rw [if_pos hl] at h; cases h
    · rw [if_neg hl] at h
      rcases List.mem_cons.1 h with rfl | h
      · rw [List.length_take]; omega
      · have := line_len n _ ln h
        rw [List.length_drop] at this
        omega
theorem lnsD_len (l : List UInt8) : ∀ ln ∈ lnsD l, ln.length ≤ l.length := by
  intro ln h
  unfold lnsD splitD at h
  split at h
  · cases h
  · rename_i i hi
    split at h
    · cases h
    · split at h
      · rw [lnsD_map] at h
        have := line_len _ _ ln h
        rw [List.length_drop] at this
        omega
      · cases h
theorem sopM_open (ks : List S34) (l : List UInt8) (h : (sopM ks l).2.2.2.2 = true) : sopM ks l = resD (openM ks l).1 (openM ks l).2 ∧ l.length ≤ 2000 ∧ ∀ i, lastN l l.length = some i → l[l.length - 1]? = some 10 → (linesD (l.drop (i + 2))).length ≤ 100 := by
  unfold sopM at h ⊢
  split at h
  · cases h
  · rename_i h1
    rw [if_neg h1]
    split at h
    · cases h
    · rename_i h2
      rw [if_neg h2]
      have hcnt : ∀ i, lastN l l.length = some i → l[l.length - 1]? = some 10 → (linesD (l.drop (i + 2))).length ≤ 100 := by
        intro i hi h10
        by_cases hd : l.drop (i + 2) = []
        · rw [hd]; simp [linesD_nil]
        · have : (lnsD l).length = (linesD (l.drop (i + 2))).length := by
            unfold lnsD splitD; rw [hi]; simp only; rw [if_neg hd, if_pos h10]; simp
          omega
      refine ⟨?_, by omega, hcnt⟩
      unfold openM
      split at h
      · rename_i hp
        rw [if_pos hp, if_pos hp]
        unfold splitD lnsD splitD at h ⊢
        cases hlast : lastN l l.length with
        | none => rw [hlast] at h; rfl
        | some i =>
          rw [hlast] at h
          simp only at h ⊢
          by_cases hd : l.drop (i + 2) = []
          · rw [if_pos hd, if_pos hd]; rfl
          · rw [if_neg hd] at h ⊢
            rw [if_neg hd]
            by_cases h10 : l[l.length - 1]? = some 10
            · rw [if_pos h10] at h ⊢
              rw [if_pos h10]
              simp only [if_true] at h ⊢
              rw [lnsD_map] at h ⊢
              exact sopL_open ks _ _ [] [] [] [] (fun nm h => by simp) h
            · rw [if_neg h10, if_neg h10]; rfl
      · rename_i hp
        rw [if_neg hp, if_neg hp]
        rfl
section
variable {α : Type} {k : Kd α} {e : TypeId} {w w' : World} {B : Nat} {v : Value} {l : List α}
theorem gR_lt (h : k.R e w B (fun _ => True) v l) {n : Nat} (hn : v.ownBlock = some n) : B ≤ n ∧ ∃ cells, w.heap[n]? = some (.cells cells e (0, 0)) := by
  obtain ⟨inner, ho⟩ := Kd.R_own h
  exact ⟨own_base ho n hn, own_typed ho n hn⟩
theorem gR_other (h : k.R e w B (fun _ => True) v l) {row : Option Nat} (hne : v.ownBlock = none ∨ v.ownBlock ≠ row) (hM : ∀ {ok ok' : Nat → Prop} {x : α} {c : List Value}, k.M w B ok x c → k.M w B ok' x c) (hg : w.grownBy w' row) : k.R e w' B (fun _ => True) v l := by
  have h1 : k.R e w B (fun n => v.ownBlock = some n) v l := by
    obtain ⟨h0, inner, ho, hr⟩ := h
    exact ⟨fun k hk => hk, inner, ho, hr.imp_ fun _ _ hp => hM hp⟩
  exact Kd.R_mono (Kd.R_grown h1 hg fun n hn e => by
    rcases hne with hne | hne
    · rw [hne] at hn; cases hn
    · exact hne (hn.trans e)) fun _ _ => trivial
theorem gR_kept (h : k.R e w B (fun _ => True) v l) (hE : k.E = []) {g : Nat} (hg : ∀ cells, w.heap[g]? ≠ some (.cells cells e (0, 0))) (hb : ∀ n, n < w.heap.size → n ≠ g → w'.heap[n]? = w.heap[n]?) : k.R e w' B (fun _ => True) v l := by
  have h1 : k.R e w B (fun n => n ≠ g) v l := Kd.R_mono (Kd.R_bound h) fun n hn => by
    obtain ⟨_, _, _, q, hq, cells, hc⟩ := hn
    rw [hE] at hq
    obtain rfl : q = e := by simpa using hq
    rintro rfl
    exact hg cells hc
  exact Kd.R_mono (Kd.R_step h1 fun n hn hlt => hb n hlt hn) fun _ _ => trivial
theorem gR_ne (h : k.R e w B (fun _ => True) v l) {g : Nat} {cells : Array Value} {t : TypeId} (hg : w.heap[g]? = some (.cells cells t (0, 0))) (ht : t ≠ e) : some g ≠ v.ownBlock := by
  intro he
  obtain ⟨_, c, hc⟩ := gR_lt h he.symm
  exact ht (not_both hg hc)
/-- A row that has grown is another than one that lay there before. -/
theorem gR_apart {v1 u : Value} {β : Type} {q : Kd β} {m : List β} (hu : q.R e w B (fun _ => True) u m) (hne : v.ownBlock = none ∨ v.ownBlock ≠ u.ownBlock) (hat : v1.ownBlock = v.ownBlock ∨ ∃ b, v1.ownBlock = some b ∧ w.heap.size ≤ b) : v1.ownBlock = none ∨ v1.ownBlock ≠ u.ownBlock := by
  rcases hat with e1 | ⟨b, hb, hle⟩
  · rw [e1]; exact hne
  · right
    intro e1
    rw [hb] at e1
    obtain ⟨_, c, hc⟩ := gR_lt hu e1.symm
    have := blk_lt hc
    omega
end
theorem ne_symm' {a b : Option Nat} (h : a = none ∨ a ≠ b) : b = none ∨ b ≠ a := by
  rcases h with h | h
  · cases b with
    | none => exact .inl rfl
    | some x => right; rw [h]; simp
  · exact .inr fun e => h e.symm
theorem gfar3 {α : Type} {k : Kd α} {w : World} {N B e : Nat} {v : Value} {xs : List α} (h : k.R e w B (fun _ => True) v xs) (hN : N < B) (u0 u1 u2 : Value) :
    k.R e (((w.setCell ⟨N, 0, none⟩ u0).setCell ⟨N, 1, none⟩ u1).setCell ⟨N, 2, none⟩ u2) N (fun _ => True) v xs :=
  Kd.R_lower (Kd.R_mono (Kd.R_far (p := ⟨N, 2, none⟩) (Kd.R_far (p := ⟨N, 1, none⟩) (Kd.R_far (p := ⟨N, 0, none⟩) (Kd.R_bound h) (fun k hk => by have := hk.2.1; show k ≠ N; omega) u0) (fun k hk => by have := hk.2.1; show k ≠ N; omega) u1) (fun k hk => by have := hk.2.1; show k ≠ N; omega) u2) (fun _ _ => trivial)) (by omega)
/-- What lies in memory where the loop over the lines stands: a note behind gN, the rows of its signatures, the row of the keys that were seen. -/
structure SSt (w0 w : World) (gN : Nat) (text : ByteArray) (vS vU vn : Value) (sigs unv sn : List S37) : Prop where
  below : Below w0.heap.size w0 w
  bN : w.heap[gN]? = some (.cells #[.string text, vS, vU] 27 (0, 0))
  rS : Kd.R k37 37 w w0.heap.size (fun _ => True) vS sigs
  rU : Kd.R k37 37 w w0.heap.size (fun _ => True) vU unv
  rn : Kd.R k37 37 w w0.heap.size (fun _ => True) vn sn
  su : vS.ownBlock = none ∨ vS.ownBlock ≠ vU.ownBlock
  sn' : vS.ownBlock = none ∨ vS.ownBlock ≠ vn.ownBlock
  un : vU.ownBlock = none ∨ vU.ownBlock ≠ vn.ownBlock
  geN : w0.heap.size ≤ gN
section
variable {w0 w w' : World} {gN : Nat} {text : ByteArray} {vS vU vn v1 : Value} {sigs unv sn l' : List S37}
theorem SSt.step (h : SSt w0 w gN text vS vU vn sigs unv sn) (hb : Below w.heap.size w w') : SSt w0 w' gN text vS vU vn sigs unv sn :=
  { h with below := h.below.trans (hb.mono h.below.size), bN := (hb.block _ (blk_lt h.bN)).trans h.bN, rS := Kd.R_below h.rS hb, rU := Kd.R_below h.rU hb, rn := Kd.R_below h.rn hb }
theorem SSt.grown (h : SSt w0 w gN text vS vU vn sigs unv sn) (hb : Below w0.heap.size w0 w') (hg : w.grownBy w' vn.ownBlock) (hr : Kd.R k37 37 w' w0.heap.size (fun _ => True) v1 l') (hat : v1.ownBlock = vn.ownBlock ∨ ∃ b, v1.ownBlock = some b ∧ w.heap.size ≤ b) :
    SSt w0 w' gN text vS vU v1 sigs unv l' :=
  { h with below := hb, bN := (hg.block _ (blk_lt h.bN) (gR_ne h.rn h.bN (by decide))).trans h.bN, rS := gR_other h.rS h.sn' (fun h => h) hg, rU := gR_other h.rU h.un (fun h => h) hg, rn := hr
           sn' := ne_symm' (gR_apart h.rS (ne_symm' h.sn') hat), un := ne_symm' (gR_apart h.rU (ne_symm' h.un) hat) }
theorem SSt.growU (h : SSt w0 w gN text vS vU vn sigs unv sn) (hb : Below w0.heap.size w0 w') (hg : w.grownBy w' vU.ownBlock) (hr : Kd.R k37 37 w' w0.heap.size (fun _ => True) v1 l') (hat : v1.ownBlock = vU.ownBlock ∨ ∃ b, v1.ownBlock = some b ∧ w.heap.size ≤ b) :
    SSt w0 (w'.setCell ⟨gN, 2, none⟩ v1) gN text vS v1 vn sigs l' sn := by
  have bN : w'.heap[gN]? = _ := (hg.block _ (blk_lt h.bN) (gR_ne h.rU h.bN (by decide))).trans h.bN
  have hset : ∀ k, k < w'.heap.size → k ≠ gN → (w'.setCell ⟨gN, 2, none⟩ v1).heap[k]? = w'.heap[k]? := fun k _ hk => Below.heap_setCell w' ⟨gN, 2, none⟩ v1 k hk
  have hno : ∀ cells, w'.heap[gN]? ≠ some (.cells cells 37 (0, 0)) := fun cells e => absurd (not_both bN e) (by decide)
  exact { h with below := hb.setCell h.geN _, bN := blk_put bN 2 _ rfl, rS := gR_kept (gR_other h.rS h.su (fun h => h) hg) rfl hno hset, rU := gR_kept hr rfl hno hset, rn := gR_kept (gR_other h.rn (ne_symm' h.un) (fun h => h) hg) rfl hno hset
                 su := ne_symm' (gR_apart h.rS (ne_symm' h.su) hat), un := gR_apart h.rn h.un hat }
theorem SSt.growS (h : SSt w0 w gN text vS vU vn sigs unv sn) (hb : Below w0.heap.size w0 w') (hg : w.grownBy w' vS.ownBlock) (hr : Kd.R k37 37 w' w0.heap.size (fun _ => True) v1 l') (hat : v1.ownBlock = vS.ownBlock ∨ ∃ b, v1.ownBlock = some b ∧ w.heap.size ≤ b) :
    SSt w0 (w'.setCell ⟨gN, 1, none⟩ v1) gN text v1 vU vn l' unv sn := by
  have bN : w'.heap[gN]? = _ := (hg.block _ (blk_lt h.bN) (gR_ne h.rS h.bN (by decide))).trans h.bN
  have hset : ∀ k, k < w'.heap.size → k ≠ gN → (w'.setCell ⟨gN, 1, none⟩ v1).heap[k]? = w'.heap[k]? := fun k _ hk => Below.heap_setCell w' ⟨gN, 1, none⟩ v1 k hk
  have hno : ∀ cells, w'.heap[gN]? ≠ some (.cells cells 37 (0, 0)) := fun cells e => absurd (not_both bN e) (by decide)
  exact { h with below := hb.setCell h.geN _, bN := blk_put bN 1 _ rfl, rU := gR_kept (gR_other h.rU (ne_symm' h.su) (fun h => h) hg) rfl hno hset, rS := gR_kept hr rfl hno hset, rn := gR_kept (gR_other h.rn (ne_symm' h.sn') (fun h => h) hg) rfl hno hset
                 su := gR_apart h.rU h.su hat, sn' := gR_apart h.rn h.sn' hat }
end
/-- A frame of n slots of which some are known. -/
def FrN (n : Nat) (ks : List (Nat × Value)) (a : Act) : Prop := a.defers = [] ∧ a.tmps.size = n ∧ ∀ p ∈ ks, a.tmps.getD p.1 undef = p.2
theorem FrN.lit {n : Nat} {lt : (Nat → Value) → Array Value} (hr : ∀ g, (List.range n).map g = (lt g).toList) {ks : List (Nat × Value)} {a : Act} (h : FrN n ks a) : ∃ g : Nat → Value, a = ⟨lt g, []⟩ ∧ ∀ p ∈ ks, g p.1 = p.2 := by
  obtain ⟨h1, h2, h3⟩ := h
  refine ⟨fun i => a.tmps.getD i undef, ?_, h3⟩
  obtain ⟨tmps, defers⟩ := a
  simp only at h1 h2
  subst h1
  have e : tmps.toList = (lt fun i => tmps.getD i undef).toList := by
    rw [← hr]
    refine List.ext_getElem (by simp [h2]) fun i hi hi' => ?_
    have : i < tmps.size := by simpa using hi
    simp [Array.getD, this]
  have e2 := Array.toList_inj.1 e
  rw [← e2]
abbrev Fr' := FrN 120
set_option maxRecDepth 100000 in
def lit' (g : Nat → Value) : Array Value := #[g 0, g 1, g 2, g 3, g 4, g 5, g 6, g 7, g 8, g 9, g 10, g 11, g 12, g 13, g 14, g 15, g 16, g 17, g 18, g 19, g 20, g 21, g 22, g 23, g 24, g 25, g 26, g 27, g 28, g 29, g 30, g 31, g 32, g 33, g 34, g 35, g 36, g 37, g 38, g 39, g 40, g 41, g 42, g 43, g 44, g 45, g 46, g 47, g 48, g 49, g 50, g 51, g 52, g 53, g 54, g 55, g 56, g 57, g 58, g 59, g 60, g 61, g 62, g 63, g 64, g 65, g 66, g 67, g 68, g 69, g 70, g 71, g 72, g 73, g 74, g 75, g 76, g 77, g 78, g 79, g 80, g 81, g 82, g 83, g 84, g 85, g 86, g 87, g 88, g 89, g 90, g 91, g 92, g 93, g 94, g 95, g 96, g 97, g 98, g 99, g 100, g 101, g 102, g 103, g 104, g 105, g 106, g 107, g 108, g 109, g 110, g 111, g 112, g 113, g 114, g 115, g 116, g 117, g 118, g 119]
set_option maxRecDepth 100000 in
theorem range120 (g : Nat → Value) : (List.range 120).map g = (lit' g).toList := by rfl
end Go.Proofs.YtkbegfihdpiacaaDoor.PX
