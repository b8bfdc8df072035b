/- Part 18 of the proof: what the theorem reaches of the texts ISign, PX11, SmallF. -/
import Derived.Test.YtkbegfihdpiacaaDoorKS5
import Derived.Test.YtkbegfihdpiacaaDoorKS16
import Derived.Test.YtkbegfihdpiacaaDoorKS17

namespace Go.Proofs.YtkbegfihdpiacaaDoor.PX
open Go.RowKit Nt Go.Lib Go.Maps Go.Proofs.YtkbegfihdpiacaaDoorW.PrintWords Go.Proofs.YtkbegfihdpiacaaDoorW.PrintLast
set_option linter.unusedVariables false
set_option linter.unusedSimpArgs false
def n118 (x : S75) : S118 := ⟨x.f0, x.f1, x.f2⟩
theorem rd75' (l : List S75) (i : Nat) (h : i < l.length) : rd_T75 l (i : Int) = l[i] := by
  unfold rd_T75; simp [List.getElem?_eq_getElem h]
theorem out_l0 (x : List S75) (hx : x.length ≤ 1000000) : ∀ (k i : Nat) (acc : List S118), acc.length ≤ i → i ≤ x.length → x.length - i < k → impl_out.l0 k acc x (x.length : Int) (i : Int) = some (acc ++ (x.drop i).map n118)
  | 0, i, acc, _, _, h => by omega
  | k + 1, i, acc, ha, hi, h => by
    unfold impl_out.l0
    by_cases hlt : i < x.length
    · rw [if_pos (by omega), if_pos (by omega), if_pos (by omega), if_pos (by omega), w1 i (by omega), out_l0 x hx k (i + 1) _ (by rw [List.length_append]; simp only [List.length_cons, List.length_nil]; omega) (by omega) (by omega), List.drop_eq_getElem_cons hlt, List.map_cons, List.append_assoc, rd75' x i hlt]
      rfl
    · rw [if_neg (by omega), List.drop_eq_nil_of_le (by omega)]
      simp
theorem outC (x : List S75) (hx : x.length ≤ 1000000) (A : Option Addr) (c : Nat) (W : World) (h : x.length ≤ c ∧ Kd.C k75 W A x.length x) :
    Calls Tryd.prog 30 #[.slice A x.length c] W fun e w' => ∃ B d, e = .returned (.slice B x.length d) ∧ x.length ≤ d ∧ Kd.C k118 w' B x.length (x.map n118) ∧ Below W.heap.size W w' := by
  refine (impl_out.calls (x.length + 1) A c x (x.map n118) W h.2 h.1 ?_).mono ?_
  · have h := out_l0 x hx (x.length + 1) 0 [] (Nat.le_refl _) (by omega) (by omega)
    unfold impl_out.f
    simpa using h
  · rintro e w' ⟨v, rfl, hr, hb⟩
    obtain ⟨B, d, rfl⟩ := Kd.R_slice hr
    have := (Kd.R_reads' hr).2
    rw [List.length_map] at this ⊢
    exact ⟨B, d, rfl, this.1, this.2, hb⟩
/-- A row of bytes of the call's own, read. -/
theorem rb_own {w : World} {B : Nat} {v : Value} {l : List UInt8} (h : w.ownsRow B 5 1 v l.length (Lib.byteCells l)) (hl : l ≠ []) : ∃ A c, v = .slice A l.length c ∧ RB w A l := by
  have hr : Kd.R (Kd.int .u8) 5 w B (fun _ => True) v (ints l) := by
    refine ⟨fun _ _ => trivial, Lib.byteCells l, by rw [ints_length]; exact h, by rw [Lib.byteCells_length, ints_length]; exact (Nat.mul_one _).symm, fun j p hj => ?_⟩
    rw [ints, List.getElem?_map] at hj
    obtain ⟨b, hb, rfl⟩ := Option.map_eq_some_iff.1 hj
    obtain ⟨hlt, he⟩ := List.getElem?_eq_some_iff.1 hb
    show (List.drop (j * 1) (Lib.byteCells l)).take 1 = [Value.int .u8 (b.toNat : Int)]
    rw [Nat.mul_one, List.drop_eq_getElem_cons (by rw [Lib.byteCells_length]; exact hlt)]
    simp [Lib.byteCells, he]
  obtain ⟨A, c, rfl⟩ := Kd.R_slice hr
  have hc := (Kd.R_reads' hr).2.2
  rw [ints_length] at hc ⊢
  refine ⟨A, c, rfl, ?_⟩
  have := Kd.reads_of_C (enc := Value.int .u8) (d := (0 : Int)) (h1 := fun _ => rfl) hc
  exact this
theorem bsI {w W : World} {g : Nat} {x0 x1 x2 : Value} (hb : Below w.heap.size w W) (h0 : w.cell? ⟨g, 0, none⟩ = some x0) (h1 : w.cell? ⟨g, 1, none⟩ = some x1) (h2 : w.cell? ⟨g, 2, none⟩ = some x2) :
    Below w.heap.size w W ∧ W.cell? ⟨g, 0, none⟩ = some x0 ∧ W.cell? ⟨g, 1, none⟩ = some x1 ∧ W.cell? ⟨g, 2, none⟩ = some x2 := ⟨hb, pw_cell_below hb h0, pw_cell_below hb h1, pw_cell_below hb h2⟩
set_option maxRecDepth 100000 in
set_option maxHeartbeats 4000000 in
theorem isign0 (w : World) (t : List UInt8) (A1 A2 : Option Addr) (c1 c2 : Nat) (p1 p2 : List S75) (h1 : p1.length ≤ c1 ∧ Kd.C k75 w A1 p1.length p1) (h2 : p2.length ≤ c2 ∧ Kd.C k75 w A2 p2.length p2) (hs1 : ∀ x ∈ p1.map n118, SgW x) (hs2 : ∀ x ∈ p2.map n118, SgW x)
    (hn1 : p1.length ≤ 1000) (hn2 : p2.length ≤ 1000) (ht : t.length ≤ 1000000) (ht10 : t ≠ [] ∧ t[t.length - 1]? = some 10) (hU : Utf8Tabs 3 4 w) (hW : WhiteTab 6 w) :
    Calls Tryd.prog 15 #[.agg #[.string (S t), .slice A1 p1.length c1, .slice A2 p2.length c2], .slice none 0 0] w fun e w' => e = .returned (.tuple #[.string (S (wr t ((p1.map n118 ++ p2.map n118).map lineS))), .bool true]) ∧ Below w.heap.size w w' := by
  have H1 := Lib.hid h1
  have H2 := Lib.hid h2
  have HS1 := Lib.hid hs1
  have HS2 := Lib.hid hs2
  have HU := Lib.hid hU
  have HW := Lib.hid hW
  have l1 : (p1.map n118).length = p1.length := List.length_map _
  have l2 : (p2.map n118).length = p2.length := List.length_map _
  have L1 := Lib.hid l1
  have L2 := Lib.hid l2
  obtain ⟨out, hout⟩ : ∃ o, o = wr t ((p1.map n118 ++ p2.map n118).map lineS) := ⟨_, rfl⟩
  rw [← hout]
  have HOUT := Lib.hid hout
  clear h1 h2 hs1 hs2 hU hW l1 l2 hout
  have hne : out ≠ [] := by rw [HOUT.out]; unfold wr; simp
  have hsg : ∀ (w8 : World) (B1 B2 Ag : Option Addr) (d1 d2 cg : Nat), Below w.heap.size w w8 → (p1.length ≤ d1 ∧ Kd.C k118 w8 B1 p1.length (p1.map n118)) → (p2.length ≤ d2 ∧ Kd.C k118 w8 B2 p2.length (p2.map n118)) →
      Calls Tryd.prog 29 #[.pointer (some ⟨w8.heap.size, 0, none⟩), .slice Ag 0 cg] (w8.alloc (.cells #[.string (S t), .slice B1 p1.length d1, .slice B2 p2.length d2] 94)) fun e w' => ∃ A c, e = .returned (.tuple #[.slice A out.length c, .nilIface]) ∧ RB w' A out ∧ Below w8.heap.size w8 w' := fun w8 B1 B2 Ag d1 d2 cg hb r1 r2 => by
    have hb8 := (Below.refl w8.heap.size w8).alloc (Nat.le_refl _) (.cells #[.string (S t), .slice B1 p1.length d1, .slice B2 p2.length d2] 94)
    have hbw := hb.trans (hb8.mono hb.size)
    refine (nsign0 _ w8.heap.size t B1 B2 Ag d1 d2 cg (p1.map n118) (p2.map n118) (by rw [L1.out, L2.out]; exact heap_alloc_new _ _) (by rw [L1.out]; exact ⟨r1.1, Kd.C_below r1.2 hb8⟩) (by rw [L2.out]; exact ⟨r2.1, Kd.C_below r2.2 hb8⟩) HS1.out HS2.out (by rw [L1.out]; exact hn1) (by rw [L2.out]; exact hn2) ht ht10 (Utf8Tabs.below' HU.out hbw) (WhiteTab.below' HW.out hbw)).mono ?_
    rintro e w' ⟨v, rfl, hown, hb9⟩
    rw [← HOUT.out] at hown
    obtain ⟨A, c, rfl, hrb⟩ := rb_own hown hne
    exact ⟨A, c, rfl, hrb, hb8.trans (hb9.mono hb8.size)⟩
  have HSG := Lib.hid hsg
  clear hsg
  go_enter Tryd.func15, Tryd.ntmps15
  go_upto_block 0 with fail
  have hb1 := (Below.refl w.heap.size w).alloc (Nat.le_refl _) (.cells #[.string (S t), .slice A1 p1.length c1, .slice A2 p2.length c2] 40)
  have hx1 := heap_alloc_new w (.cells #[.string (S t), .slice A1 p1.length c1, .slice A2 p2.length c2] 40)
  generalize w.alloc (.cells #[.string (S t), .slice A1 p1.length c1, .slice A2 p2.length c2] 40) = W1 at *
  have hb2 := (Below.refl W1.heap.size W1).alloc (Nat.le_refl _) (.cells #[] 136)
  obtain ⟨d0, d1, d2, -, -, -⟩ := three ((hb2.block _ (blk_lt hx1)).trans hx1)
  have hB := hb1.trans (hb2.mono hb1.size)
  generalize W1.alloc (.cells #[] 136) = W2 at *
  have HB := Lib.hid hB
  have HC1 := Lib.hid (And.intro H1.out.1 (Kd.C_below H1.out.2 hB))
  have HC2 := Lib.hid (And.intro H2.out.1 (Kd.C_below H2.out.2 hB))
  clear hb1 hx1 hb2 hB
  refine wp_block ?_
  refine wp_loop (fun a' w' => a' = _ ∧ W2 = w') (fun _ _ => 0) ⟨rfl, rfl⟩ ?_
  rintro a' w' ⟨rfl, rfl⟩
  go_upto_region 7 with fail
  go_region_held3 (fun W => Below W2.heap.size W2 W ∧ W.cell? ⟨w.heap.size, 0, none⟩ = some (.string (S t)) ∧ W.cell? ⟨w.heap.size, 1, none⟩ = some (.slice A1 p1.length c1) ∧ W.cell? ⟨w.heap.size, 2, none⟩ = some (.slice A2 p2.length c2))
    (first | exact bsI (below_drew1 (Below.refl _ _)) d0 d1 d2 | exact bsI hq1 d0 d1 d2 | exact bsI hq2 d0 d1 d2 | exact bsI (hq2.alloc hq2.size _) d0 d1 d2 | exact bsI hq3 d0 d1 d2 | fail)
    (first
      | (go_at_call 30; with_reducible refine (outC p1 (by omega) A1 c1 _ ⟨HC1.out.1, Kd.C_below HC1.out.2 (‹Below W2.heap.size W2 _ ∧ _›).1⟩).mono ?_; rintro e w5 ⟨B1, e1, rfl, hl5, hc5, hb5⟩; have hq1 := (below_drew1 (Below.refl W2.heap.size W2)).trans (hb5.mono (below_drew1 (Below.refl W2.heap.size W2)).size))
      | (go_at_call 30; with_reducible refine (outC p2 (by omega) A2 c2 _ ⟨HC2.out.1, Kd.C_below HC2.out.2 hq1⟩).mono ?_; rintro e w6 ⟨B2, e2, rfl, hl6, hc6, hb6⟩; have hq2 := hq1.trans (hb6.mono hq1.size))
      | (go_at_call 29; with_reducible refine (HSG.out w6 B1 B2 _ e1 e2 _ (HB.out.trans (hq2.mono HB.out.size)) ⟨hl5, Kd.C_below hc5 hb6⟩ ⟨hl6, hc6⟩).mono ?_; rintro e w7 ⟨A7, c7, rfl, hrb, hb7⟩; have hq3 := hq2.trans (hb7.mono hq2.size)))
  have cv : ∀ n, (convert 65 9 (.slice A7 out.length c7)).run Tryd.prog (w7.drewN n) = .ok (.string (S out)) (w7.drewN n) := fun n => (hrb.drewN n).str c7
  go_wp2_with fail
  go_quiet (fail)
  go_wp2_with fail
  go_ret2
  exact ⟨rfl, pw_below_drewN (HB.out.trans (hq3.mono HB.out.size)) _⟩
end Go.Proofs.YtkbegfihdpiacaaDoor.PX

namespace Go.Proofs.YtkbegfihdpiacaaDoor.PX
open Go.RowKit Go.Proofs.YtkbegfihdpiacaaDoorW.PrintWords Go.Proofs.YtkbegfihdpiacaaDoorW.PrintLast Go.Proofs.YtkbegfihdpiacaaDoorW.PrintMore
attribute [local go_sem] max2_int min2_int max_two min_two max_three min_three max_four min_four   -- for this text's walks alone
set_option linter.unusedVariables false
set_option linter.unusedSimpArgs false
mutual
def spec_Small.j0 : Nat → List (S83) → Bool → ByteArray → List (S37) → List (S37) → Option (Bool)
  | 0, _, _, _, _, _ => none
  | k + 1, x1, x29, x371000, x371001, x371002 => if x29 = true then (some false) else ((some (([] : List (S37)) : List (S37))).bind fun y371 => (if y371.length + x371001.length < 3518437208883 then ((some (y371 ++ x371001 : List (S37))).bind fun y374 => (if y374.length + x371002.length < 3518437208883 then ((some (y374 ++ x371002 : List (S37))).bind fun y377 => (spec_Small.l0 k x1 y377 (y377.length : Int) 0)) else (none))) else (none)))
def spec_Small.l0 : Nat → List (S83) → List (S37) → Int → Int → Option (Bool)
  | 0, _, _, _, _ => none
  | k + 1, x1, x36, x37, x38 => if x38 < x37 then (if 0 ≤ x38 then (if x38 < (x36.length : Int) then (if (((rd_T37 x36 x38).f0).size : Int) > 60 then (some false) else (if (((rd_T37 x36 x38).f2).size : Int) > 120 then (some false) else (spec_Small.l0 k x1 x36 x37 (wrap64 (x38 + 1))))) else (none)) else (none)) else (spec_Small.l1 k x1 (x1.length : Int) 0)
def spec_Small.l1 : Nat → List (S83) → Int → Int → Option (Bool)
  | 0, _, _, _ => none
  | k + 1, x53, x54, x55 => if x55 < x54 then (if 0 ≤ x55 then (if x55 < (x53.length : Int) then (if (((rd_T83 x53 x55).f0).size : Int) > 60 then (some false) else (if (((rd_T83 x53 x55).f2).size : Int) > 60 then (some false) else (spec_Small.l1 k x53 x54 (wrap64 (x55 + 1))))) else (none)) else (none)) else (some true)
end
def spec_Small.f (k : Nat) (a0_0 : ByteArray) (l0_1 : List (S37)) (l0_2 : List (S37)) (l1 : List (S83)) : Option (Bool) := if (a0_0.size : Int) > 2000 then (spec_Small.j0 k l1 true a0_0 l0_1 l0_2) else (if (l0_1.length : Int) > 8 then (spec_Small.j0 k l1 true a0_0 l0_1 l0_2) else (if (l0_2.length : Int) > 8 then (spec_Small.j0 k l1 true a0_0 l0_1 l0_2) else (spec_Small.j0 k l1 (decide ((l1.length : Int) > 8)) a0_0 l0_1 l0_2)))
theorem spec_Small.mono_l : ∀ k, (∀ y0 y1 y2 y3 y4, LeO (spec_Small.j0 k y0 y1 y2 y3 y4) (spec_Small.j0 (k + 1) y0 y1 y2 y3 y4)) ∧ (∀ y0 y1 y2 y3, LeO (spec_Small.l0 k y0 y1 y2 y3) (spec_Small.l0 (k + 1) y0 y1 y2 y3)) ∧ (∀ y0 y1 y2, LeO (spec_Small.l1 k y0 y1 y2) (spec_Small.l1 (k + 1) y0 y1 y2))
  | 0 => ⟨fun _ _ _ _ _ r h => by simp [spec_Small.j0] at h, fun _ _ _ _ r h => by simp [spec_Small.l0] at h, fun _ _ _ r h => by simp [spec_Small.l1] at h⟩
  | k + 1 => by
    obtain ⟨ih0, ih1, ih2⟩ := spec_Small.mono_l k
    refine ⟨?_, ?_, ?_⟩
    · intro y0 y1 y2 y3 y4
      unfold spec_Small.j0
      repeat' first
      | (with_reducible exact ih0 _ _ _ _ _)
      | (with_reducible exact ih1 _ _ _ _)
      | (with_reducible exact ih2 _ _ _)
      | (with_reducible exact LeO.refl _)
      | (with_reducible exact LeO.none _)
      | (with_reducible refine LeO.ite ?_ ?_)
      | (with_reducible refine LeO.bind ?_ (fun _ => ?_))
      | exact ih0 _ _ _ _ _
      | exact ih1 _ _ _ _
      | exact ih2 _ _ _
      | exact LeO.none _
      | refine LeO.ite ?_ ?_
      | refine LeO.bind ?_ (fun _ => ?_)
    · intro y0 y1 y2 y3
      unfold spec_Small.l0
      repeat' first
      | (with_reducible exact ih0 _ _ _ _ _)
      | (with_reducible exact ih1 _ _ _ _)
      | (with_reducible exact ih2 _ _ _)
      | (with_reducible exact LeO.refl _)
      | (with_reducible exact LeO.none _)
      | (with_reducible refine LeO.ite ?_ ?_)
      | (with_reducible refine LeO.bind ?_ (fun _ => ?_))
      | exact ih0 _ _ _ _ _
      | exact ih1 _ _ _ _
      | exact ih2 _ _ _
      | exact LeO.none _
      | refine LeO.ite ?_ ?_
      | refine LeO.bind ?_ (fun _ => ?_)
    · intro y0 y1 y2
      unfold spec_Small.l1
      repeat' first
      | (with_reducible exact ih0 _ _ _ _ _)
      | (with_reducible exact ih1 _ _ _ _)
      | (with_reducible exact ih2 _ _ _)
      | (with_reducible exact LeO.refl _)
      | (with_reducible exact LeO.none _)
      | (with_reducible refine LeO.ite ?_ ?_)
      | (with_reducible refine LeO.bind ?_ (fun _ => ?_))
      | exact ih0 _ _ _ _ _
      | exact ih1 _ _ _ _
      | exact ih2 _ _ _
      | exact LeO.none _
      | refine LeO.ite ?_ ?_
      | refine LeO.bind ?_ (fun _ => ?_)
theorem spec_Small.mono : ∀ a0 a1 a2 a3 k, LeO (spec_Small.f k a0 a1 a2 a3) (spec_Small.f (k + 1) a0 a1 a2 a3) := by
  intro a0 a1 a2 a3 k
  obtain ⟨ih0, ih1, ih2⟩ := spec_Small.mono_l k
  unfold spec_Small.f
  repeat' first
      | (with_reducible exact ih0 _ _ _ _ _)
      | (with_reducible exact ih1 _ _ _ _)
      | (with_reducible exact ih2 _ _ _)
      | (with_reducible exact LeO.refl _)
      | (with_reducible exact LeO.none _)
      | (with_reducible refine LeO.ite ?_ ?_)
      | (with_reducible refine LeO.bind ?_ (fun _ => ?_))
      | exact ih0 _ _ _ _ _
      | exact ih1 _ _ _ _
      | exact ih2 _ _ _
      | exact LeO.none _
      | refine LeO.ite ?_ ?_
      | refine LeO.bind ?_ (fun _ => ?_)
def spec_Small.T3 : Bool × List (List Nat × List Nat) := (true, [([], []), ([], []), ([1], [1]), ([0, 2], [0, 2]), ([], []), ([4], [4]), ([3, 5, 3], [3, 5]), ([6], [6]), ([], [])])
def spec_Small.B3 : List Nat := [0, 0, 2, 7, 0, 16, 63, 127, 0]
theorem spec_Small.tab3 : rtab .any (opsOf Tryd.f14 3) = spec_Small.T3 := by kernel_rfl
theorem spec_Small.bits3 : waitsOk spec_Small.T3.2 spec_Small.B3 = true := by kernel_rfl
set_option maxHeartbeats 8000000 in
set_option maxRecDepth 100000 in
theorem spec_Small.calls (k : Nat) (a0_0 : ByteArray) (A0_1 : Option Addr) (c0_1 : Nat) (l0_1 : List (S37)) (A0_2 : Option Addr) (c0_2 : Nat) (l0_2 : List (S37)) (A1 : Option Addr) (c1 : Nat) (l1 : List (S83)) (r : Bool) (w : World) (hr0_1 : Kd.C k37 w A0_1 l0_1.length l0_1) (hc0_1 : l0_1.length ≤ c0_1) (hr0_2 : Kd.C k37 w A0_2 l0_2.length l0_2) (hc0_2 : l0_2.length ≤ c0_2) (hr1 : Kd.C k83 w A1 l1.length l1) (hc1 : l1.length ≤ c1) (h : spec_Small.f k a0_0 l0_1 l0_2 l1 = some r) :
    Calls Tryd.prog 14 #[.agg #[.string a0_0, .slice A0_1 l0_1.length c0_1, .slice A0_2 l0_2.length c0_2], .slice A1 l1.length c1] w fun e w' => e = .returned (.bool r) ∧ Below w.heap.size w w' := by
  have hu27 := Tryd.underlying27
  have hu37 := Tryd.underlying37
  have hu83 := Tryd.underlying83
  have HR0_1 := Aside0.mk hr0_1
  have HC0_1 := Aside0.mk hc0_1
  clear hr0_1 hc0_1
  have HR0_2 := Aside0.mk hr0_2
  have HC0_2 := Aside0.mk hc0_2
  clear hr0_2 hc0_2
  have HR1 := Aside0.mk hr1
  have HC1 := Aside0.mk hc1
  clear hr1 hc1
  have HB := Aside0.mk (Below.refl w.heap.size w)
  have H : (if (a0_0.size : Int) > 2000 then (spec_Small.j0 k l1 true a0_0 l0_1 l0_2) else (if (l0_1.length : Int) > 8 then (spec_Small.j0 k l1 true a0_0 l0_1 l0_2) else (if (l0_2.length : Int) > 8 then (spec_Small.j0 k l1 true a0_0 l0_1 l0_2) else (spec_Small.j0 k l1 (decide ((l1.length : Int) > 8)) a0_0 l0_1 l0_2)))) = some r := h
  clear h
  have HC3 := Aside0.mk H
  clear H
  go_enter Tryd.func14, Tryd.ntmps14
  go_upto_region 1 with (first | ((with_reducible refine gate_dst (N := 2) rfl ?_); (try (refine gate_guard (by rfl) ?_; dsimp only)); refine box_event ?hg (N := 2) ?hd (cs := #[.string a0_0, .slice A0_1 l0_1.length c0_1, .slice A0_2 l0_2.length c0_2]) (t := 27) ?hr ?_; (case hd => rfl); (case hg => rfl); (case hr => first | (go_simp; done) | (go_simp; rfl)); intro gb370 hg w4 hbox hb; have n0_ := Aside0.mk (below_step (by repeat (first | (with_reducible first | exact HB.out | apply below_alloc | apply pw_below_drewN | apply below_drew1) | exact HB.out)) hb); have n1_ := Aside0.mk (hbox); have n2_ := Aside0.mk ((by rw [hg]; exact (below_size (by repeat (first | (with_reducible first | exact HB.out | apply below_alloc | apply pw_below_drewN | apply below_drew1) | exact HB.out))) : w.heap.size ≤ gb370)); have n3_ := Aside0.mk ((by rw [hg]; exact (below_size (by repeat (first | (with_reducible first | exact HB.out | apply below_alloc | apply pw_below_drewN | apply below_drew1) | exact HB.out))) : w.heap.size ≤ gb370)); clear HB; have HB := n0_; have BK370 := n1_; have GW370 := n2_; have GE370 := n3_; clear n0_ n1_ n2_ n3_; clear hb hbox hg))
  (try simp only [Act.put, List.setIfInBounds_toArray, List.set_cons_zero, List.set_cons_succ])
  go_cut [29] (fun v29 wc => ∃ (kq : Nat) (x29_2 : Bool), v29 = .bool x29_2 ∧ Aside0 (spec_Small.j0 kq l1 x29_2 a0_0 l0_1 l0_2 = some r) ∧ Aside0 (kq ≤ k) ∧ Aside0 (wc.heap[gb370]? = some (.cells #[.string a0_0, (.slice A0_1 l0_1.length c0_1), (.slice A0_2 l0_2.length c0_2)] 27 (0, 0))) ∧ Aside0 (Below w.heap.size w wc))
  case first =>
    have H := HC3.out
    clear HC3
    by_cases c5 : (a0_0.size : Int) > 2000
    · rw [if_pos c5] at H
      have c5b0 : decide (2000 < (a0_0.size : Int)) = true := decide_eq_true c5
      have c5b1 : decide (2000 < a0_0.size) = true := decide_eq_true (by omega)
      clear c5
      (first | rw [c5b0] | (simp only [i64_w, i32_w]; rw [c5b0]) | skip)
      have H' := Aside0.mk H
      clear H
      have hcz6_0 : w4.cell? ⟨gb370, 0, none⟩ = some (.string a0_0) := (blk_cell BK370.out 0).trans rfl
      have hcz6_1 : w4.cell? ⟨gb370, 1, none⟩ = some (.slice A0_1 l0_1.length c0_1) := (blk_cell BK370.out 1).trans rfl
      have hcz6_2 : w4.cell? ⟨gb370, 2, none⟩ = some (.slice A0_2 l0_2.length c0_2) := (blk_cell BK370.out 2).trans rfl
      have hfz6_0 := blk_frozen BK370.out 0
      have hfz6_1 := blk_frozen BK370.out 1
      have hfz6_2 := blk_frozen BK370.out 2
      go_wp2
      go_meet
      case rel => exact ⟨_, (true), (by first | rfl | (simp; done) | (simp [*]; done)), H', ⟨by first | omega | exact Nat.le_refl _⟩, ⟨by (with_reducible repeat (first | refine blk_drewN ?_ _ | refine blk_drew ?_ | refine blk_alloc ?_ _)); exact BK370.out⟩, ⟨by repeat (first | (with_reducible first | exact HB.out | apply below_alloc | apply pw_below_drewN | apply below_drew1 | refine below_set ?_ GE370.out) | exact HB.out)⟩⟩
    · rw [if_neg c5] at H
      have c5b0 : decide (2000 < (a0_0.size : Int)) = false := decide_eq_false c5
      have c5b1 : decide (2000 < a0_0.size) = false := decide_eq_false (by omega)
      clear c5
      (first | rw [c5b0] | (simp only [i64_w, i32_w]; rw [c5b0]) | skip)
      by_cases c7 : (l0_1.length : Int) > 8
      · rw [if_pos c7] at H
        have c7b0 : decide (8 < (l0_1.length : Int)) = true := decide_eq_true c7
        have c7b1 : decide (8 < l0_1.length) = true := decide_eq_true (by omega)
        clear c7
        have H' := Aside0.mk H
        clear H
        have hcz8_0 : w4.cell? ⟨gb370, 0, none⟩ = some (.string a0_0) := (blk_cell BK370.out 0).trans rfl
        have hcz8_1 : w4.cell? ⟨gb370, 1, none⟩ = some (.slice A0_1 l0_1.length c0_1) := (blk_cell BK370.out 1).trans rfl
        have hcz8_2 : w4.cell? ⟨gb370, 2, none⟩ = some (.slice A0_2 l0_2.length c0_2) := (blk_cell BK370.out 2).trans rfl
        have hfz8_0 := blk_frozen BK370.out 0
        have hfz8_1 := blk_frozen BK370.out 1
        have hfz8_2 := blk_frozen BK370.out 2
        go_wp2
        go_meet
        case rel => exact ⟨_, (true), (by first | rfl | (simp; done) | (simp [*]; done)), H', ⟨by first | omega | exact Nat.le_refl _⟩, ⟨by (with_reducible repeat (first | refine blk_drewN ?_ _ | refine blk_drew ?_ | refine blk_alloc ?_ _)); exact BK370.out⟩, ⟨by repeat (first | (with_reducible first | exact HB.out | apply below_alloc | apply pw_below_drewN | apply below_drew1 | refine below_set ?_ GE370.out) | exact HB.out)⟩⟩
      · rw [if_neg c7] at H
        have c7b0 : decide (8 < (l0_1.length : Int)) = false := decide_eq_false c7
        have c7b1 : decide (8 < l0_1.length) = false := decide_eq_false (by omega)
        clear c7
        by_cases c9 : (l0_2.length : Int) > 8
        · rw [if_pos c9] at H
          have c9b0 : decide (8 < (l0_2.length : Int)) = true := decide_eq_true c9
          have c9b1 : decide (8 < l0_2.length) = true := decide_eq_true (by omega)
          clear c9
          have H' := Aside0.mk H
          clear H
          have hcz10_0 : w4.cell? ⟨gb370, 0, none⟩ = some (.string a0_0) := (blk_cell BK370.out 0).trans rfl
          have hcz10_1 : w4.cell? ⟨gb370, 1, none⟩ = some (.slice A0_1 l0_1.length c0_1) := (blk_cell BK370.out 1).trans rfl
          have hcz10_2 : w4.cell? ⟨gb370, 2, none⟩ = some (.slice A0_2 l0_2.length c0_2) := (blk_cell BK370.out 2).trans rfl
          have hfz10_0 := blk_frozen BK370.out 0
          have hfz10_1 := blk_frozen BK370.out 1
          have hfz10_2 := blk_frozen BK370.out 2
          go_wp2
          go_meet
          case rel => exact ⟨_, (true), (by first | rfl | (simp; done) | (simp [*]; done)), H', ⟨by first | omega | exact Nat.le_refl _⟩, ⟨by (with_reducible repeat (first | refine blk_drewN ?_ _ | refine blk_drew ?_ | refine blk_alloc ?_ _)); exact BK370.out⟩, ⟨by repeat (first | (with_reducible first | exact HB.out | apply below_alloc | apply pw_below_drewN | apply below_drew1 | refine below_set ?_ GE370.out) | exact HB.out)⟩⟩
        · rw [if_neg c9] at H
          have c9b0 : decide (8 < (l0_2.length : Int)) = false := decide_eq_false c9
          have c9b1 : decide (8 < l0_2.length) = false := decide_eq_false (by omega)
          clear c9
          have H' := Aside0.mk H
          clear H
          have hcz11_0 : w4.cell? ⟨gb370, 0, none⟩ = some (.string a0_0) := (blk_cell BK370.out 0).trans rfl
          have hcz11_1 : w4.cell? ⟨gb370, 1, none⟩ = some (.slice A0_1 l0_1.length c0_1) := (blk_cell BK370.out 1).trans rfl
          have hcz11_2 : w4.cell? ⟨gb370, 2, none⟩ = some (.slice A0_2 l0_2.length c0_2) := (blk_cell BK370.out 2).trans rfl
          have hfz11_0 := blk_frozen BK370.out 0
          have hfz11_1 := blk_frozen BK370.out 1
          have hfz11_2 := blk_frozen BK370.out 2
          go_wp2
          go_meet
          case rel => exact ⟨_, (decide ((l1.length : Int) > 8)), (by first | rfl | (simp; done) | (simp [*]; done)), H', ⟨by first | omega | exact Nat.le_refl _⟩, ⟨by (with_reducible repeat (first | refine blk_drewN ?_ _ | refine blk_drew ?_ | refine blk_alloc ?_ _)); exact BK370.out⟩, ⟨by repeat (first | (with_reducible first | exact HB.out | apply below_alloc | apply pw_below_drewN | apply below_drew1 | refine below_set ?_ GE370.out) | exact HB.out)⟩⟩
  case rest =>
    clear HC3
    try clear c1
    try clear p2
    try clear c5
    try clear c5b0
    try clear c5b1
    try clear c7
    try clear c7b0
    try clear c7b1
    try clear c9
    try clear c9b0
    try clear c9b1
    try clear hcz10_0
    try clear hcz10_1
    try clear hcz10_2
    try clear hcz11_0
    try clear hcz11_1
    try clear hcz11_2
    try clear hcz6_0
    try clear hcz6_1
    try clear hcz6_2
    try clear hcz8_0
    try clear hcz8_1
    try clear hcz8_2
    try clear hfz10_0
    try clear hfz10_1
    try clear hfz10_2
    try clear hfz11_0
    try clear hfz11_1
    try clear hfz11_2
    try clear hfz6_0
    try clear hfz6_1
    try clear hfz6_2
    try clear hfz8_0
    try clear hfz8_1
    try clear hfz8_2
    obtain ⟨kq, x29_2, rfl, HA, HJ2, BK370, HB⟩ := hcut
    cases kq with
    | zero => exact absurd HA.out (by simp [spec_Small.j0])
    | succ kj2 =>
      have H := HA.out
      clear HA
      simp only [spec_Small.j0] at H
      by_cases c12 : x29_2 = true
      · subst c12
        have H1 : (some false) = some r := by rw [if_pos rfl] at H; exact H
        clear H
        have H := H1
        clear H1
        obtain rfl := Option.some.inj H
        go_wp2
        go_ret
        exact ⟨by first | rfl | (simp [errW_none, errW_some] <;> rfl) | (simp [*, errW_none, errW_some] <;> rfl), by repeat (first | (with_reducible first | exact HB.out | apply below_alloc | apply pw_below_drewN | apply below_drew1 | refine below_set ?_ GE370.out) | exact HB.out)⟩
      · replace c12 := Bool.eq_false_iff.mpr c12
        subst c12
        have H1 : ((some (([] : List (S37)) : List (S37))).bind fun y371 => (if y371.length + l0_1.length < 3518437208883 then ((some (y371 ++ l0_1 : List (S37))).bind fun y374 => (if y374.length + l0_2.length < 3518437208883 then ((some (y374 ++ l0_2 : List (S37))).bind fun y377 => (spec_Small.l0 kj2 l1 y377 (y377.length : Int) 0)) else (none))) else (none))) = some r := by rw [if_neg (show ¬ (false = true) by decide)] at H; exact H
        clear H
        have H := H1
        clear H1
        obtain ⟨y371, hy371⟩ : ∃ y_ : List (S37), y_ = (([] : List (S37))) := ⟨_, rfl⟩
        replace H : (if y371.length + l0_1.length < 3518437208883 then ((some (y371 ++ l0_1 : List (S37))).bind fun y374 => (if y374.length + l0_2.length < 3518437208883 then ((some (y374 ++ l0_2 : List (S37))).bind fun y377 => (spec_Small.l0 kj2 l1 y377 (y377.length : Int) 0)) else (none))) else (none)) = some r := by first | (rw [hy371]; with_reducible exact H) | (have H2_ := (Option.bind_some _ _).symm.trans H; rw [hy371]; with_reducible exact H2_) | (have H2_ := (Option.bind_some _ _).symm.trans H; with_reducible exact H2_) | with_reducible exact H | (rw [hy371]; exact H) | exact H
        have Ny371 := Aside0.mk hy371
        clear hy371
        by_cases c13 : y371.length + l0_1.length < 3518437208883
        · rw [if_pos c13] at H
          have LMc13 := Aside0.mk c13
          clear c13
          obtain ⟨y374, hy374⟩ : ∃ y_ : List (S37), y_ = (y371 ++ l0_1) := ⟨_, rfl⟩
          replace H : (if y374.length + l0_2.length < 3518437208883 then ((some (y374 ++ l0_2 : List (S37))).bind fun y377 => (spec_Small.l0 kj2 l1 y377 (y377.length : Int) 0)) else (none)) = some r := by first | (rw [hy374]; with_reducible exact H) | (have H2_ := (Option.bind_some _ _).symm.trans H; rw [hy374]; with_reducible exact H2_) | (have H2_ := (Option.bind_some _ _).symm.trans H; with_reducible exact H2_) | with_reducible exact H | (rw [hy374]; exact H) | exact H
          have Ny374 := Aside0.mk hy374
          clear hy374
          by_cases c14 : y374.length + l0_2.length < 3518437208883
          · rw [if_pos c14] at H
            have LMc14 := Aside0.mk c14
            clear c14
            obtain ⟨y377, hy377⟩ : ∃ y_ : List (S37), y_ = (y374 ++ l0_2) := ⟨_, rfl⟩
            replace H : (spec_Small.l0 kj2 l1 y377 (y377.length : Int) 0) = some r := by first | (rw [hy377]; with_reducible exact H) | (have H2_ := (Option.bind_some _ _).symm.trans H; rw [hy377]; with_reducible exact H2_) | (have H2_ := (Option.bind_some _ _).symm.trans H; with_reducible exact H2_) | with_reducible exact H | (rw [hy377]; exact H) | exact H
            have Ny377 := Aside0.mk hy377
            clear hy377
            have H' := Aside0.mk H
            clear H
            try go_wp2
            have n0_ := Aside0.mk (blk_drew BK370.out)
            have n1_ := Aside0.mk (below_drew1 HB.out)
            clear BK370
            clear HB
            have BK370 := n0_
            have HB := n1_
            clear n0_ n1_
            refine start_ (n := 9) (S := fun w' => w'.cell? ⟨gb370, 0, none⟩ = some (.string a0_0) ∧ w'.cell? ⟨gb370, 1, none⟩ = some (.slice A0_1 l0_1.length c0_1) ∧ w'.cell? ⟨gb370, 2, none⟩ = some (.slice A0_2 l0_2.length c0_2)) (ds := []) #[false, false, false, false, false, false, false, false, false] (by kernel_rfl) rfl rfl ⟨(blk_cell BK370.out 0).trans rfl, (blk_cell BK370.out 1).trans rfl, (blk_cell BK370.out 2).trans rfl⟩ (fun hHeld => ?_); refine with_tabW spec_Small.tab3 spec_Small.bits3 (fun HT_ HW_ => ?_)
            generalize wc.drew = w15 at BK370 HB hHeld ⊢
            refine pure_ (i := 1) (N := some 31) (v := ?_) (a' := ?_) #[false, true, false, false, false, false, false, false, false] rfl rfl (any_of HT_.out (by kernel_rfl)) (fun _ _ _ h => h) (Or.inl ⟨by rfl, ?_⟩) ?_ ?_
            rotate_left
            · intro w'
              go_simp
              with_reducible rfl
            rotate_left
            · simp only [Act.put, List.setIfInBounds_toArray, List.set_cons_zero, List.set_cons_succ, i64_w, i32_w]
              rfl
            refine pure_ (i := 4) (N := some 34) (v := ?_) (a' := ?_) #[false, true, false, false, true, false, false, false, false] rfl rfl (any_of HT_.out (by kernel_rfl)) (fun _ _ _ h => h) (Or.inl ⟨by rfl, ?_⟩) ?_ ?_
            rotate_left
            · intro w'
              go_simp
              with_reducible rfl
            rotate_left
            · simp only [Act.put, List.setIfInBounds_toArray, List.set_cons_zero, List.set_cons_succ, i64_w, i32_w]
              rfl
            refine pure_ (i := 8) (N := some 38) (v := ?_) (a' := ?_) #[false, true, false, false, true, false, false, false, true] rfl rfl (any_of HT_.out (by kernel_rfl)) (fun _ _ _ h => h) (Or.inl ⟨by rfl, ?_⟩) ?_ ?_
            rotate_left
            · intro w'
              go_simp
              with_reducible rfl
            rotate_left
            · simp only [Act.put, List.setIfInBounds_toArray, List.set_cons_zero, List.set_cons_succ, i64_w, i32_w]
              rfl
            refine take_ (i := 2) (N := some 32) (v := ?_) (a' := ?_) #[false, true, true, false, true, false, false, false, true] rfl rfl (take_ofW HT_.out HW_.out (by kernel_rfl)) (fun _ _ _ h => h) (Or.inl ⟨by rfl, ?_⟩) hHeld ?_ ?_
            rotate_left
            · rintro w' ⟨s0, s1, s2⟩
              go_simp
              with_reducible rfl
            rotate_left
            · simp only [Act.put, List.setIfInBounds_toArray, List.set_cons_zero, List.set_cons_succ, i64_w, i32_w]
              rfl
            refine take_ (i := 5) (N := some 35) (v := ?_) (a' := ?_) #[false, true, true, false, true, true, false, false, true] rfl rfl (take_ofW HT_.out HW_.out (by kernel_rfl)) (fun _ _ _ h => h) (Or.inl ⟨by rfl, ?_⟩) hHeld ?_ ?_
            rotate_left
            · rintro w' ⟨s0, s1, s2⟩
              go_simp
              with_reducible rfl
            rotate_left
            · simp only [Act.put, List.setIfInBounds_toArray, List.set_cons_zero, List.set_cons_succ, i64_w, i32_w]
              rfl
            refine one_ (i := 0) (N := some 30) #[true, true, true, false, true, true, false, false, true] rfl rfl (one_of HT_.out (by kernel_rfl)) (by decide) (fun K hK => ?_)
            refine Kd.R_lit_step k37 _ 37 ?hg (N := 30) ?hd (xs := ([] : List (S37))) (inner := []) (ok := fun _ => True) (okp := fun _ => True) ?hr ?hp (fun _ hk => hk) trivial (Below.refl _ _) (Nat.le_refl _) (by simp) ?_; (case hd => rfl); (case hg => rfl); (case hr => first | (go_simp; done) | (go_simp; rfl)); (case hp => exact (Reps.none _ _))
            intro v372 w16 ho17 hb hg_ hnew_
            clear hg_ hnew_
            (first | rw [← Ny371.out] at ho17 | (simp only [Int.reduceToNat] at ho17; rw [← Ny371.out] at ho17))
            have n0_ := Aside0.mk (Kd.R_lower ho17 (below_size (by repeat (first | (with_reducible first | exact HB.out | apply below_alloc | apply pw_below_drewN | apply below_drew1 | refine below_set ?_ GE370.out) | exact HB.out))))
            have n1_ := Aside0.mk (blk_below (g := gb370) (o := .cells #[.string a0_0, .slice A0_1 l0_1.length c0_1, .slice A0_2 l0_2.length c0_2] 27 (0, 0)) (by (with_reducible repeat (first | refine blk_drewN ?_ _ | refine blk_drew ?_ | refine blk_alloc ?_ _)); exact BK370.out) hb)
            have n2_ := Aside0.mk (below_step (by repeat (first | (with_reducible first | exact HB.out | apply below_alloc | apply pw_below_drewN | apply below_drew1 | refine below_set ?_ GE370.out) | exact HB.out)) hb)
            clear BK370
            clear HB
            have HO373 := n0_
            have BK370 := n1_
            have HB := n2_
            clear n0_ n1_ n2_
            clear hb ho17
            refine hK.out _ _ ⟨(blk_cell BK370.out 0).trans rfl, (blk_cell BK370.out 1).trans rfl, (blk_cell BK370.out 2).trans rfl⟩ (fun hHeld => ?_)
            clear hK K
            refine norm_ (a' := ?_) ?_ ?_
            rotate_left
            · show Act.put _ (some 30) _ = _
              simp only [Act.put, List.setIfInBounds_toArray, List.set_cons_zero, List.set_cons_succ, i64_w, i32_w]
              rfl
            refine one_ (i := 3) (N := some 33) #[true, true, true, true, true, true, false, false, true] rfl rfl (one_of HT_.out (by kernel_rfl)) (by decide) (fun K hK => ?_)
            refine Kd.R_append_rows_step k37 (w0 := w) w.heap.size (by rfl) (.tmp 30) (.tmp 32) 25 37 (.agg #[(.string ⟨#[]⟩), (.int .u32 0), (.string ⟨#[]⟩)]) 40 rfl Tryd.underlying25 info37 rfl (by decide) (by omega) v372 y371 l0_1 _ _ _ (fun _ => True) (fun _ => False) rfl rfl ?aO ?aR (fun _ _ h => h) (fun _ h => h.elim) ?aF ?aB ?aS ?aL ?_
            (case aR => repeat (first | exact (Kd.C_below HR0_1.out HB.out) | (with_reducible refine Kd.C_alloc ?_ _) | (with_reducible refine Kd.C_drewN ?_ _) | (with_reducible refine Kd.C_drew ?_)))
            (case aB => exact (by repeat (first | (with_reducible first | exact HB.out | apply below_alloc | apply pw_below_drewN | apply below_drew1 | refine below_set ?_ GE370.out) | exact HB.out)))
            (case aF => exact (fun _ _ => trivial))
            (case aO => exact (by (with_reducible repeat (first | apply Kd.R_alloc | apply Kd.R_drewN | apply Kd.R_drew)); exact HO373.out))
            (case aS => exact (below_size (by repeat (first | (with_reducible first | exact HB.out | apply below_alloc | apply pw_below_drewN | apply below_drew1 | refine below_set ?_ GE370.out) | exact HB.out))))
            (case aL => have := LMc13.out; omega)
            intro v375 w18 ho hb hg hat
            rw [← Ny374.out] at ho
            have n0_ := Aside0.mk (blk_grown (g := gb370) (o := .cells #[.string a0_0, .slice A0_1 l0_1.length c0_1, .slice A0_2 l0_2.length c0_2] 27 (0, 0)) (by (with_reducible repeat (first | refine blk_drewN ?_ _ | refine blk_drew ?_ | refine blk_alloc ?_ _)); exact BK370.out) hg (Kd.R_ne HO373.out BK370.out (by decide)))
            have n1_ := Aside0.mk (hb)
            have n2_ := Aside0.mk (ho)
            clear BK370
            clear HB
            clear HO373
            have BK370 := n0_
            have HB := n1_
            have HO376 := n2_
            clear n0_ n1_ n2_
            clear ho hb hg hat
            refine hK.out _ _ ⟨(blk_cell BK370.out 0).trans rfl, (blk_cell BK370.out 1).trans rfl, (blk_cell BK370.out 2).trans rfl⟩ (fun hHeld => ?_)
            clear hK K
            refine norm_ (a' := ?_) ?_ ?_
            rotate_left
            · show Act.put _ (some 33) _ = _
              simp only [Act.put, List.setIfInBounds_toArray, List.set_cons_zero, List.set_cons_succ, i64_w, i32_w]
              rfl
            refine one_ (i := 6) (N := some 36) #[true, true, true, true, true, true, true, false, true] rfl rfl (one_of HT_.out (by kernel_rfl)) (by decide) (fun K hK => ?_)
            refine Kd.R_append_rows_step k37 (w0 := w) w.heap.size (by rfl) (.tmp 33) (.tmp 35) 25 37 (.agg #[(.string ⟨#[]⟩), (.int .u32 0), (.string ⟨#[]⟩)]) 40 rfl Tryd.underlying25 info37 rfl (by decide) (by omega) v375 y374 l0_2 _ _ _ (fun _ => True) (fun _ => False) rfl rfl ?aO ?aR (fun _ _ h => h) (fun _ h => h.elim) ?aF ?aB ?aS ?aL ?_
            (case aR => repeat (first | exact (Kd.C_below HR0_2.out HB.out) | (with_reducible refine Kd.C_alloc ?_ _) | (with_reducible refine Kd.C_drewN ?_ _) | (with_reducible refine Kd.C_drew ?_)))
            (case aB => exact (by repeat (first | (with_reducible first | exact HB.out | apply below_alloc | apply pw_below_drewN | apply below_drew1 | refine below_set ?_ GE370.out) | exact HB.out)))
            (case aF => exact (fun _ _ => trivial))
            (case aO => exact (by (with_reducible repeat (first | apply Kd.R_alloc | apply Kd.R_drewN | apply Kd.R_drew)); exact HO376.out))
            (case aS => exact (below_size (by repeat (first | (with_reducible first | exact HB.out | apply below_alloc | apply pw_below_drewN | apply below_drew1 | refine below_set ?_ GE370.out) | exact HB.out))))
            (case aL => have := LMc14.out; omega)
            intro v378 w19 ho hb hg hat
            rw [← Ny377.out] at ho
            have n0_ := Aside0.mk (blk_grown (g := gb370) (o := .cells #[.string a0_0, .slice A0_1 l0_1.length c0_1, .slice A0_2 l0_2.length c0_2] 27 (0, 0)) (by (with_reducible repeat (first | refine blk_drewN ?_ _ | refine blk_drew ?_ | refine blk_alloc ?_ _)); exact BK370.out) hg (Kd.R_ne HO376.out BK370.out (by decide)))
            have n1_ := Aside0.mk (hb)
            have n2_ := Aside0.mk (ho)
            clear BK370
            clear HB
            clear HO376
            have BK370 := n0_
            have HB := n1_
            have HO379 := n2_
            clear n0_ n1_ n2_
            clear ho hb hg hat
            obtain ⟨Ao20, co20, eo20⟩ := Kd.R_slice HO379.out
            (first | subst eo20 | (injection eo20 with f1_ f2_ f3_; have f4_ := f1_.symm; have f5_ := f3_.symm; clear f1_ f2_ f3_; subst f4_; subst f5_))
            refine hK.out _ _ ⟨(blk_cell BK370.out 0).trans rfl, (blk_cell BK370.out 1).trans rfl, (blk_cell BK370.out 2).trans rfl⟩ (fun hHeld => ?_)
            clear hK K
            refine norm_ (a' := ?_) ?_ ?_
            rotate_left
            · show Act.put _ (some 36) _ = _
              simp only [Act.put, List.setIfInBounds_toArray, List.set_cons_zero, List.set_cons_succ, i64_w, i32_w]
              rfl
            refine pure_ (i := 7) (N := some 37) (v := ?_) (a' := ?_) #[true, true, true, true, true, true, true, true, true] rfl rfl (any_of HT_.out (by kernel_rfl)) (fun _ _ _ h => h) (Or.inl ⟨by rfl, ?_⟩) ?_ ?_
            rotate_left
            · intro w'
              go_simp
              with_reducible rfl
            rotate_left
            · simp only [Act.put, List.setIfInBounds_toArray, List.set_cons_zero, List.set_cons_succ, i64_w, i32_w]
              rfl
            refine done_ (done_of HT_.out (by kernel_rfl)) ?_
            try go_wp2
            go_loopg [38] kj2 (fun kq v38 w' => ∃ (x38_2 : Int), v38 = .int .i64 x38_2 ∧ Aside0 (spec_Small.l0 kq l1 y377 (y377.length : Int) x38_2 = some r) ∧ Aside0 (kq ≤ kj2) ∧ Aside0 (Kd.R k37 37 w' w.heap.size (fun _ => True) (.slice Ao20 y377.length co20) y377) ∧ Aside0 (w'.heap[gb370]? = some (.cells #[.string a0_0, (.slice A0_1 l0_1.length c0_1), (.slice A0_2 l0_2.length c0_2)] 27 (0, 0))) ∧ Aside0 (Below w.heap.size w w'))
            case atStart => exact ⟨(0), (by first | rfl | (simp; done) | (simp [*]; done)), H', ⟨Nat.le_refl _⟩, ⟨by (with_reducible repeat (first | apply Kd.R_alloc | apply Kd.R_drewN | apply Kd.R_drew)); exact HO379.out⟩, ⟨by (with_reducible repeat (first | refine blk_drewN ?_ _ | refine blk_drew ?_ | refine blk_alloc ?_ _)); exact BK370.out⟩, ⟨by repeat (first | (with_reducible first | exact HB.out | apply below_alloc | apply pw_below_drewN | apply below_drew1 | refine below_set ?_ GE370.out) | exact HB.out)⟩⟩
            case round =>
              clear H'
              try clear c1
              try clear p2
              try clear c5
              try clear c5b0
              try clear c5b1
              try clear c7
              try clear c7b0
              try clear c7b1
              try clear c9
              try clear c9b0
              try clear c9b1
              try clear c12
              try clear c13
              try clear c14
              try clear hcz10_0
              try clear hcz10_1
              try clear hcz10_2
              try clear hcz11_0
              try clear hcz11_1
              try clear hcz11_2
              try clear hcz6_0
              try clear hcz6_1
              try clear hcz6_2
              try clear hcz8_0
              try clear hcz8_1
              try clear hcz8_2
              try clear hfz10_0
              try clear hfz10_1
              try clear hfz10_2
              try clear hfz11_0
              try clear hfz11_1
              try clear hfz11_2
              try clear hfz6_0
              try clear hfz6_1
              try clear hfz6_2
              try clear hfz8_0
              try clear hfz8_1
              try clear hfz8_2
              try clear p2
              obtain ⟨x38_2, rfl, HA, HK2, HO_36, BK370, HB⟩ := hrel
              cases gk with
              | zero => exact absurd HA.out (by simp [spec_Small.l0])
              | succ k2 =>
                have H := HA.out
                clear HA
                simp only [spec_Small.l0] at H
                by_cases c21 : x38_2 < (y377.length : Int)
                · rw [if_pos c21] at H
                  have c21b0 : decide (x38_2 < (y377.length : Int)) = true := decide_eq_true c21
                  clear c21
                  by_cases c22 : 0 ≤ x38_2
                  · rw [if_pos c22] at H
                    have c22b0 : decide (0 ≤ x38_2) = true := decide_eq_true c22
                    clear c22
                    by_cases c23 : x38_2 < (y377.length : Int)
                    · rw [if_pos c23] at H
                      have c23b0 : decide (x38_2 < (y377.length : Int)) = true := decide_eq_true c23
                      clear c23
                      by_cases c24 : (((rd_T37 y377 x38_2).f0).size : Int) > 60
                      · rw [if_pos c24] at H
                        have c24b0 : decide (60 < (((rd_T37 y377 x38_2).f0).size : Int)) = true := decide_eq_true c24
                        have c24b1 : decide (60 < ((rd_T37 y377 x38_2).f0).size) = true := decide_eq_true (by omega)
                        clear c24
                        obtain rfl := Option.some.inj H
                        have p380 : 0 ≤ (x38_2 : Int) := of_decide_eq_true (by first | (with_reducible assumption) | assumption)
                        have q380 : x38_2 < (y377.length : Int) := of_decide_eq_true (by first | (with_reducible assumption) | assumption)
                        obtain ⟨ad380, e380, hx380_0, hx380_1, hx380_2⟩ := at_T37 (Kd.R_reads' HO_36.out).2.2 x38_2 p380 q380
                        cases e380
                        replace p380 := eq_true p380
                        replace q380 := eq_true q380
                        go_wp2_with (first | ((with_reducible refine gate_dst (N := 6) rfl ?_); (try (refine gate_guard (by rfl) ?_; dsimp only)); refine box_event ?hg (N := 6) ?hd (cs := #[.string (⟨#[]⟩ : ByteArray), .int .u32 0, .string (⟨#[]⟩ : ByteArray)]) (t := 37) ?hr ?_; (case hd => rfl); (case hg => rfl); (case hr => first | (go_simp; done) | (go_simp; rfl)); intro gb381 hg w25 hbox hb; have n0_ := Aside0.mk (Kd.R_below (Kd.R_elderB (by (with_reducible repeat (first | apply Kd.R_alloc | apply Kd.R_drewN | apply Kd.R_drew)); exact HO_36.out) gb381 (Nat.le_of_eq hg.symm)) hb); have n1_ := Aside0.mk (blk_below (g := gb370) (o := .cells #[.string a0_0, .slice A0_1 l0_1.length c0_1, .slice A0_2 l0_2.length c0_2] 27 (0, 0)) (by (with_reducible repeat (first | refine blk_drewN ?_ _ | refine blk_drew ?_ | refine blk_alloc ?_ _)); exact BK370.out) hb); have n2_ := Aside0.mk (below_step (by repeat (first | (with_reducible first | exact HB.out | apply below_alloc | apply pw_below_drewN | apply below_drew1 | refine below_set ?_ GE370.out) | exact HB.out)) hb); have n3_ := Aside0.mk (hbox); have n4_ := Aside0.mk ((by rw [hg]; exact (below_size (by repeat (first | (with_reducible first | exact HB.out | apply below_alloc | apply pw_below_drewN | apply below_drew1 | refine below_set ?_ GE370.out) | exact HB.out))) : w.heap.size ≤ gb381)); have n5_ := Aside0.mk ((by rw [hg]; exact (below_size (by repeat (first | (with_reducible first | exact HB.out | apply below_alloc | apply pw_below_drewN | apply below_drew1 | refine below_set ?_ GE370.out) | exact HB.out))) : w.heap.size ≤ gb381)); have n6_ := Aside0.mk ((by rw [hg]; exact Nat.ne_of_lt (blk_lt (g := gb370) (o := .cells #[.string a0_0, .slice A0_1 l0_1.length c0_1, .slice A0_2 l0_2.length c0_2] 27 (0, 0)) (by (with_reducible repeat (first | refine blk_drewN ?_ _ | refine blk_drew ?_ | refine blk_alloc ?_ _)); exact BK370.out)) : gb370 ≠ gb381)); have n7_ := Aside0.mk ((by rw [hg]; exact Nat.ne_of_gt (blk_lt (g := gb370) (o := .cells #[.string a0_0, .slice A0_1 l0_1.length c0_1, .slice A0_2 l0_2.length c0_2] 27 (0, 0)) (by (with_reducible repeat (first | refine blk_drewN ?_ _ | refine blk_drew ?_ | refine blk_alloc ?_ _)); exact BK370.out)) : gb381 ≠ gb370)); clear HO_36; clear BK370; clear HB; have HO_36 := n0_; have BK370 := n1_; have HB := n2_; have BK381 := n3_; have GW381 := n4_; have GE381 := n5_; have NB370_381 := n6_; have NB381_370 := n7_; clear n0_ n1_ n2_ n3_ n4_ n5_ n6_ n7_; clear hb hbox hg; have hnb26 := NB381_370.out; have hnc26 := NB370_381.out; have hcz27_0 : w25.cell? ⟨gb381, 0, none⟩ = some (.string (⟨#[]⟩ : ByteArray)) := (blk_cell BK381.out 0).trans rfl; have hcz27_1 : w25.cell? ⟨gb381, 1, none⟩ = some (.int .u32 0) := (blk_cell BK381.out 1).trans rfl; have hcz27_2 : w25.cell? ⟨gb381, 2, none⟩ = some (.string (⟨#[]⟩ : ByteArray)) := (blk_cell BK381.out 2).trans rfl; have hfz27_0 := blk_frozen BK381.out 0; have hfz27_1 := blk_frozen BK381.out 1; have hfz27_2 := blk_frozen BK381.out 2))
                        go_ret
                        exact ⟨by first | rfl | (simp [errW_none, errW_some] <;> rfl) | (simp [*, errW_none, errW_some] <;> rfl), by repeat (first | (with_reducible first | exact HB.out | apply below_alloc | apply pw_below_drewN | apply below_drew1 | refine below_set ?_ GE370.out | refine below_set ?_ GE381.out) | exact HB.out)⟩
                      · rw [if_neg c24] at H
                        have c24b0 : decide (60 < (((rd_T37 y377 x38_2).f0).size : Int)) = false := decide_eq_false c24
                        have c24b1 : decide (60 < ((rd_T37 y377 x38_2).f0).size) = false := decide_eq_false (by omega)
                        clear c24
                        by_cases c28 : (((rd_T37 y377 x38_2).f2).size : Int) > 120
                        · rw [if_pos c28] at H
                          have c28b0 : decide (120 < (((rd_T37 y377 x38_2).f2).size : Int)) = true := decide_eq_true c28
                          have c28b1 : decide (120 < ((rd_T37 y377 x38_2).f2).size) = true := decide_eq_true (by omega)
                          clear c28
                          obtain rfl := Option.some.inj H
                          have p380 : 0 ≤ (x38_2 : Int) := of_decide_eq_true (by first | (with_reducible assumption) | assumption)
                          have q380 : x38_2 < (y377.length : Int) := of_decide_eq_true (by first | (with_reducible assumption) | assumption)
                          obtain ⟨ad380, e380, hx380_0, hx380_1, hx380_2⟩ := at_T37 (Kd.R_reads' HO_36.out).2.2 x38_2 p380 q380
                          cases e380
                          replace p380 := eq_true p380
                          replace q380 := eq_true q380
                          go_wp2_with (first | ((with_reducible refine gate_dst (N := 6) rfl ?_); (try (refine gate_guard (by rfl) ?_; dsimp only)); refine box_event ?hg (N := 6) ?hd (cs := #[.string (⟨#[]⟩ : ByteArray), .int .u32 0, .string (⟨#[]⟩ : ByteArray)]) (t := 37) ?hr ?_; (case hd => rfl); (case hg => rfl); (case hr => first | (go_simp; done) | (go_simp; rfl)); intro gb381 hg w29 hbox hb; have n0_ := Aside0.mk (Kd.R_below (Kd.R_elderB (by (with_reducible repeat (first | apply Kd.R_alloc | apply Kd.R_drewN | apply Kd.R_drew)); exact HO_36.out) gb381 (Nat.le_of_eq hg.symm)) hb); have n1_ := Aside0.mk (blk_below (g := gb370) (o := .cells #[.string a0_0, .slice A0_1 l0_1.length c0_1, .slice A0_2 l0_2.length c0_2] 27 (0, 0)) (by (with_reducible repeat (first | refine blk_drewN ?_ _ | refine blk_drew ?_ | refine blk_alloc ?_ _)); exact BK370.out) hb); have n2_ := Aside0.mk (below_step (by repeat (first | (with_reducible first | exact HB.out | apply below_alloc | apply pw_below_drewN | apply below_drew1 | refine below_set ?_ GE370.out) | exact HB.out)) hb); have n3_ := Aside0.mk (hbox); have n4_ := Aside0.mk ((by rw [hg]; exact (below_size (by repeat (first | (with_reducible first | exact HB.out | apply below_alloc | apply pw_below_drewN | apply below_drew1 | refine below_set ?_ GE370.out) | exact HB.out))) : w.heap.size ≤ gb381)); have n5_ := Aside0.mk ((by rw [hg]; exact (below_size (by repeat (first | (with_reducible first | exact HB.out | apply below_alloc | apply pw_below_drewN | apply below_drew1 | refine below_set ?_ GE370.out) | exact HB.out))) : w.heap.size ≤ gb381)); have n6_ := Aside0.mk ((by rw [hg]; exact Nat.ne_of_lt (blk_lt (g := gb370) (o := .cells #[.string a0_0, .slice A0_1 l0_1.length c0_1, .slice A0_2 l0_2.length c0_2] 27 (0, 0)) (by (with_reducible repeat (first | refine blk_drewN ?_ _ | refine blk_drew ?_ | refine blk_alloc ?_ _)); exact BK370.out)) : gb370 ≠ gb381)); have n7_ := Aside0.mk ((by rw [hg]; exact Nat.ne_of_gt (blk_lt (g := gb370) (o := .cells #[.string a0_0, .slice A0_1 l0_1.length c0_1, .slice A0_2 l0_2.length c0_2] 27 (0, 0)) (by (with_reducible repeat (first | refine blk_drewN ?_ _ | refine blk_drew ?_ | refine blk_alloc ?_ _)); exact BK370.out)) : gb381 ≠ gb370)); clear HO_36; clear BK370; clear HB; have HO_36 := n0_; have BK370 := n1_; have HB := n2_; have BK381 := n3_; have GW381 := n4_; have GE381 := n5_; have NB370_381 := n6_; have NB381_370 := n7_; clear n0_ n1_ n2_ n3_ n4_ n5_ n6_ n7_; clear hb hbox hg; have hnb30 := NB381_370.out; have hnc30 := NB370_381.out; have hcz31_0 : w29.cell? ⟨gb381, 0, none⟩ = some (.string (⟨#[]⟩ : ByteArray)) := (blk_cell BK381.out 0).trans rfl; have hcz31_1 : w29.cell? ⟨gb381, 1, none⟩ = some (.int .u32 0) := (blk_cell BK381.out 1).trans rfl; have hcz31_2 : w29.cell? ⟨gb381, 2, none⟩ = some (.string (⟨#[]⟩ : ByteArray)) := (blk_cell BK381.out 2).trans rfl; have hfz31_0 := blk_frozen BK381.out 0; have hfz31_1 := blk_frozen BK381.out 1; have hfz31_2 := blk_frozen BK381.out 2))
                          go_ret
                          exact ⟨by first | rfl | (simp [errW_none, errW_some] <;> rfl) | (simp [*, errW_none, errW_some] <;> rfl), by repeat (first | (with_reducible first | exact HB.out | apply below_alloc | apply pw_below_drewN | apply below_drew1 | refine below_set ?_ GE370.out | refine below_set ?_ GE381.out) | exact HB.out)⟩
                        · rw [if_neg c28] at H
                          have c28b0 : decide (120 < (((rd_T37 y377 x38_2).f2).size : Int)) = false := decide_eq_false c28
                          have c28b1 : decide (120 < ((rd_T37 y377 x38_2).f2).size) = false := decide_eq_false (by omega)
                          clear c28
                          have H' := Aside0.mk H
                          clear H
                          have p380 : 0 ≤ (x38_2 : Int) := of_decide_eq_true (by first | (with_reducible assumption) | assumption)
                          have q380 : x38_2 < (y377.length : Int) := of_decide_eq_true (by first | (with_reducible assumption) | assumption)
                          obtain ⟨ad380, e380, hx380_0, hx380_1, hx380_2⟩ := at_T37 (Kd.R_reads' HO_36.out).2.2 x38_2 p380 q380
                          cases e380
                          replace p380 := eq_true p380
                          replace q380 := eq_true q380
                          go_wp2_with (first | ((with_reducible refine gate_dst (N := 6) rfl ?_); (try (refine gate_guard (by rfl) ?_; dsimp only)); refine box_event ?hg (N := 6) ?hd (cs := #[.string (⟨#[]⟩ : ByteArray), .int .u32 0, .string (⟨#[]⟩ : ByteArray)]) (t := 37) ?hr ?_; (case hd => rfl); (case hg => rfl); (case hr => first | (go_simp; done) | (go_simp; rfl)); intro gb381 hg w32 hbox hb; have n0_ := Aside0.mk (Kd.R_below (Kd.R_elderB (by (with_reducible repeat (first | apply Kd.R_alloc | apply Kd.R_drewN | apply Kd.R_drew)); exact HO_36.out) gb381 (Nat.le_of_eq hg.symm)) hb); have n1_ := Aside0.mk (blk_below (g := gb370) (o := .cells #[.string a0_0, .slice A0_1 l0_1.length c0_1, .slice A0_2 l0_2.length c0_2] 27 (0, 0)) (by (with_reducible repeat (first | refine blk_drewN ?_ _ | refine blk_drew ?_ | refine blk_alloc ?_ _)); exact BK370.out) hb); have n2_ := Aside0.mk (below_step (by repeat (first | (with_reducible first | exact HB.out | apply below_alloc | apply pw_below_drewN | apply below_drew1 | refine below_set ?_ GE370.out) | exact HB.out)) hb); have n3_ := Aside0.mk (hbox); have n4_ := Aside0.mk ((by rw [hg]; exact (below_size (by repeat (first | (with_reducible first | exact HB.out | apply below_alloc | apply pw_below_drewN | apply below_drew1 | refine below_set ?_ GE370.out) | exact HB.out))) : w.heap.size ≤ gb381)); have n5_ := Aside0.mk ((by rw [hg]; exact (below_size (by repeat (first | (with_reducible first | exact HB.out | apply below_alloc | apply pw_below_drewN | apply below_drew1 | refine below_set ?_ GE370.out) | exact HB.out))) : w.heap.size ≤ gb381)); have n6_ := Aside0.mk ((by rw [hg]; exact Nat.ne_of_lt (blk_lt (g := gb370) (o := .cells #[.string a0_0, .slice A0_1 l0_1.length c0_1, .slice A0_2 l0_2.length c0_2] 27 (0, 0)) (by (with_reducible repeat (first | refine blk_drewN ?_ _ | refine blk_drew ?_ | refine blk_alloc ?_ _)); exact BK370.out)) : gb370 ≠ gb381)); have n7_ := Aside0.mk ((by rw [hg]; exact Nat.ne_of_gt (blk_lt (g := gb370) (o := .cells #[.string a0_0, .slice A0_1 l0_1.length c0_1, .slice A0_2 l0_2.length c0_2] 27 (0, 0)) (by (with_reducible repeat (first | refine blk_drewN ?_ _ | refine blk_drew ?_ | refine blk_alloc ?_ _)); exact BK370.out)) : gb381 ≠ gb370)); clear HO_36; clear BK370; clear HB; have HO_36 := n0_; have BK370 := n1_; have HB := n2_; have BK381 := n3_; have GW381 := n4_; have GE381 := n5_; have NB370_381 := n6_; have NB381_370 := n7_; clear n0_ n1_ n2_ n3_ n4_ n5_ n6_ n7_; clear hb hbox hg; have hnb33 := NB381_370.out; have hnc33 := NB370_381.out; have hcz34_0 : w32.cell? ⟨gb381, 0, none⟩ = some (.string (⟨#[]⟩ : ByteArray)) := (blk_cell BK381.out 0).trans rfl; have hcz34_1 : w32.cell? ⟨gb381, 1, none⟩ = some (.int .u32 0) := (blk_cell BK381.out 1).trans rfl; have hcz34_2 : w32.cell? ⟨gb381, 2, none⟩ = some (.string (⟨#[]⟩ : ByteArray)) := (blk_cell BK381.out 2).trans rfl; have hfz34_0 := blk_frozen BK381.out 0; have hfz34_1 := blk_frozen BK381.out 1; have hfz34_2 := blk_frozen BK381.out 2))
                          go_roundg k2
                          case measure => have := HJ2.out; have := HK2.out; omega
                          case rel => exact ⟨(wrap64 (x38_2 + 1)), (by first | rfl | (simp; done) | (simp [*]; done)), H', ⟨by have := HJ2.out; have := HK2.out; omega⟩, ⟨by (with_reducible repeat (first | apply Kd.R_alloc | apply Kd.R_drewN | apply Kd.R_drew)); exact Kd.R_mono (Kd.R_far (p := ⟨gb381, 2, none⟩) (Kd.R_far (p := ⟨gb381, 1, none⟩) (Kd.R_far (p := ⟨gb381, 0, none⟩) (Kd.R_mono HO_36.out (fun k_ hk => (⟨hk, hk.2⟩ : _ ∧ k_ ≠ gb381))) (fun _ hk => hk.2) (.string ((rd_T37 y377 x38_2).f0))) (fun _ hk => hk.2) (.int .u32 ((rd_T37 y377 x38_2).f1))) (fun _ hk => hk.2) (.string ((rd_T37 y377 x38_2).f2))) (fun _ hk => trivial)⟩, ⟨by (with_reducible repeat (first | refine blk_drewN ?_ _ | refine blk_drew ?_ | refine blk_alloc ?_ _)); refine blk_far ?_ NB370_381.out _; (with_reducible repeat (first | refine blk_drewN ?_ _ | refine blk_drew ?_ | refine blk_alloc ?_ _)); refine blk_far ?_ NB370_381.out _; (with_reducible repeat (first | refine blk_drewN ?_ _ | refine blk_drew ?_ | refine blk_alloc ?_ _)); refine blk_far ?_ NB370_381.out _; (with_reducible repeat (first | refine blk_drewN ?_ _ | refine blk_drew ?_ | refine blk_alloc ?_ _)); exact BK370.out⟩, ⟨by repeat (first | (with_reducible first | exact HB.out | apply below_alloc | apply pw_below_drewN | apply below_drew1 | refine below_set ?_ GE370.out | refine below_set ?_ GE381.out) | exact HB.out)⟩⟩
                    · rw [if_neg c23] at H
                      exact absurd H (by simp)
                  · rw [if_neg c22] at H
                    exact absurd H (by simp)
                · rw [if_neg c21] at H
                  have c21b0 : decide (x38_2 < (y377.length : Int)) = false := decide_eq_false c21
                  clear c21
                  have H' := Aside0.mk H
                  clear H
                  go_wp2
                  go_loopg [55] k2 (fun kq v55 w' => ∃ (x55_3 : Int), v55 = .int .i64 x55_3 ∧ Aside0 (spec_Small.l1 kq l1 (l1.length : Int) x55_3 = some r) ∧ Aside0 (kq ≤ k2) ∧ Aside0 (w'.heap[gb370]? = some (.cells #[.string a0_0, (.slice A0_1 l0_1.length c0_1), (.slice A0_2 l0_2.length c0_2)] 27 (0, 0))) ∧ Aside0 (Below w.heap.size w w'))
                  case atStart => exact ⟨(0), (by first | rfl | (simp; done) | (simp [*]; done)), H', ⟨Nat.le_refl _⟩, ⟨by (with_reducible repeat (first | refine blk_drewN ?_ _ | refine blk_drew ?_ | refine blk_alloc ?_ _)); exact BK370.out⟩, ⟨by repeat (first | (with_reducible first | exact HB.out | apply below_alloc | apply pw_below_drewN | apply below_drew1 | refine below_set ?_ GE370.out) | exact HB.out)⟩⟩
                  case round =>
                    clear H'
                    try clear c1
                    try clear c2
                    try clear p2
                    try clear c3
                    try clear p3
                    try clear q3
                    try clear hx3
                    try clear c5
                    try clear c5b0
                    try clear c5b1
                    try clear p6
                    try clear c7
                    try clear c7b0
                    try clear c7b1
                    try clear c9
                    try clear c9b0
                    try clear c9b1
                    try clear c12
                    try clear c13
                    try clear c14
                    try clear c21
                    try clear c21b0
                    try clear c22
                    try clear c22b0
                    try clear c23
                    try clear c23b0
                    try clear c24
                    try clear c24b0
                    try clear c24b1
                    try clear c26
                    try clear c28
                    try clear c28b0
                    try clear c28b1
                    try clear c30
                    try clear c33
                    try clear hcz10_0
                    try clear hcz10_1
                    try clear hcz10_2
                    try clear hcz11_0
                    try clear hcz11_1
                    try clear hcz11_2
                    try clear hcz27_0
                    try clear hcz27_1
                    try clear hcz27_2
                    try clear hcz31_0
                    try clear hcz31_1
                    try clear hcz31_2
                    try clear hcz34_0
                    try clear hcz34_1
                    try clear hcz34_2
                    try clear hcz6_0
                    try clear hcz6_1
                    try clear hcz6_2
                    try clear hcz8_0
                    try clear hcz8_1
                    try clear hcz8_2
                    try clear hfz10_0
                    try clear hfz10_1
                    try clear hfz10_2
                    try clear hfz11_0
                    try clear hfz11_1
                    try clear hfz11_2
                    try clear hfz27_0
                    try clear hfz27_1
                    try clear hfz27_2
                    try clear hfz31_0
                    try clear hfz31_1
                    try clear hfz31_2
                    try clear hfz34_0
                    try clear hfz34_1
                    try clear hfz34_2
                    try clear hfz6_0
                    try clear hfz6_1
                    try clear hfz6_2
                    try clear hfz8_0
                    try clear hfz8_1
                    try clear hfz8_2
                    try clear hx380_0
                    try clear hx380_1
                    try clear hx380_2
                    try clear p2
                    try clear p380
                    try clear q380
                    obtain ⟨x55_3, rfl, HA, HK3, BK370, HB⟩ := hrel
                    cases gk with
                    | zero => exact absurd HA.out (by simp [spec_Small.l1])
                    | succ k3 =>
                      have H := HA.out
                      clear HA
                      simp only [spec_Small.l1] at H
                      by_cases c35 : x55_3 < (l1.length : Int)
                      · rw [if_pos c35] at H
                        have c35b0 : decide (x55_3 < (l1.length : Int)) = true := decide_eq_true c35
                        clear c35
                        by_cases c36 : 0 ≤ x55_3
                        · rw [if_pos c36] at H
                          have c36b0 : decide (0 ≤ x55_3) = true := decide_eq_true c36
                          clear c36
                          by_cases c37 : x55_3 < (l1.length : Int)
                          · rw [if_pos c37] at H
                            have c37b0 : decide (x55_3 < (l1.length : Int)) = true := decide_eq_true c37
                            clear c37
                            by_cases c38 : (((rd_T83 l1 x55_3).f0).size : Int) > 60
                            · rw [if_pos c38] at H
                              have c38b0 : decide (60 < (((rd_T83 l1 x55_3).f0).size : Int)) = true := decide_eq_true c38
                              have c38b1 : decide (60 < ((rd_T83 l1 x55_3).f0).size) = true := decide_eq_true (by omega)
                              clear c38
                              obtain rfl := Option.some.inj H
                              have p382 : 0 ≤ (x55_3 : Int) := of_decide_eq_true (by first | (with_reducible assumption) | assumption)
                              have q382 : x55_3 < (l1.length : Int) := of_decide_eq_true (by first | (with_reducible assumption) | assumption)
                              obtain ⟨ad382, e382, hx382_0, hx382_1, hx382_2, hx382_3⟩ := at_T83 HR1.out x55_3 p382 q382
                              cases e382
                              replace hx382_0 := (HB.out.cell (World.block_lt_of_cell? w _ hx382_0)).trans hx382_0
                              replace hx382_1 := (HB.out.cell (World.block_lt_of_cell? w _ hx382_1)).trans hx382_1
                              replace hx382_2 := (HB.out.cell (World.block_lt_of_cell? w _ hx382_2)).trans hx382_2
                              replace hx382_3 := (HB.out.cell (World.block_lt_of_cell? w _ hx382_3)).trans hx382_3
                              replace p382 := eq_true p382
                              replace q382 := eq_true q382
                              go_wp2_with (first | ((with_reducible refine gate_dst (N := 8) rfl ?_); (try (refine gate_guard (by rfl) ?_; dsimp only)); refine box_event ?hg (N := 8) ?hd (cs := #[.string (⟨#[]⟩ : ByteArray), .int .u32 0, .string (⟨#[]⟩ : ByteArray), .bool false]) (t := 83) ?hr ?_; (case hd => rfl); (case hg => rfl); (case hr => first | (go_simp; done) | (go_simp; rfl)); intro gb383 hg w39 hbox hb; have n0_ := Aside0.mk (blk_below (g := gb370) (o := .cells #[.string a0_0, .slice A0_1 l0_1.length c0_1, .slice A0_2 l0_2.length c0_2] 27 (0, 0)) (by (with_reducible repeat (first | refine blk_drewN ?_ _ | refine blk_drew ?_ | refine blk_alloc ?_ _)); exact BK370.out) hb); have n1_ := Aside0.mk (below_step (by repeat (first | (with_reducible first | exact HB.out | apply below_alloc | apply pw_below_drewN | apply below_drew1 | refine below_set ?_ GE370.out) | exact HB.out)) hb); have n2_ := Aside0.mk (hbox); have n3_ := Aside0.mk ((by rw [hg]; exact (below_size (by repeat (first | (with_reducible first | exact HB.out | apply below_alloc | apply pw_below_drewN | apply below_drew1 | refine below_set ?_ GE370.out) | exact HB.out))) : w.heap.size ≤ gb383)); have n4_ := Aside0.mk ((by rw [hg]; exact (below_size (by repeat (first | (with_reducible first | exact HB.out | apply below_alloc | apply pw_below_drewN | apply below_drew1 | refine below_set ?_ GE370.out) | exact HB.out))) : w.heap.size ≤ gb383)); have n5_ := Aside0.mk ((by rw [hg]; exact Nat.ne_of_lt (blk_lt (g := gb370) (o := .cells #[.string a0_0, .slice A0_1 l0_1.length c0_1, .slice A0_2 l0_2.length c0_2] 27 (0, 0)) (by (with_reducible repeat (first | refine blk_drewN ?_ _ | refine blk_drew ?_ | refine blk_alloc ?_ _)); exact BK370.out)) : gb370 ≠ gb383)); have n6_ := Aside0.mk ((by rw [hg]; exact Nat.ne_of_gt (blk_lt (g := gb370) (o := .cells #[.string a0_0, .slice A0_1 l0_1.length c0_1, .slice A0_2 l0_2.length c0_2] 27 (0, 0)) (by (with_reducible repeat (first | refine blk_drewN ?_ _ | refine blk_drew ?_ | refine blk_alloc ?_ _)); exact BK370.out)) : gb383 ≠ gb370)); clear BK370; clear HB; have BK370 := n0_; have HB := n1_; have BK383 := n2_; have GW383 := n3_; have GE383 := n4_; have NB370_383 := n5_; have NB383_370 := n6_; clear n0_ n1_ n2_ n3_ n4_ n5_ n6_; clear hb hbox hg; have hnb40 := NB383_370.out; have hnc40 := NB370_383.out; have hcz41_0 : w39.cell? ⟨gb383, 0, none⟩ = some (.string (⟨#[]⟩ : ByteArray)) := (blk_cell BK383.out 0).trans rfl; have hcz41_1 : w39.cell? ⟨gb383, 1, none⟩ = some (.int .u32 0) := (blk_cell BK383.out 1).trans rfl; have hcz41_2 : w39.cell? ⟨gb383, 2, none⟩ = some (.string (⟨#[]⟩ : ByteArray)) := (blk_cell BK383.out 2).trans rfl; have hcz41_3 : w39.cell? ⟨gb383, 3, none⟩ = some (.bool false) := (blk_cell BK383.out 3).trans rfl; have hfz41_0 := blk_frozen BK383.out 0; have hfz41_1 := blk_frozen BK383.out 1; have hfz41_2 := blk_frozen BK383.out 2; have hfz41_3 := blk_frozen BK383.out 3))
                              go_ret
                              exact ⟨by first | rfl | (simp [errW_none, errW_some] <;> rfl) | (simp [*, errW_none, errW_some] <;> rfl), by repeat (first | (with_reducible first | exact HB.out | apply below_alloc | apply pw_below_drewN | apply below_drew1 | refine below_set ?_ GE370.out | refine below_set ?_ GE383.out) | exact HB.out)⟩
                            · rw [if_neg c38] at H
                              have c38b0 : decide (60 < (((rd_T83 l1 x55_3).f0).size : Int)) = false := decide_eq_false c38
                              have c38b1 : decide (60 < ((rd_T83 l1 x55_3).f0).size) = false := decide_eq_false (by omega)
                              clear c38
                              by_cases c42 : (((rd_T83 l1 x55_3).f2).size : Int) > 60
                              · rw [if_pos c42] at H
                                have c42b0 : decide (60 < (((rd_T83 l1 x55_3).f2).size : Int)) = true := decide_eq_true c42
                                have c42b1 : decide (60 < ((rd_T83 l1 x55_3).f2).size) = true := decide_eq_true (by omega)
                                clear c42
                                obtain rfl := Option.some.inj H
                                have p382 : 0 ≤ (x55_3 : Int) := of_decide_eq_true (by first | (with_reducible assumption) | assumption)
                                have q382 : x55_3 < (l1.length : Int) := of_decide_eq_true (by first | (with_reducible assumption) | assumption)
                                obtain ⟨ad382, e382, hx382_0, hx382_1, hx382_2, hx382_3⟩ := at_T83 HR1.out x55_3 p382 q382
                                cases e382
                                replace hx382_0 := (HB.out.cell (World.block_lt_of_cell? w _ hx382_0)).trans hx382_0
                                replace hx382_1 := (HB.out.cell (World.block_lt_of_cell? w _ hx382_1)).trans hx382_1
                                replace hx382_2 := (HB.out.cell (World.block_lt_of_cell? w _ hx382_2)).trans hx382_2
                                replace hx382_3 := (HB.out.cell (World.block_lt_of_cell? w _ hx382_3)).trans hx382_3
                                replace p382 := eq_true p382
                                replace q382 := eq_true q382
                                go_wp2_with (first | ((with_reducible refine gate_dst (N := 8) rfl ?_); (try (refine gate_guard (by rfl) ?_; dsimp only)); refine box_event ?hg (N := 8) ?hd (cs := #[.string (⟨#[]⟩ : ByteArray), .int .u32 0, .string (⟨#[]⟩ : ByteArray), .bool false]) (t := 83) ?hr ?_; (case hd => rfl); (case hg => rfl); (case hr => first | (go_simp; done) | (go_simp; rfl)); intro gb383 hg w43 hbox hb; have n0_ := Aside0.mk (blk_below (g := gb370) (o := .cells #[.string a0_0, .slice A0_1 l0_1.length c0_1, .slice A0_2 l0_2.length c0_2] 27 (0, 0)) (by (with_reducible repeat (first | refine blk_drewN ?_ _ | refine blk_drew ?_ | refine blk_alloc ?_ _)); exact BK370.out) hb); have n1_ := Aside0.mk (below_step (by repeat (first | (with_reducible first | exact HB.out | apply below_alloc | apply pw_below_drewN | apply below_drew1 | refine below_set ?_ GE370.out) | exact HB.out)) hb); have n2_ := Aside0.mk (hbox); have n3_ := Aside0.mk ((by rw [hg]; exact (below_size (by repeat (first | (with_reducible first | exact HB.out | apply below_alloc | apply pw_below_drewN | apply below_drew1 | refine below_set ?_ GE370.out) | exact HB.out))) : w.heap.size ≤ gb383)); have n4_ := Aside0.mk ((by rw [hg]; exact (below_size (by repeat (first | (with_reducible first | exact HB.out | apply below_alloc | apply pw_below_drewN | apply below_drew1 | refine below_set ?_ GE370.out) | exact HB.out))) : w.heap.size ≤ gb383)); have n5_ := Aside0.mk ((by rw [hg]; exact Nat.ne_of_lt (blk_lt (g := gb370) (o := .cells #[.string a0_0, .slice A0_1 l0_1.length c0_1, .slice A0_2 l0_2.length c0_2] 27 (0, 0)) (by (with_reducible repeat (first | refine blk_drewN ?_ _ | refine blk_drew ?_ | refine blk_alloc ?_ _)); exact BK370.out)) : gb370 ≠ gb383)); have n6_ := Aside0.mk ((by rw [hg]; exact Nat.ne_of_gt (blk_lt (g := gb370) (o := .cells #[.string a0_0, .slice A0_1 l0_1.length c0_1, .slice A0_2 l0_2.length c0_2] 27 (0, 0)) (by (with_reducible repeat (first | refine blk_drewN ?_ _ | refine blk_drew ?_ | refine blk_alloc ?_ _)); exact BK370.out)) : gb383 ≠ gb370)); clear BK370; clear HB; have BK370 := n0_; have HB := n1_; have BK383 := n2_; have GW383 := n3_; have GE383 := n4_; have NB370_383 := n5_; have NB383_370 := n6_; clear n0_ n1_ n2_ n3_ n4_ n5_ n6_; clear hb hbox hg; have hnb44 := NB383_370.out; have hnc44 := NB370_383.out; have hcz45_0 : w43.cell? ⟨gb383, 0, none⟩ = some (.string (⟨#[]⟩ : ByteArray)) := (blk_cell BK383.out 0).trans rfl; have hcz45_1 : w43.cell? ⟨gb383, 1, none⟩ = some (.int .u32 0) := (blk_cell BK383.out 1).trans rfl; have hcz45_2 : w43.cell? ⟨gb383, 2, none⟩ = some (.string (⟨#[]⟩ : ByteArray)) := (blk_cell BK383.out 2).trans rfl; have hcz45_3 : w43.cell? ⟨gb383, 3, none⟩ = some (.bool false) := (blk_cell BK383.out 3).trans rfl; have hfz45_0 := blk_frozen BK383.out 0; have hfz45_1 := blk_frozen BK383.out 1; have hfz45_2 := blk_frozen BK383.out 2; have hfz45_3 := blk_frozen BK383.out 3))
                                go_ret
                                exact ⟨by first | rfl | (simp [errW_none, errW_some] <;> rfl) | (simp [*, errW_none, errW_some] <;> rfl), by repeat (first | (with_reducible first | exact HB.out | apply below_alloc | apply pw_below_drewN | apply below_drew1 | refine below_set ?_ GE370.out | refine below_set ?_ GE383.out) | exact HB.out)⟩
                              · rw [if_neg c42] at H
                                have c42b0 : decide (60 < (((rd_T83 l1 x55_3).f2).size : Int)) = false := decide_eq_false c42
                                have c42b1 : decide (60 < ((rd_T83 l1 x55_3).f2).size) = false := decide_eq_false (by omega)
                                clear c42
                                have H' := Aside0.mk H
                                clear H
                                have p382 : 0 ≤ (x55_3 : Int) := of_decide_eq_true (by first | (with_reducible assumption) | assumption)
                                have q382 : x55_3 < (l1.length : Int) := of_decide_eq_true (by first | (with_reducible assumption) | assumption)
                                obtain ⟨ad382, e382, hx382_0, hx382_1, hx382_2, hx382_3⟩ := at_T83 HR1.out x55_3 p382 q382
                                cases e382
                                replace hx382_0 := (HB.out.cell (World.block_lt_of_cell? w _ hx382_0)).trans hx382_0
                                replace hx382_1 := (HB.out.cell (World.block_lt_of_cell? w _ hx382_1)).trans hx382_1
                                replace hx382_2 := (HB.out.cell (World.block_lt_of_cell? w _ hx382_2)).trans hx382_2
                                replace hx382_3 := (HB.out.cell (World.block_lt_of_cell? w _ hx382_3)).trans hx382_3
                                replace p382 := eq_true p382
                                replace q382 := eq_true q382
                                go_wp2_with (first | ((with_reducible refine gate_dst (N := 8) rfl ?_); (try (refine gate_guard (by rfl) ?_; dsimp only)); refine box_event ?hg (N := 8) ?hd (cs := #[.string (⟨#[]⟩ : ByteArray), .int .u32 0, .string (⟨#[]⟩ : ByteArray), .bool false]) (t := 83) ?hr ?_; (case hd => rfl); (case hg => rfl); (case hr => first | (go_simp; done) | (go_simp; rfl)); intro gb383 hg w46 hbox hb; have n0_ := Aside0.mk (blk_below (g := gb370) (o := .cells #[.string a0_0, .slice A0_1 l0_1.length c0_1, .slice A0_2 l0_2.length c0_2] 27 (0, 0)) (by (with_reducible repeat (first | refine blk_drewN ?_ _ | refine blk_drew ?_ | refine blk_alloc ?_ _)); exact BK370.out) hb); have n1_ := Aside0.mk (below_step (by repeat (first | (with_reducible first | exact HB.out | apply below_alloc | apply pw_below_drewN | apply below_drew1 | refine below_set ?_ GE370.out) | exact HB.out)) hb); have n2_ := Aside0.mk (hbox); have n3_ := Aside0.mk ((by rw [hg]; exact (below_size (by repeat (first | (with_reducible first | exact HB.out | apply below_alloc | apply pw_below_drewN | apply below_drew1 | refine below_set ?_ GE370.out) | exact HB.out))) : w.heap.size ≤ gb383)); have n4_ := Aside0.mk ((by rw [hg]; exact (below_size (by repeat (first | (with_reducible first | exact HB.out | apply below_alloc | apply pw_below_drewN | apply below_drew1 | refine below_set ?_ GE370.out) | exact HB.out))) : w.heap.size ≤ gb383)); have n5_ := Aside0.mk ((by rw [hg]; exact Nat.ne_of_lt (blk_lt (g := gb370) (o := .cells #[.string a0_0, .slice A0_1 l0_1.length c0_1, .slice A0_2 l0_2.length c0_2] 27 (0, 0)) (by (with_reducible repeat (first | refine blk_drewN ?_ _ | refine blk_drew ?_ | refine blk_alloc ?_ _)); exact BK370.out)) : gb370 ≠ gb383)); have n6_ := Aside0.mk ((by rw [hg]; exact Nat.ne_of_gt (blk_lt (g := gb370) (o := .cells #[.string a0_0, .slice A0_1 l0_1.length c0_1, .slice A0_2 l0_2.length c0_2] 27 (0, 0)) (by (with_reducible repeat (first | refine blk_drewN ?_ _ | refine blk_drew ?_ | refine blk_alloc ?_ _)); exact BK370.out)) : gb383 ≠ gb370)); clear BK370; clear HB; have BK370 := n0_; have HB := n1_; have BK383 := n2_; have GW383 := n3_; have GE383 := n4_; have NB370_383 := n5_; have NB383_370 := n6_; clear n0_ n1_ n2_ n3_ n4_ n5_ n6_; clear hb hbox hg; have hnb47 := NB383_370.out; have hnc47 := NB370_383.out; have hcz48_0 : w46.cell? ⟨gb383, 0, none⟩ = some (.string (⟨#[]⟩ : ByteArray)) := (blk_cell BK383.out 0).trans rfl; have hcz48_1 : w46.cell? ⟨gb383, 1, none⟩ = some (.int .u32 0) := (blk_cell BK383.out 1).trans rfl; have hcz48_2 : w46.cell? ⟨gb383, 2, none⟩ = some (.string (⟨#[]⟩ : ByteArray)) := (blk_cell BK383.out 2).trans rfl; have hcz48_3 : w46.cell? ⟨gb383, 3, none⟩ = some (.bool false) := (blk_cell BK383.out 3).trans rfl; have hfz48_0 := blk_frozen BK383.out 0; have hfz48_1 := blk_frozen BK383.out 1; have hfz48_2 := blk_frozen BK383.out 2; have hfz48_3 := blk_frozen BK383.out 3))
                                go_roundg k3
                                case measure => have := HJ2.out; have := HK2.out; have := HK3.out; omega
                                case rel => exact ⟨(wrap64 (x55_3 + 1)), (by first | rfl | (simp; done) | (simp [*]; done)), H', ⟨by have := HJ2.out; have := HK2.out; have := HK3.out; omega⟩, ⟨by (with_reducible repeat (first | refine blk_drewN ?_ _ | refine blk_drew ?_ | refine blk_alloc ?_ _)); refine blk_far ?_ NB370_383.out _; (with_reducible repeat (first | refine blk_drewN ?_ _ | refine blk_drew ?_ | refine blk_alloc ?_ _)); refine blk_far ?_ NB370_383.out _; (with_reducible repeat (first | refine blk_drewN ?_ _ | refine blk_drew ?_ | refine blk_alloc ?_ _)); refine blk_far ?_ NB370_383.out _; (with_reducible repeat (first | refine blk_drewN ?_ _ | refine blk_drew ?_ | refine blk_alloc ?_ _)); refine blk_far ?_ NB370_383.out _; (with_reducible repeat (first | refine blk_drewN ?_ _ | refine blk_drew ?_ | refine blk_alloc ?_ _)); exact BK370.out⟩, ⟨by repeat (first | (with_reducible first | exact HB.out | apply below_alloc | apply pw_below_drewN | apply below_drew1 | refine below_set ?_ GE370.out | refine below_set ?_ GE383.out) | exact HB.out)⟩⟩
                          · rw [if_neg c37] at H
                            exact absurd H (by simp)
                        · rw [if_neg c36] at H
                          exact absurd H (by simp)
                      · rw [if_neg c35] at H
                        have c35b0 : decide (x55_3 < (l1.length : Int)) = false := decide_eq_false c35
                        clear c35
                        obtain rfl := Option.some.inj H
                        go_wp2
                        go_ret
                        exact ⟨by first | rfl | (simp [errW_none, errW_some] <;> rfl) | (simp [*, errW_none, errW_some] <;> rfl), by repeat (first | (with_reducible first | exact HB.out | apply below_alloc | apply pw_below_drewN | apply below_drew1 | refine below_set ?_ GE370.out) | exact HB.out)⟩
          · rw [if_neg c14] at H
            exact absurd H (by simp)
        · rw [if_neg c13] at H
          exact absurd H (by simp)
def stringslite_HasSuffix.f (a0 : ByteArray) (a1 : ByteArray) : Option (Bool) := if (a0.size : Int) ≥ (a1.size : Int) then (if 0 ≤ (wrap64 ((a0.size : Int) - (a1.size : Int))) then (if (wrap64 ((a0.size : Int) - (a1.size : Int))) ≤ (a0.size : Int) then (some ((a0.extract ((wrap64 ((a0.size : Int) - (a1.size : Int))) : Int).toNat a0.size).toList == a1.toList)) else (none)) else (none)) else (some false)
def strings_HasSuffix.f (a0 : ByteArray) (a1 : ByteArray) : Option (Bool) := (stringslite_HasSuffix.f a0 a1).bind fun t384 => (some t384)
/-- A state of type 131 at block g of W; what its slices lead to came in by w0. -/
def IsS131 (w0 W : World) (g : Nat) (f0 : List Int) (f1 : Int) (f2 : Int) : Prop := ∃ A0 c0, W.heap[g]? = some (.cells #[.slice A0 f0.length c0, .int .i64 f1, .int .i8 f2] 131 (0, 0)) ∧ w0.heap.size ≤ g ∧ Kd.C (Kd.int .u8) w0 A0 f0.length f0
theorem IsS131.grown {w0 W : World} {g : Nat} {f0 : List Int} {f1 : Int} {f2 : Int} {W1 : World} {row : Option Nat} (h : IsS131 w0 W g f0 f1 f2) (hw : W.grownBy W1 row) (hne : some g ≠ row) : IsS131 w0 W1 g f0 f1 f2 := by
  obtain ⟨A0, c0, hb, hg, hr0⟩ := h
  exact ⟨A0, c0, blk_grown hb hw hne, hg, hr0⟩
theorem IsS131.fresh {w0 W : World} {g : Nat} {f0 : List Int} {f1 : Int} {f2 : Int} (h : IsS131 w0 W g f0 f1 f2) : ∀ k, W.heap.size ≤ k → k ≠ g := by
  obtain ⟨A0, c0, hb, hg, hr0⟩ := h
  exact Kd.freshB hb
theorem IsS131.kept {w0 W : World} {g : Nat} {f0 : List Int} {f1 : Int} {f2 : Int} {W1 : World} {S : Nat → Prop} (h : IsS131 w0 W g f0 f1 f2) (hk : Kept W W1 S) (hne : ¬ S g) : IsS131 w0 W1 g f0 f1 f2 := by
  obtain ⟨A0, c0, hb, hg, hr0⟩ := h
  exact ⟨A0, c0, blk_kept hb hk hne, hg, hr0⟩
theorem IsS131.below {w0 W : World} {g : Nat} {f0 : List Int} {f1 : Int} {f2 : Int} {W1 : World} (h : IsS131 w0 W g f0 f1 f2) (hw : Below W.heap.size W W1) : IsS131 w0 W1 g f0 f1 f2 := h.grown (grown_of_below hw none) (by simp)
theorem IsS131.alloc {w0 W : World} {g : Nat} {f0 : List Int} {f1 : Int} {f2 : Int} (h : IsS131 w0 W g f0 f1 f2) (o : Obj) : IsS131 w0 (W.alloc o) g f0 f1 f2 := h.below (below_alloc (Below.refl _ _) o)
theorem IsS131.drewN {w0 W : World} {g : Nat} {f0 : List Int} {f1 : Int} {f2 : Int} (h : IsS131 w0 W g f0 f1 f2) (m : Nat) : IsS131 w0 (W.drewN m) g f0 f1 f2 := h
theorem IsS131.drew {w0 W : World} {g : Nat} {f0 : List Int} {f1 : Int} {f2 : Int} (h : IsS131 w0 W g f0 f1 f2) : IsS131 w0 W.drew g f0 f1 f2 := h
theorem IsS131.at_ {w0 W : World} {g : Nat} {f0 : List Int} {f1 : Int} {f2 : Int} {w' : World} {m : Nat} (hq : W.drewN m = w') (h : IsS131 w0 W g f0 f1 f2) : IsS131 w0 w' g f0 f1 f2 := by subst hq; exact IsS131.drewN h m
theorem IsS131.apart {w0 W : World} {g : Nat} {f0 : List Int} {f1 : Int} {f2 : Int} {α : Type} {d : Kd α} {e : Nat} {base : Nat} {ok : Nat → Prop} {v : Value} {xs : List α} (h : IsS131 w0 W g f0 f1 f2) (ho : d.R e W base ok v xs) (ht : ∀ q, q ∈ e :: d.E → q ≠ 131) : d.R e W base (fun k => ok k ∧ k ≠ g) v xs := by
  obtain ⟨A0, c0, hb, hg, hr0⟩ := h
  exact Kd.R_types ho hb ht
theorem IsS131.own_ne {w0 W : World} {g : Nat} {f0 : List Int} {f1 : Int} {f2 : Int} {α : Type} {d : Kd α} {e : Nat} {base : Nat} {ok : Nat → Prop} {v : Value} {xs : List α} (h : IsS131 w0 W g f0 f1 f2) (ho : d.R e W base ok v xs) (ht : e ≠ 131) : some g ≠ v.ownBlock := by
  obtain ⟨A0, c0, hb, hg, hr0⟩ := h
  exact Kd.R_ne ho hb ht
theorem IsS131.lt {w0 W : World} {g : Nat} {f0 : List Int} {f1 : Int} {f2 : Int} (h : IsS131 w0 W g f0 f1 f2) : g < W.heap.size := by
  obtain ⟨A0, c0, hb, hg, hr0⟩ := h
  exact blk_lt hb
theorem IsS131.ge {w0 W : World} {g : Nat} {f0 : List Int} {f1 : Int} {f2 : Int} (h : IsS131 w0 W g f0 f1 f2) : w0.heap.size ≤ g := by
  obtain ⟨A0, c0, hb, hg, hr0⟩ := h
  exact hg
def bytes_Buffer_Len.f (s0_0 : List Int) (s0_1 : Int) (s0_2 : Int) : Option (Int × Int × Int) := some (wrap64 ((s0_0.length : Int) - s0_1), s0_1, s0_2)
end Go.Proofs.YtkbegfihdpiacaaDoor.PX

namespace Go.Proofs.YtkbegfihdpiacaaDoor.PX
open Go.RowKit Nt Go.Lib Go.Maps Go.Proofs.YtkbegfihdpiacaaDoorW.PrintWords Go.Proofs.YtkbegfihdpiacaaDoorW.PrintLast
set_option linter.unusedVariables false
set_option linter.unusedSimpArgs false
theorem small_l0 (l : List S37) (hk : l.length ≤ 2147483647) : ∀ (k i : Nat), i ≤ l.length → l.length - i + 1 < k → ∃ b, spec_Small.l0 k [] l (l.length : Int) (i : Int) = some b ∧ (b = true → ∀ j x, i ≤ j → l[j]? = some x → x.f0.size ≤ 60 ∧ x.f2.size ≤ 120)
  | 0, i, _, hf => by omega
  | k + 1, i, hi, hf => by
    unfold spec_Small.l0
    by_cases hlt : i < l.length
    · rw [if_pos (by omega), if_pos (by omega), if_pos (by omega), w1 i (by omega), rd37 l i hlt]
      by_cases h0 : ((l[i]).f0.size : Int) > 60
      · rw [if_pos h0]; exact ⟨_, rfl, fun h => by cases h⟩
      · rw [if_neg h0]
        by_cases h2 : ((l[i]).f2.size : Int) > 120
        · rw [if_pos h2]; exact ⟨_, rfl, fun h => by cases h⟩
        · rw [if_neg h2]
          obtain ⟨b, hb, hb2⟩ := small_l0 l hk k (i + 1) (by omega) (by omega)
          refine ⟨b, hb, fun h j x hij hx => ?_⟩
          by_cases hji : j = i
          · subst hji
            have : l[j] = x := (List.getElem?_eq_some_iff.1 hx).2
            rw [← this]; omega
          · exact hb2 h j x (by omega) hx
    · rw [if_neg (by omega)]
      obtain ⟨k', rfl⟩ : ∃ k', k = k' + 1 := ⟨k - 1, by omega⟩
      unfold spec_Small.l1
      rw [if_neg (by simp)]
      refine ⟨_, rfl, fun h j x hij hx => ?_⟩
      have := (List.getElem?_eq_some_iff.1 hx).1
      omega
/-- What Small tells, with no signer. -/
structure SmallF (t : ByteArray) (l1 l2 : List S37) : Prop where
  t : t.size ≤ 2000
  n1 : l1.length ≤ 8
  n2 : l2.length ≤ 8
  x1 : ∀ x ∈ l1, x.f0.size ≤ 60 ∧ x.f2.size ≤ 120
  x2 : ∀ x ∈ l2, x.f0.size ≤ 60 ∧ x.f2.size ≤ 120
theorem small_f (t : ByteArray) (l1 l2 : List S37) (h1 : l1.length ≤ 1000000) (h2 : l2.length ≤ 1000000) (k : Nat) (hf : 4000000 < k) : ∃ b, spec_Small.f k t l1 l2 [] = some b ∧ (b = true → SmallF t l1 l2) := by
  obtain ⟨k', rfl⟩ : ∃ k', k = k' + 1 := ⟨k - 1, by omega⟩
  have hj : spec_Small.j0 (k' + 1) [] true t l1 l2 = some false := by rw [spec_Small.j0, if_pos rfl]
  unfold spec_Small.f
  by_cases a : (t.size : Int) > 2000
  · rw [if_pos a, hj]; exact ⟨_, rfl, fun h => by cases h⟩
  · rw [if_neg a]
    by_cases b : (l1.length : Int) > 8
    · rw [if_pos b, hj]; exact ⟨_, rfl, fun h => by cases h⟩
    · rw [if_neg b]
      by_cases c : (l2.length : Int) > 8
      · rw [if_pos c, hj]; exact ⟨_, rfl, fun h => by cases h⟩
      · rw [if_neg c, show decide (((([] : List S83).length : Nat) : Int) > 8) = false from rfl]
        rw [spec_Small.j0, if_neg (by simp)]
        simp only [Option.bind_some, List.nil_append, List.length_nil, Nat.zero_add]
        rw [if_pos (by omega), if_pos (by omega)]
        obtain ⟨r, hr, hb⟩ := small_l0 (l1 ++ l2) (by rw [List.length_append]; omega) k' 0 (Nat.zero_le _) (by rw [List.length_append]; omega)
        refine ⟨r, hr, fun h => ?_⟩
        have hx : ∀ x ∈ l1 ++ l2, x.f0.size ≤ 60 ∧ x.f2.size ≤ 120 := fun x hx => by
          obtain ⟨j, hj⟩ := List.getElem?_of_mem hx
          exact hb h j x (Nat.zero_le _) hj
        exact ⟨by omega, by omega, by omega, fun x h => hx x (List.mem_append_left _ h), fun x h => hx x (List.mem_append_right _ h)⟩
end Go.Proofs.YtkbegfihdpiacaaDoor.PX
