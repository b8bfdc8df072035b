/- Part 18 of the proof: what the theorem reaches of the texts ZISign1, ZLawA, ZRowA, ZCardA. -/
import Derived.SizedLaws
import Derived.SliceStrings
import Derived.Test.YtkbegfihdpiacaaGreatDoorTie
import Derived.Test.YtkbegfihdpiacaaGreatDoorCards
import Derived.SevenTiedAt
import Derived.Test.YtkbegfihdpiacaaGreatDoorKT16
import Derived.Test.YtkbegfihdpiacaaGreatDoorKT17
set_option linter.unusedVariables false
set_option linter.unusedSimpArgs false
namespace Go.Proofs.YtkbegfihdpiacaaGreatDoor.PX
open Go.RowKit Nt Go.Lib Go.Maps Go.Proofs.YtkbegfihdpiacaaGreatDoorW.PrintWords Go.Proofs.YtkbegfihdpiacaaGreatDoorW.PrintLast
theorem infoSn : (Tryz.prog.info? 140).map (fun i => (i.zero, i.size, i.bytes)) = some (some .nilIface, 1, 16) := by kernel_rfl
set_option maxRecDepth 100000 in
def litS (g : Nat → Value) : Array Value := #[g 0, g 1, g 2, g 3, g 4, g 5, g 6, g 7, g 8, g 9, g 10, g 11, g 12, g 13, g 14, g 15, g 16, g 17, g 18, g 19, g 20, g 21, g 22, g 23, g 24, g 25, g 26, g 27, g 28, g 29, g 30, g 31, g 32, g 33, g 34, g 35, g 36, g 37, g 38, g 39, g 40, g 41, g 42, g 43]
set_option maxRecDepth 100000 in
theorem range44 (g : Nat → Value) : (List.range 44).map g = (litS g).toList := by rfl
abbrev FrI (g2 : Nat) (v6 v12 : Value) (j : Int) : List (Nat × Value) := [(2, .pointer (some ⟨g2, 0, none⟩)), (6, v6), (12, v12), (13, .int .i64 1), (14, .int .i64 j)]
def II (W2 : World) (g2 : Nat) (v6 v12 : Value) (n : ByteArray) (h : Nat) (s : ByteArray) (a : Act) (w : World) : Prop :=
 (FrN 44 (FrI g2 v6 v12 0) a ∧ w = W2) ∨ ∃ gl cl, FrN 44 (FrI g2 (.slice (some ⟨gl, 0, none⟩) 1 cl) v12 1) a ∧ w.cell? ⟨gl, 0, none⟩ = some (.iface 88 (makC n h s)) ∧ Below W2.heap.size W2 w
def Imu (a : Act) (_ : World) : Nat := 1 - (intOf (a.tmps.getD 14 undef)).toNat
set_option maxRecDepth 100000 in
set_option maxHeartbeats 4000000 in
theorem isign1 (w : World) (t : List UInt8) (A1 A2 : Option Addr) (c1 c2 gm cm : Nat) (n : ByteArray) (h : Nat) (s : ByteArray) (p1 p2 : List S82) (h1 : p1.length ≤ c1 ∧ Kd.C k82 w A1 p1.length p1) (h2 : p2.length ≤ c2 ∧ Kd.C k82 w A2 p2.length p2) (hs1 : ∀ x ∈ p1.map n118, SgW x) (hs2 : ∀ x ∈ p2.map n118, SgW x)
  (hn1 : p1.length ≤ 1000) (hn2 : p2.length ≤ 1000) (ht : t.length ≤ 1000000) (ht10 : t ≠ [] ∧ t[t.length - 1]? = some 10) (hU : Utf8Tabs 3 4 w) (hW : WhiteTab 6 w)
  (k0 : w.cell? ⟨gm, 0, none⟩ = some (.string n)) (k1 : w.cell? ⟨gm, 1, none⟩ = some (.int .u32 (h : Int))) (k2 : w.cell? ⟨gm, 2, none⟩ = some (.string s)) (k3 : w.cell? ⟨gm, 3, none⟩ = some (.bool false))
  (hn : nameD n.data.toList = true) (hm2 : n.size ≤ 1000) (hz1 : 1 ≤ s.size) (hz2 : s.size ≤ 1000) (hh : h < 4294967296) :
  Calls Tryz.prog 12 #[.agg #[.string (S t), .slice A1 p1.length c1, .slice A2 p2.length c2], .slice (some ⟨gm, 0, none⟩) 1 cm] w fun e w' => e = .returned (.tuple #[.string (S (outG (gN1 n h) t (p1.map n118) (p2.map n118) 2 ++ newL n h s)), .bool true]) ∧ Below w.heap.size w w' := by
 have H1 := Lib.hid h1
 have H2 := Lib.hid h2
 have HS1 := Lib.hid hs1
 have HS2 := Lib.hid hs2
 have HU := Lib.hid hU
 have HW := Lib.hid hW
 have l1 : (p1.map n118).length = p1.length := List.length_map _
 have l2 : (p2.map n118).length = p2.length := List.length_map _
 have L1 := Lib.hid l1
 have L2 := Lib.hid l2
 obtain ⟨out, hout⟩ : ∃ o, o = outG (gN1 n h) t (p1.map n118) (p2.map n118) 2 ++ newL n h s := ⟨_, rfl⟩
 rw [← hout]
 have HOUT := Lib.hid hout
 clear h1 h2 hs1 hs2 hU hW l1 l2 hout
 have hne : out ≠ [] := by rw [HOUT.out]; exact fun e => newL_ne n h s (List.append_eq_nil_iff.1 e).2
 have hsg : ∀ (w8 : World) (B1 B2 : Option Addr) (d1 d2 gl cl : Nat), Below w.heap.size w w8 → w8.cell? ⟨gl, 0, none⟩ = some (.iface 88 (makC n h s)) → (p1.length ≤ d1 ∧ Kd.C k122 w8 B1 p1.length (p1.map n118)) → (p2.length ≤ d2 ∧ Kd.C k122 w8 B2 p2.length (p2.map n118)) →
   Calls Tryz.prog 28 #[.pointer (some ⟨w8.heap.size, 0, none⟩), .slice (some ⟨gl, 0, none⟩) 1 cl] (w8.alloc (.cells #[.string (S t), .slice B1 p1.length d1, .slice B2 p2.length d2] 94)) fun e w' => ∃ A c, e = .returned (.tuple #[.slice A out.length c, .nilIface]) ∧ RB w' A out ∧ Below w8.heap.size w8 w' := fun w8 B1 B2 d1 d2 gl cl hb hl r1 r2 => by
  have hb8 := (Below.refl w8.heap.size w8).alloc (Nat.le_refl _) (.cells #[.string (S t), .slice B1 p1.length d1, .slice B2 p2.length d2] 94)
  have hbw := hb.trans (hb8.mono hb.size)
  refine (nsign1 _ w8.heap.size t B1 B2 d1 d2 gl cl n h s (p1.map n118) (p2.map n118) (by rw [L1.out, L2.out]; exact heap_alloc_new _ _) (by rw [L1.out]; exact ⟨r1.1, Kd.C_below r1.2 hb8⟩) (by rw [L2.out]; exact ⟨r2.1, Kd.C_below r2.2 hb8⟩) HS1.out HS2.out (by rw [L1.out]; exact hn1) (by rw [L2.out]; exact hn2) ht ht10 (Utf8Tabs.below' HU.out hbw) (WhiteTab.below' HW.out hbw) (pw_cell_below hb8 hl) hn hm2 hz1 hz2 hh).mono ?_
  rintro e w' ⟨v, rfl, hown, hb9⟩
  rw [← HOUT.out] at hown
  obtain ⟨A, c, rfl, hrb⟩ := rb_own hown hne
  exact ⟨A, c, rfl, hrb, hb8.trans (hb9.mono hb8.size)⟩
 have HSG := Lib.hid hsg
 clear hsg
 go_enter Tryz.func12, Tryz.ntmps12
 go_upto_block 0 with fail
 have hb1 := (Below.refl w.heap.size w).alloc (Nat.le_refl _) (.cells #[.string (S t), .slice A1 p1.length c1, .slice A2 p2.length c2] 42)
 have hx1 := heap_alloc_new w (.cells #[.string (S t), .slice A1 p1.length c1, .slice A2 p2.length c2] 42)
 generalize w.alloc (.cells #[.string (S t), .slice A1 p1.length c1, .slice A2 p2.length c2] 42) = W1 at *
 have hb2 := (Below.refl W1.heap.size W1).alloc (Nat.le_refl _) (.cells #[] 140)
 obtain ⟨d0, d1, d2, -, -, -⟩ := three ((hb2.block _ (blk_lt hx1)).trans hx1)
 have hB := hb1.trans (hb2.mono hb1.size)
 generalize W1.alloc (.cells #[] 140) = W2 at *
 have HB := Lib.hid hB
 have HC1 := Lib.hid (And.intro H1.out.1 (Kd.C_below H1.out.2 hB))
 have HC2 := Lib.hid (And.intro H2.out.1 (Kd.C_below H2.out.2 hB))
 clear hb1 hx1 hb2 hB
 replace k0 := pw_cell_below HB.out k0
 replace k1 := pw_cell_below HB.out k1
 replace k2 := pw_cell_below HB.out k2
 replace k3 := pw_cell_below HB.out k3
 refine wp_block ?_
 refine wp_loop (II W2 w.heap.size (.slice (some ⟨w.heap.size + 1, 0, none⟩) 0 0) (.slice (some ⟨gm, 0, none⟩) 1 cm) n h s) Imu (.inl ⟨⟨rfl, rfl, by repeat (first | exact ks_nil _ | refine ks_cons rfl ?_)⟩, rfl⟩) ?_
 rintro a wr (⟨hF, rfl⟩ | ⟨gl, cl, hF, hcl, hb2⟩)
 ·obtain ⟨g, rfl, hg⟩ := hF.lit range44
  clear hF
  simp only [List.forall_mem_cons] at hg
  obtain ⟨j2, j6, j12, j13, j14, -⟩ := hg
  unfold litS
  simp only [j2, j6, j12, j13, j14]
  clear j2 j6 j12 j13 j14
  obtain ⟨i0, hi, hz0, hz1, hz2⟩ := info_parts infoSn
  go_wp2_with (at_builtin; refine wpList_append_grows _ rfl _ _ 86 rfl 140 i0 .nilIface 1 16 Tryz.underlying86 hi hz0 hz1 hz2 rfl (by decide) (some ⟨w.heap.size + 1, 0, none⟩) 0 0 [] rfl (fun e => by cases e) rfl (fun b hb j u hj => by cases hj) ⟨wr.heap.size + 1, 0, none⟩ 1 1 [.iface 88 (makC n h s)] rfl rfl ?_ ?_ (by decide) (by decide) (by decide) ?_)
  ·intro j u hj
   rcases j with _ | j
   ·injection hj with e
    subst e
    have e := blk_cell (heap_alloc_new (wr.alloc (.cells #[.string n, .int .u32 (h : Int), .string s, .bool false] 25)) (.cells #[.iface 88 (makC n h s)] 140)) 0
    rw [show ∀ o, (wr.alloc o).heap.size = wr.heap.size + 1 from fun o => by simp] at e
    rw [add_plain]
    exact e.trans rfl
   ·cases hj
  ·intro u hu
   rw [List.mem_singleton.1 hu]; rfl
  ·intro v' w3 hown hg
   have hB3 := (((Below.refl wr.heap.size wr).alloc (Nat.le_refl _) (.cells #[.string n, .int .u32 (h : Int), .string s, .bool false] 25)).alloc (by simp) (.cells #[.iface 88 (makC n h s)] 140)).grown hg (by simp; omega) (fun k hk => by cases hk)
   obtain ⟨gl, cl, rfl, -, -⟩ := hown.form (by omega)
   have hcl := hown.cellAt 0 (by omega)
   have HCL := Lib.hid (show w3.cell? ⟨gl, 0, none⟩ = some (.iface 88 (makC n h s)) from hcl)
   have HB3 := Lib.hid hB3
   clear hown hg hcl hB3
   go_wp2_with fail
   exact ⟨.inr ⟨gl, cl, ⟨rfl, rfl, by repeat (first | exact ks_nil _ | refine ks_cons rfl ?_)⟩, HCL.out, HB3.out⟩, by show 1 - (1 : Int).toNat < 1 - (0 : Int).toNat; decide⟩
 obtain ⟨g, rfl, hg⟩ := hF.lit range44
 clear hF
 simp only [List.forall_mem_cons] at hg
 obtain ⟨j2, j6, j12, j13, j14, -⟩ := hg
 unfold litS
 simp only [j2, j6, j12, j13, j14]
 clear j2 j6 j12 j13 j14
 replace d0 := pw_cell_below hb2 d0
 replace d1 := pw_cell_below hb2 d1
 replace d2 := pw_cell_below hb2 d2
 have hbw := HB.out.trans (hb2.mono HB.out.size)
 go_upto_region 7 with fail
 go_region_held3 (fun W => Below wr.heap.size wr W ∧ W.cell? ⟨w.heap.size, 0, none⟩ = some (.string (S t)) ∧ W.cell? ⟨w.heap.size, 1, none⟩ = some (.slice A1 p1.length c1) ∧ W.cell? ⟨w.heap.size, 2, none⟩ = some (.slice A2 p2.length c2))
  (first | exact bsI (below_drew1 (Below.refl _ _)) d0 d1 d2 | exact bsI hq1 d0 d1 d2 | exact bsI hq2 d0 d1 d2 | exact bsI (hq2.alloc hq2.size _) d0 d1 d2 | exact bsI hq3 d0 d1 d2 | fail)
  (first
   | (go_at_call 29; with_reducible refine (outC p1 (by omega) A1 c1 _ ⟨HC1.out.1, Kd.C_below (Kd.C_below HC1.out.2 hb2) (‹Below wr.heap.size wr _ ∧ _›).1⟩).mono ?_; rintro e w5 ⟨B1, e1, rfl, hl5, hc5, hb5⟩; have hq1 := (below_drew1 (Below.refl wr.heap.size wr)).trans (hb5.mono (below_drew1 (Below.refl wr.heap.size wr)).size))
   | (go_at_call 29; with_reducible refine (outC p2 (by omega) A2 c2 _ ⟨HC2.out.1, Kd.C_below (Kd.C_below HC2.out.2 hb2) hq1⟩).mono ?_; rintro e w6 ⟨B2, e2, rfl, hl6, hc6, hb6⟩; have hq2 := hq1.trans (hb6.mono hq1.size))
   | (go_at_call 28; with_reducible refine (HSG.out w6 B1 B2 e1 e2 gl cl (hbw.trans (hq2.mono hbw.size)) (pw_cell_below hq2 hcl) ⟨hl5, Kd.C_below hc5 hb6⟩ ⟨hl6, hc6⟩).mono ?_; rintro e w7 ⟨A7, c7, rfl, hrb, hb7⟩; have hq3 := hq2.trans (hb7.mono hq2.size)))
 have cv : ∀ n, (convert 72 9 (.slice A7 out.length c7)).run Tryz.prog (w7.drewN n) = .ok (.string (S out)) (w7.drewN n) := fun n => (hrb.drewN n).str c7
 go_wp2_with fail
 go_quiet (fail)
 go_wp2_with fail
 go_ret2
 exact ⟨rfl, pw_below_drewN (hbw.trans (hq3.mono hbw.size)) _⟩
theorem nat_of_wf {h : Int} (hw : (Lit.int .u32 h).wf = true) : ∃ k : Nat, h = (k : Int) ∧ k < 4294967296 := by
 have h0 : IntKind.u32.min = 0 := rfl
 have h1 : IntKind.u32.max = 4294967295 := rfl
 simp [Lit.wf, h0, h1] at hw
 exact ⟨h.toNat, by omega, by omega⟩
theorem LW.none {w : World} {A0 : Option Addr} {c0 : Nat} {ks : List S56} {eM : Value} (h : LW w A0 c0 ks eM) : LW w none 0 [] eM :=
 {h with hk := Kd.C_nil _ _, hc := Nat.le_refl _, wf := fun x hx => by cases hx }
theorem same_l0 (l : List S49) (hk : l.length ≤ 2147483647) : ∀ (k i : Nat), i ≤ l.length → l.length - i < k → spec_SameSigs.l0 k l l (l.length : Int) (i : Int) = some true
 | 0, i, _, hf => by omega
 | k + 1, i, hi, hf => by
  unfold spec_SameSigs.l0
  by_cases hlt : i < l.length
  ·rw [if_pos (by omega), if_pos (by omega), if_pos (by omega), if_pos (by omega), w1 i (by omega), same_l0 l hk k (i + 1) (by omega) (by omega), if_neg (by simp)]
  ·rw [if_neg (by omega)]
theorem sameSigsC (l : List S49) (hk : l.length ≤ 1000000) (A1 : Option Addr) (c1 : Nat) (A2 : Option Addr) (c2 : Nat) (W : World) (r1 : Kd.C k49 W A1 l.length l) (q1 : l.length ≤ c1) (r2 : Kd.C k49 W A2 l.length l) (q2 : l.length ≤ c2) :
  Calls Tryz.prog 13 #[.slice A1 l.length c1, .slice A2 l.length c2] W fun e w' => e = .returned (.bool true) ∧ Below W.heap.size W w' := by
 refine (spec_SameSigs.calls (l.length + 1) A1 c1 l A2 c2 l true W r1 q1 r2 q2 ?_).mono ?_
 ·unfold spec_SameSigs.f
  rw [if_pos rfl]
  exact same_l0 l (by omega) _ 0 (Nat.zero_le _) (by omega)
 ·rintro e w' ⟨rfl, hd⟩
  exact ⟨rfl, hd.below⟩
theorem smallB_f {t : ByteArray} {l1 l2 : List S82} {n s : ByteArray} (h : smallB t (l1.map s37) (l2.map s37) n s = true) : t.size ≤ 2000 ∧ l1.length ≤ 8 ∧ l2.length ≤ 8 ∧ (∀ x ∈ l1.map s37 ++ l2.map s37, x.f0.size ≤ 60 ∧ x.f2.size ≤ 120) ∧ n.size ≤ 60 ∧ s.size ≤ 60 := by
 unfold smallB at h
 simp only [Bool.and_eq_true, decide_eq_true_eq, List.length_map] at h
 obtain ⟨⟨⟨⟨⟨a, b⟩, c⟩, d⟩, e⟩, g⟩ := h
 refine ⟨a, b, c, fun x hx => ?_, e, g⟩
 have := List.all_eq_true.1 d x hx
 unfold okS at this
 rwa [Bool.and_eq_true, decide_eq_true_eq, decide_eq_true_eq] at this
theorem goodK_nil : GoodK [] := ⟨fun i j x y hij hx hy => by simp at hx, Nat.zero_le _, fun x hx => by cases hx⟩
set_option maxRecDepth 100000 in
set_option maxHeartbeats 8000000 in
theorem fnSignAgain_any (w : World) (l : List UInt8) (A0 : Option Addr) (c0 : Nat) (ks : List S56) (eM : Value) (H : LW w A0 c0 ks eM) (n : ByteArray) (h0 : Int) (sg : ByteArray) (f : Bool) (hw0 : (Lit.int .u32 h0).wf = true) :
  Calls Tryz.prog 3 #[.string (S l), .slice A0 ks.length c0, .agg #[.string n, .int .u32 h0, .string sg, .bool f]] w fun e w' => e = .returned (.bool true) ∧ Below w.heap.size w w' := by
 obtain ⟨h, rfl, hh⟩ := nat_of_wf hw0
 clear hw0
 have HH := Lib.hid H
 clear H
 obtain ⟨bf, hbf, hcf⟩ := HH.out.fits
 have HF := Lib.hid hcf
 have H8 := Lib.hid (fun W => fits8 n (h : Int) sg f W)
 clear hcf
 have B1 := Lib.hid ((Below.refl w.heap.size w).alloc (Nat.le_refl _) (.cells #[.string n, .int .u32 (h : Int), .string sg, .bool f] 25))
 have M1 := Lib.hid (MK.new w n (h : Int) sg f 25)
 by_cases hl : l.length ≤ 2147483647
 ·have q1 : decide (2147483647 < ((S l).size : Int)) = false := by rw [S_sz]; exact decide_eq_false (by omega)
  have q2 : decide (2147483647 < (S l).size) = false := by rw [S_sz]; exact decide_eq_false (by omega)
  have HL := Lib.hid hl
  clear hl
  go_enter Tryz.func3, Tryz.ntmps3
  go_upto_region 1 with fail
  generalize w.alloc (.cells #[.string n, .int .u32 (h : Int), .string sg, .bool f] 25) = W1 at *
  cases bf with
  | false =>
   go_wp2_with (first
     | (go_at_call 4; with_reducible refine (HF.out _ B1.out).mono ?_; rintro e w1 ⟨rfl, hb1⟩; have B2 := Lib.hid (B1.out.trans (hb1.mono B1.out.size)); have M2 := Lib.hid (M1.out.below hb1); obtain ⟨d0, d1, d2, d3⟩ := M2.out; clear hb1)
     | (go_at_call 5; with_reducible refine (H8.out _).mono ?_; rintro e w2 ⟨rfl, hb2⟩; have B3 := Lib.hid (B2.out.trans (hb2.mono B2.out.size)); have M3 := Lib.hid (M2.out.below hb2); clear d0 d1 d2 d3; obtain ⟨d0, d1, d2, d3⟩ := M3.out; clear hb2)
     | fail)
   go_ret
   exact ⟨rfl, B2.out⟩
  | true =>
   have FK := Lib.hid (hbf rfl)
   have hfew : ks.length ≤ 3000000000 := Nat.le_trans FK.out.1 (by omega)
   clear hbf
   cases b8 : (decide (n.size ≤ 2147483647) && decide (sg.size ≤ 2147483647)) with
   | false =>
    rw [b8] at H8
    go_wp2_with (first
     | (go_at_call 4; with_reducible refine (HF.out _ B1.out).mono ?_; rintro e w1 ⟨rfl, hb1⟩; have B2 := Lib.hid (B1.out.trans (hb1.mono B1.out.size)); have M2 := Lib.hid (M1.out.below hb1); obtain ⟨d0, d1, d2, d3⟩ := M2.out; clear hb1)
     | (go_at_call 5; with_reducible refine (H8.out _).mono ?_; rintro e w2 ⟨rfl, hb2⟩; have B3 := Lib.hid (B2.out.trans (hb2.mono B2.out.size)); have M3 := Lib.hid (M2.out.below hb2); clear d0 d1 d2 d3; obtain ⟨d0, d1, d2, d3⟩ := M3.out; clear hb2)
     | fail)
    go_ret
    exact ⟨rfl, B3.out⟩
   | true =>
    rw [b8] at H8
    rw [Bool.and_eq_true] at b8
    have hnz := of_decide_eq_true b8.1
    have hsz := of_decide_eq_true b8.2
    clear b8
    go_upto_region 3 with (first
     | (go_at_call 4; with_reducible refine (HF.out _ B1.out).mono ?_; rintro e w1 ⟨rfl, hb1⟩; have B2 := Lib.hid (B1.out.trans (hb1.mono B1.out.size)); have M2 := Lib.hid (M1.out.below hb1); obtain ⟨d0, d1, d2, d3⟩ := M2.out; clear hb1)
     | (go_at_call 5; with_reducible refine (H8.out _).mono ?_; rintro e w2 ⟨rfl, hb2⟩; have B3 := Lib.hid (B2.out.trans (hb2.mono B2.out.size)); have M3 := Lib.hid (M2.out.below hb2); clear d0 d1 d2 d3; obtain ⟨d0, d1, d2, d3⟩ := M3.out; clear hb2)
     | fail)
    obtain ⟨r1, r2, r3, r4, r5, hres, hop⟩ := LW.sopen FK.out l HL.out
    have HRES := Lib.hid hres
    have HOP := Lib.hid hop
    obtain ⟨bg, hbg, hgd⟩ := LW.good hfew
    have HG := Lib.hid hgd
    obtain ⟨br, hbr, hrt⟩ := rightC n (h : Int) sg f hnz
    have HRT := Lib.hid hrt
    have HW3 := Lib.hid (HH.out.below B3.out)
    clear hres hop hgd hrt
    go_upto_region 4 with (first
     | (go_at_call 7; with_reducible refine (HW3.out.keys hfew).mono ?_; rintro e w3 ⟨A2, c2, rfl, hc2, hC2, hb2⟩; have HC2 := Lib.hid hC2; have B4 := Lib.hid (B3.out.trans (hb2.mono B3.out.size)); have M4 := Lib.hid (M3.out.below hb2); clear hC2 hb2)
     | (go_at_call 6; with_reducible refine (HOP.out _ _ _ HC2.out hc2).mono ?_; rintro e w4 ⟨v1, v2, rfl, hr1, hr2, hb4⟩; obtain ⟨D1, e1, rfl⟩ := Kd.R_slice hr1; obtain ⟨D2, e2, rfl⟩ := Kd.R_slice hr2; have B5 := Lib.hid (B4.out.trans (hb4.mono B4.out.size)); have M5 := Lib.hid (M4.out.below hb4); have HR1 := Lib.hid (Kd.R_reads' hr1).2; have HR2 := Lib.hid (Kd.R_reads' hr2).2; clear hr1 hr2 hb4)
     | fail)
    have hs := (Below.refl w4.heap.size w4).alloc (Nat.le_refl _) (.cells #[.string r1, .slice D1 r2.length e1, .slice D2 r3.length e2] 30)
    have hx := heap_alloc_new w4 (.cells #[.string r1, .slice D1 r2.length e1, .slice D2 r3.length e2] 30)
    have M6 := Lib.hid (M5.out.below hs)
    have HC1 := Lib.hid (And.intro HR1.out.1 (Kd.C_below HR1.out.2 hs))
    have HC2' := Lib.hid (And.intro HR2.out.1 (Kd.C_below HR2.out.2 hs))
    have B5' := Lib.hid (B5.out.trans (hs.mono B5.out.size))
    clear hs M5 HR1 HR2 B5
    generalize w4.alloc (.cells #[.string r1, .slice D1 r2.length e1, .slice D2 r3.length e2] 30) = W5 at *
    generalize w4.heap.size = g7 at *
    clear d0 d1 d2 d3
    obtain ⟨d0, d1, d2, d3⟩ := M6.out
    go_upto_region 5 with fail
    have hs2 := (Below.refl W5.heap.size W5).alloc (Nat.le_refl _) (.cells #[.string n, .int .u32 (h : Int), .string sg, .bool f] 35)
    have HMK := Lib.hid (MK.new W5 n (h : Int) sg f 35)
    have HX := Lib.hid ((hs2.block _ (blk_lt hx)).trans hx)
    have HD1 := Lib.hid (And.intro HC1.out.1 (Kd.C_below HC1.out.2 hs2))
    have HD2 := Lib.hid (And.intro HC2'.out.1 (Kd.C_below HC2'.out.2 hs2))
    have B6 := Lib.hid (B5'.out.trans (hs2.mono B5'.out.size))
    have M7 := Lib.hid (M6.out.below hs2)
    clear hs2 hx d0 d1 d2 d3 M6 HC1 HC2' B5'
    generalize W5.alloc (.cells #[.string n, .int .u32 (h : Int), .string sg, .bool f] 35) = W6 at *
    generalize W5.heap.size = gk at *
    have HW5 := Lib.hid (HH.out.below B6.out)
    clear HC2 hc2 HW3 M1 M2 M3 M4 B1 B2 B3 B4
    cases r5 with
    | false =>
     go_wp2
     go_ret
     exact ⟨rfl, B6.out⟩
    | true =>
     cases bg with
     | false =>
      go_wp2_with (first
     | (go_at_call 7; with_reducible refine (HW5.out.keys hfew).mono ?_; rintro e w6 ⟨A6, c6, rfl, hc6, hC6, hb6⟩; have HC6 := Lib.hid hC6; have T6 := Lib.hid hb6; clear hC6 hb6)
     | (go_at_call 8; with_reducible refine (HG.out _ _ _ HC6.out hc6).mono ?_; rintro e w7 ⟨rfl, hb7⟩; have T7 := Lib.hid (T6.out.trans (hb7.mono T6.out.size)); clear hb7)
     | (go_at_call 9; with_reducible refine (HRT.out _ _ _ (HMK.out.below T7.out)).mono ?_; rintro e w8 ⟨rfl, hb8⟩; have T8 := Lib.hid (T7.out.trans (hb8.mono T7.out.size)); obtain ⟨x0, x1, x2, -, -, -⟩ := three ((T8.out.block _ (blk_lt HX.out)).trans HX.out); clear hb8)
     | (go_at_call 10; with_reducible refine (HSM.out _ T8.out).mono ?_; rintro e w9 ⟨rfl, hb9⟩; have T9 := Lib.hid (T8.out.trans (hb9.mono T8.out.size)); clear hb9)
     | fail)
      go_ret
      exact ⟨rfl, B6.out.trans (T7.out.mono B6.out.size)⟩
     | true =>
      have HGK := Lib.hid (hbg rfl)
      have HRS := Lib.hid (HRES.out rfl).2
      obtain ⟨p1, p2, hom, rfl, rfl, hp1, hp2⟩ := told_out (HRES.out rfl).1 HRS.out
      have HOM := Lib.hid hom
      have HP := Lib.hid (And.intro hp1 hp2)
      clear hbg HRES HOP hom hp1 hp2
      by_cases h4 : r4 = 0
      ·have t4 : (r4 == 0) = true := by rw [h4]; rfl
       have H4 := Lib.hid h4
       clear h4
       cases br with
       | false =>
        go_wp2_with (first
     | (go_at_call 7; with_reducible refine (HW5.out.keys hfew).mono ?_; rintro e w6 ⟨A6, c6, rfl, hc6, hC6, hb6⟩; have HC6 := Lib.hid hC6; have T6 := Lib.hid hb6; clear hC6 hb6)
     | (go_at_call 8; with_reducible refine (HG.out _ _ _ HC6.out hc6).mono ?_; rintro e w7 ⟨rfl, hb7⟩; have T7 := Lib.hid (T6.out.trans (hb7.mono T6.out.size)); clear hb7)
     | (go_at_call 9; with_reducible refine (HRT.out _ _ _ (HMK.out.below T7.out)).mono ?_; rintro e w8 ⟨rfl, hb8⟩; have T8 := Lib.hid (T7.out.trans (hb8.mono T7.out.size)); obtain ⟨x0, x1, x2, -, -, -⟩ := three ((T8.out.block _ (blk_lt HX.out)).trans HX.out); clear hb8)
     | (go_at_call 10; with_reducible refine (HSM.out _ T8.out).mono ?_; rintro e w9 ⟨rfl, hb9⟩; have T9 := Lib.hid (T8.out.trans (hb9.mono T8.out.size)); clear hb9)
     | fail)
        go_ret
        exact ⟨rfl, B6.out.trans (T8.out.mono B6.out.size)⟩
       | true =>
        obtain ⟨hn1, hn2, rfl, hs1⟩ := hbr rfl
        have HBR := Lib.hid (And.intro hn1 (And.intro hn2 hs1))
        clear hbr hn1 hn2 hs1
        obtain ⟨bs, hbs⟩ : ∃ bs, bs = smallB r1 (p1.map s37) (p2.map s37) n sg := ⟨_, rfl⟩
        have HBS := Lib.hid hbs
        have HSM : Hid (∀ W, Below W6.heap.size W6 W → Calls Tryz.prog 10 #[.agg #[.string r1, .slice D1 p1.length e1, .slice D2 p2.length e2], .slice (some ⟨gk, 0, none⟩) 1 1] W fun e w' => e = .returned (.bool bs) ∧ Below W.heap.size W w') := Lib.hid fun W hW => by
         have := small1 r1 (p1.map s37) (p2.map s37) n (h : Int) sg false (by rw [List.length_map]; exact HP.out.1) (by rw [List.length_map]; exact HP.out.2) W D1 D2 e1 e2 gk 1 (Kd.C_below HD1.out.2 hW) HD1.out.1 (Kd.C_below HD2.out.2 hW) HD2.out.1 (HMK.out.below hW)
         rw [List.length_map, List.length_map, ← HBS.out] at this
         exact this
        rw [List.length_map, List.length_map] at HX
        rw [List.length_map] at HD1 HD2
        clear hbs
        cases bs with
        | false =>
         go_wp2_with (first
     | (go_at_call 7; with_reducible refine (HW5.out.keys hfew).mono ?_; rintro e w6 ⟨A6, c6, rfl, hc6, hC6, hb6⟩; have HC6 := Lib.hid hC6; have T6 := Lib.hid hb6; clear hC6 hb6)
     | (go_at_call 8; with_reducible refine (HG.out _ _ _ HC6.out hc6).mono ?_; rintro e w7 ⟨rfl, hb7⟩; have T7 := Lib.hid (T6.out.trans (hb7.mono T6.out.size)); clear hb7)
     | (go_at_call 9; with_reducible refine (HRT.out _ _ _ (HMK.out.below T7.out)).mono ?_; rintro e w8 ⟨rfl, hb8⟩; have T8 := Lib.hid (T7.out.trans (hb8.mono T7.out.size)); obtain ⟨x0, x1, x2, -, -, -⟩ := three ((T8.out.block _ (blk_lt HX.out)).trans HX.out); clear hb8)
     | (go_at_call 10; with_reducible refine (HSM.out _ T8.out).mono ?_; rintro e w9 ⟨rfl, hb9⟩; have T9 := Lib.hid (T8.out.trans (hb9.mono T8.out.size)); clear hb9)
     | fail)
         go_ret
         exact ⟨rfl, B6.out.trans (T9.out.mono B6.out.size)⟩
        | true =>
         go_upto_region 7 with (first
     | (go_at_call 7; with_reducible refine (HW5.out.keys hfew).mono ?_; rintro e w6 ⟨A6, c6, rfl, hc6, hC6, hb6⟩; have HC6 := Lib.hid hC6; have T6 := Lib.hid hb6; clear hC6 hb6)
     | (go_at_call 8; with_reducible refine (HG.out _ _ _ HC6.out hc6).mono ?_; rintro e w7 ⟨rfl, hb7⟩; have T7 := Lib.hid (T6.out.trans (hb7.mono T6.out.size)); clear hb7)
     | (go_at_call 9; with_reducible refine (HRT.out _ _ _ (HMK.out.below T7.out)).mono ?_; rintro e w8 ⟨rfl, hb8⟩; have T8 := Lib.hid (T7.out.trans (hb8.mono T7.out.size)); obtain ⟨x0, x1, x2, -, -, -⟩ := three ((T8.out.block _ (blk_lt HX.out)).trans HX.out); clear hb8)
     | (go_at_call 10; with_reducible refine (HSM.out _ T8.out).mono ?_; rintro e w9 ⟨rfl, hb9⟩; have T9 := Lib.hid (T8.out.trans (hb9.mono T8.out.size)); clear hb9)
     | fail)
         have HSF := Lib.hid (smallB_f HBS.out.symm)
         obtain ⟨t, v, hag⟩ := ag ks l r1 p1 p2 (H4.out ▸ HOM.out) HSF.out.1 HSF.out.2.1 HSF.out.2.2.1 HSF.out.2.2.2.1 n h sg HBR.out.1 HBR.out.2.1 hh HBR.out.2.2 HSF.out.2.2.2.2.1 HSF.out.2.2.2.2.2
         have HA := Lib.hid hag
         clear hag
         obtain ⟨m, hm⟩ : ∃ m, m = outG (gN1 n h) t (p1.map n118) (p2.map n118) 2 ++ newL n h sg := ⟨_, rfl⟩
         have HM := Lib.hid hm
         have hio : ∀ W, LW W A0 c0 ks eM → Calls Tryz.prog 11 #[.string (S l), .slice A0 ks.length c0] W (IORd W r1 p1 p2 0) := fun W hW => (hW.iopen FK.out HGK.out l HL.out HRS.out).mono fun e w' hp => (H4.out ▸ HOM.out ▸ hp : IOPost W (r1, p1, p2, 0) e w').rd
         have hio2 : ∀ W, LW W A0 c0 ks eM → Calls Tryz.prog 11 #[.string (S m), .slice none 0 0] W (IORd W r1 [] (v.map sig75) 3) := fun W hW => by
          rw [hm]
          exact (hW.none.iopen ⟨Nat.zero_le _, fun x hx => by cases hx⟩ goodK_nil _ HA.out.ml HA.out.cnt).mono fun e w' hp => (HA.out.out ▸ hp : IOPost W (r1, [], v.map sig75, 3) e w').rd
         have hsg : ∀ (W : World) (E1 E2 : Option Addr) (f1 f2 : Nat), LW W A0 c0 ks eM → (p1.length ≤ f1 ∧ Kd.C k82 W E1 p1.length p1) → (p2.length ≤ f2 ∧ Kd.C k82 W E2 p2.length p2) → Calls Tryz.prog 12 #[.agg #[.string r1, .slice E1 p1.length f1, .slice E2 p2.length f2], .slice (some ⟨W.heap.size, 0, none⟩) 1 1] (W.alloc (.cells #[.string n, .int .u32 (h : Int), .string sg, .bool false] 25)) fun e w' => e = .returned (.tuple #[.string (S m), .bool true]) ∧ Below W.heap.size W w' := fun W E1 E2 f1 f2 hW g1 g2 => by
          have hb := (Below.refl W.heap.size W).alloc (Nat.le_refl _) (.cells #[.string n, .int .u32 (h : Int), .string sg, .bool false] 25)
          have hk := MK.new W n (h : Int) sg false 25
          have hWb := hW.below hb
          have ha := HA.out
          rw [ha.text, hm]
          refine (isign1 _ t E1 E2 f1 f2 W.heap.size 1 n h sg p1 p2 ⟨g1.1, Kd.C_below g1.2 hb⟩ ⟨g2.1, Kd.C_below g2.2 hb⟩ ha.s1 ha.s2 (Nat.le_trans ha.n1 (by decide)) (Nat.le_trans ha.n2 (by decide)) (Nat.le_trans ha.tl (by decide)) ha.t10 hWb.hU hWb.hW hk.c0 hk.c1 hk.c2 hk.c3 HBR.out.1 (Nat.le_trans HSF.out.2.2.2.2.1 (by decide)) HBR.out.2.2 (Nat.le_trans HSF.out.2.2.2.2.2 (by decide)) hh).mono ?_
          rintro e w' ⟨rfl, hb'⟩
          exact ⟨rfl, hb.trans (hb'.mono hb.size)⟩
         have HIO := Lib.hid hio
         have HIO2 := Lib.hid hio2
         have HSG := Lib.hid hsg
         have HW9 := Lib.hid (HW5.out.below T9.out)
         have M9 := Lib.hid (M7.out.below T9.out)
         have HK9 := Lib.hid (HMK.out.below T9.out)
         have HX9 := Lib.hid ((T9.out.block _ (blk_lt HX.out)).trans HX.out)
         have HE1 := Lib.hid (And.intro HD1.out.1 (Kd.C_below HD1.out.2 T9.out))
         have HE2 := Lib.hid (And.intro HD2.out.1 (Kd.C_below HD2.out.2 T9.out))
         have B9 := Lib.hid (B6.out.trans (T9.out.mono B6.out.size))
         clear hio hio2 hsg hm HW5 M7 HMK HX HD1 HD2 B6 T6 T7 T8 T9 HC6 hc6 HG HRT HSM x0 x1 x2 t4 q1 q2
         go_upto_region 8 with (go_at_call 11; with_reducible refine (HIO.out _ HW9.out).mono ?_; rintro e w10 ⟨E1, f1, E2, f2, rfl, hq1, hq2, hb10⟩; have T10 := Lib.hid hb10; have HQ1 := Lib.hid hq1; have HQ2 := Lib.hid hq2; clear hq1 hq2 hb10)
         have hs := (Below.refl w10.heap.size w10).alloc (Nat.le_refl _) (.cells #[.string r1, .slice E1 p1.length f1, .slice E2 p2.length f2] 42)
         have hx := heap_alloc_new w10 (.cells #[.string r1, .slice E1 p1.length f1, .slice E2 p2.length f2] 42)
         have hT := T10.out.trans (hs.mono T10.out.size)
         have HM1 := Lib.hid (And.intro HQ1.out.1 (Kd.C_below HQ1.out.2 hs))
         have HM2 := Lib.hid (And.intro HQ2.out.1 (Kd.C_below HQ2.out.2 hs))
         generalize w10.alloc (.cells #[.string r1, .slice E1 p1.length f1, .slice E2 p2.length f2] 42) = W10 at *
         clear hs T10 HQ1 HQ2
         have HW10 := Lib.hid (HW9.out.below hT)
         have M10 := Lib.hid (M9.out.below hT)
         have T10 := Lib.hid hT
         obtain ⟨x0, x1, x2, -, -, -⟩ := three hx
         obtain ⟨d0, d1, d2, d3⟩ := M10.out
         clear hx hT
         go_upto_region 11 with (go_at_call 12; with_reducible refine (HSG.out W10 _ _ _ _ HW10.out HM1.out HM2.out).mono ?_; rintro e w11 ⟨rfl, hb11⟩; have T11 := Lib.hid (T10.out.trans (hb11.mono T10.out.size)); clear hb11)
         go_upto_region 14 with (go_at_call 11; with_reducible refine (HIO2.out _ (HW9.out.below T11.out)).mono ?_; rintro e w12 ⟨F1, g1, F2, g2, rfl, hq1, hq2, hb12⟩; have T12 := Lib.hid (T11.out.trans (hb12.mono T11.out.size)); have HQ2 := Lib.hid hq2; clear hq1 hq2 hb12)
         rw [List.length_map] at HQ2
         have hs := (Below.refl w12.heap.size w12).alloc (Nat.le_refl _) (.cells #[.string r1, .slice F1 0 g1, .slice F2 v.length g2] 42)
         have hx := heap_alloc_new w12 (.cells #[.string r1, .slice F1 0 g1, .slice F2 v.length g2] 42)
         have hT := T12.out.trans (hs.mono T12.out.size)
         have HQ := Lib.hid (And.intro HQ2.out.1 (Kd.C_below HQ2.out.2 hs))
         clear d0 d1 d2 d3 x0 x1 x2 T10 T11 T12 HQ2 hs HIO HIO2 HSG HM1 HM2 HW10 M10
         generalize w12.alloc (.cells #[.string r1, .slice F1 0 g1, .slice F2 v.length g2] 42) = W13 at *
         generalize w12.heap.size = g15 at *
         have HX13 := Lib.hid hx
         have T13 := Lib.hid hT
         clear hx hT
         go_upto_region 15 with fail
         have hs := (Below.refl W13.heap.size W13).alloc (Nat.le_refl _) (.cells #[] 49)
         have hz : (W13.alloc (.cells #[] 49)).heap.size = W13.heap.size + 1 := by simp
         have hr0 : Kd.R k49 49 (W13.alloc (.cells #[] 49)) W13.heap.size (fun k => k = W13.heap.size) (.slice (some ⟨W13.heap.size, 0, none⟩) 0 0) [] := ⟨fun k hk => by simp [Value.ownBlock] at hk; exact hk.symm, OwnRow.lit (inner := []) W13 W13.heap.size (Reps.none _ _) (Nat.le_refl _) (by simp)⟩
         generalize W13.alloc (.cells #[] 49) = W14 at *
         have T14 := Lib.hid (T13.out.trans (hs.mono T13.out.size))
         have HS14 := Lib.hid hs
         have HR0 := Lib.hid hr0
         have HX7 := Lib.hid ((T14.out.block _ (blk_lt HX9.out)).trans HX9.out)
         have K1 := Lib.hid (And.intro HE1.out.1 (Kd.C_below HE1.out.2 T14.out))
         have K2 := Lib.hid (And.intro HE2.out.1 (Kd.C_below HE2.out.2 T14.out))
         have B14 := Lib.hid (B9.out.trans (T14.out.mono B9.out.size))
         have hba := (Below.refl W14.heap.size W14).drew.alloc (Nat.le_refl _) (.cells #[] 49)
         have hxa : (W14.drew.alloc (.cells #[] 49)).heap[g7]? = _ := (Below.heap_alloc W14.drew _ _ (blk_lt HX7.out)).trans HX7.out
         have hrb : Kd.R k49 49 (W14.drew.alloc (.cells #[] 49)) W14.heap.size (fun k => W14.heap.size ≤ k) (.slice (some ⟨W14.heap.size, 0, none⟩) 0 0) [] := ⟨fun k hk => by simp [Value.ownBlock] at hk; omega, OwnRow.lit (inner := []) W14.drew W14.heap.size (Reps.none _ _) (Nat.le_refl _) (by simp)⟩
         have hlt7 := blk_lt HX7.out
         have hLe : p1.length ≤ 8 ∧ p2.length ≤ 8 := ⟨HA.out.n1, HA.out.n2⟩
         rw [hz] at hrb
         clear hs hr0
         obtain ⟨x0, x1, x2, -, -, -⟩ := three HX7.out
         go_region_held3 (fun W' => Below W14.heap.size W14 W' ∧ W'.cell? ⟨g7, 0, none⟩ = some (.string r1) ∧ W'.cell? ⟨g7, 1, none⟩ = some (.slice D1 p1.length e1) ∧ W'.cell? ⟨g7, 2, none⟩ = some (.slice D2 p2.length e2))
          (first | exact keep3 (Below.refl W14.heap.size W14).drew HX7.out | exact keep3 hba hxa | exact keep3 hb4 hx4 | exact keep3 hb5 hx5 | fail)
          (first
           | (refine Kd.R_append_rows_step k49 (w0 := W14) W14.heap.size (by rfl) _ _ 28 49 _ 40 rfl Tryz.underlying28 info37' rfl (by decide) (by decide) (.slice (some ⟨W13.heap.size + 1, 0, none⟩) 0 0) [] (p1.map s37) D1 p1.length e1 (fun k => W14.heap.size ≤ k) (fun _ => False) rfl rfl (by rw [← hz]; rw [← hz] at hrb; exact hrb) (Kd.C_below K1.out.2 hba) (fun x cs hx => k37_KM hx) (fun _ h => h.elim) (fun k hk => Nat.le_trans hba.size hk) hba hba.size (by simp; omega) ?_; intro v4 w4 hr4 hb4 hg4 hat4; rw [List.nil_append] at hr4; have hx4 := (hg4.block _ (blk_lt hxa) (by simp [Value.ownBlock]; omega)).trans hxa; obtain ⟨A4, c4, rfl⟩ := Kd.R_slice hr4)
           | (refine Kd.R_append_rows_step k49 (w0 := W14) W14.heap.size (by rfl) _ _ 28 49 _ 40 rfl Tryz.underlying28 info37' rfl (by decide) (by decide) (.slice A4 (p1.map s37).length c4) (p1.map s37) (p2.map s37) D2 p2.length e2 (fun k => W14.heap.size ≤ k) (fun _ => False) rfl rfl hr4 (Kd.C_below K2.out.2 hb4) (fun x cs hx => k37_KM hx) (fun _ h => h.elim) (fun k hk => Nat.le_trans hb4.size hk) hb4 hb4.size (by simp; omega) ?_; intro v5 w5 hr5 hb5 hg5 hat5; have hx5 := (hg5.block _ (blk_lt hx4) (gR_ne (Kd.R_mono hr4 (fun _ _ => trivial)) hx4 (by decide))).trans hx4; obtain ⟨A5, c5, rfl⟩ := Kd.R_slice hr5))
         obtain ⟨-, hc5, hC5⟩ := Kd.R_reads' hr5
         have hA5 : ∀ a, A5 = some a → a.block ≠ W13.heap.size := fun a ha e => by
          have := hr5.1 a.block (by rw [ha]; rfl)
          omega
         obtain ⟨L, hL⟩ : ∃ L, L = p1.map s37 ++ p2.map s37 := ⟨_, rfl⟩
         rw [← hL] at hC5 ⊢
         have e37 : (p1.length : Int) + (p2.length : Int) = (L.length : Int) := by rw [hL, List.length_append, List.length_map, List.length_map]; omega
         have hLl : L.length ≤ 16 := by rw [hL, List.length_append, List.length_map, List.length_map]; omega
         have T5 := Lib.hid hb5
         have HL' := Lib.hid hL
         have HC5 := Lib.hid hC5
         clear hL hC5 hr5 hb4 hx4 hr4 hg4 hat4 hg5 hat5 hba hxa hrb hb5 hx5 x0 x1 x2
         go_upto_block 0 with fail
         rw [e37]
         have M5 := Lib.hid (M9.out.below (T14.out.trans (T5.out.mono T14.out.size)))
         refine aloop W13 w5 W13.heap.size W13.heap.size w.heap.size g7 g15 (.slice (some ⟨gk, 0, none⟩) 1 1) n h L A5 c5 HC5.out hA5 M5.out.c0 M5.out.c1 ?_ hLl ⟨HS14.out.trans (T5.out.mono HS14.out.size), fun _ _ _ => rfl, Kd.R_mono (Kd.R_below HR0.out T5.out) (fun k hk => .inl hk), Nat.le_refl _, Nat.le_trans HS14.out.size T5.out.size⟩ _ ⟨rfl, rfl, by repeat (first | exact ks_nil _ | refine ks_cons rfl ?_)⟩ _ ?_
         ·have : w.heap.size < W13.heap.size := World.block_lt_of_cell? W13 _ (M9.out.below T13.out).c0
          omega
         ·intro a6 w6 C d hF hS
          have HS := Lib.hid hS
          have HT6 := Lib.hid (T13.out.trans (hS.below.mono T13.out.size))
          have HX15 := Lib.hid ((hS.below.block _ (blk_lt HX13.out)).trans HX13.out)
          have HX7' := Lib.hid ((T13.out.block _ (blk_lt HX9.out)).trans HX9.out)
          have HK6 := Lib.hid (HK9.out.below HT6.out)
          have HQ6 := Lib.hid (Kd.C_below HQ.out.2 hS.below)
          have hqc : v.length ≤ g2 := HQ.out.1
          have hvl := HA.out.vl
          have HEQ := Lib.hid (show (v.map sig75).map s37 = L.filter (oth37 n h) ++ [⟨n, (h : Int), S (encL (beL h ++ sg.data.toList))⟩] by rw [HL'.out]; exact HA.out.list)
          have hfl : (L.filter (oth37 n h)).length ≤ 16 := Nat.le_trans (List.length_filter_le _ _) hLl
          have HLEN := Lib.hid (show v.length = (L.filter (oth37 n h)).length + 1 by have := congrArg List.length HEQ.out; simpa using this)
          have hsz := HSF.out.2.2.2.2.2
          clear hS e37 hc5 hA5 T5 M5 HL' HC5 HR0 HS14 B14 K1 K2 HE1 HE2 HX9 HQ T14 HM HW9 HX7 hz hlt7 hLe
          obtain ⟨g, rfl, hg⟩ := hF.lit range141
          clear hF
          simp only [List.forall_mem_cons] at hg
          obtain ⟨k5, k7, k10, k15, k17, -⟩ := hg
          unfold litA
          simp only [k5, k7, k10, k15, k17]
          clear k5 k7 k10 k15 k17
          obtain ⟨y0, y1, y2, -, -, -⟩ := three HX15.out
          have hsc : ∀ W, Below w6.heap.size w6 W → Calls Tryz.prog 14 #[.slice F2 v.length g2] W fun e w' => ∃ A d, e = .returned (.slice A v.length d) ∧ Kd.R k49 49 w' W.heap.size (fun _ => True) (.slice A v.length d) ((v.map sig75).map s37) ∧ Below W.heap.size W w' := fun W hW => by
           have := laws_sigs.calls (v.length + 1) F2 g2 (v.map sig75) ((v.map sig75).map s37) W (by rw [List.length_map]; exact Kd.C_below HQ6.out hW) (by rw [List.length_map]; exact hqc) (sigs_f _ (by rw [List.length_map]; omega) _ (by rw [List.length_map]; omega))
           rw [List.length_map] at this
           refine this.mono ?_
           rintro e w' ⟨v0, rfl, hr, hb⟩
           obtain ⟨A, d, rfl⟩ := Kd.R_slice hr
           rw [List.length_map, List.length_map] at hr ⊢
           exact ⟨A, d, rfl, hr, hb⟩
          have HSC := Lib.hid hsc
          have HSS : Hid (∀ (A1 A2 : Option Addr) (a1 a2 : Nat) (W : World), v.length ≤ a1 ∧ Kd.C k49 W A1 ((v.map sig75).map s37).length ((v.map sig75).map s37) → v.length ≤ a2 ∧ Kd.C k49 W A2 ((v.map sig75).map s37).length ((v.map sig75).map s37) → Calls Tryz.prog 13 #[.slice A1 v.length a1, .slice A2 v.length a2] W fun e w' => e = .returned (.bool true) ∧ Below W.heap.size W w') := Lib.hid fun A1 A2 a1 a2 W r1 r2 => by
           have := sameSigsC ((v.map sig75).map s37) (by rw [List.length_map, List.length_map]; omega) A1 a1 A2 a2 W r1.2 (by rw [List.length_map, List.length_map]; exact r1.1) r2.2 (by rw [List.length_map, List.length_map]; exact r2.1)
           rwa [List.length_map, List.length_map] at this
          clear hsc
          go_wp2_with (first
           | (go_at_call 14; with_reducible refine (HSC.out _ (Below.refl _ _)).mono ?_; rintro e w7 ⟨G1, j1, rfl, hq7, hb7⟩; have HQ7 := Lib.hid hq7; have T7 := Lib.hid hb7; clear hq7 hb7)
           | (go_at_call 15; with_reducible refine (sigsOf1 n h sg false hh (Nat.le_trans hsz (by decide)) _ gk 1 (HK6.out.below T7.out)).mono ?_; rintro e w8 ⟨G2, j2, rfl, hj2, hC8, hb8⟩; have HC8 := Lib.hid hC8; have HQ8 := Lib.hid (Kd.R_below HQ7.out hb8); have T8 := Lib.hid (T7.out.trans (hb8.mono T7.out.size)); clear hC8 hb8)
           | (at_builtin; refine Kd.R_append_rows k49 (w0 := W13) W13.heap.size rfl _ _ 28 49 _ 40 rfl Tryz.underlying28 info37' rfl (by decide) (by decide) (.slice C (L.filter (oth37 n h)).length d) (L.filter (oth37 n h)) [⟨n, (h : Int), S (encL (beL h ++ sg.data.toList))⟩] G2 1 j2 _ (fun _ => False) rfl rfl (Kd.R_below HS.out.r T8.out) HC8.out (fun x cs hx => k37_KM hx) (fun _ h => h.elim) (fun k hk => .inr (Nat.le_trans HS.out.size (Nat.le_trans T8.out.size hk))) (HS.out.below.trans (T8.out.mono HS.out.sz)) (Nat.le_trans HS.out.sz T8.out.size) (by omega) ?_; intro v9 w9' hr9 hb9 hg9 hat9; rw [← HEQ.out] at hr9; obtain ⟨G9, j9, rfl⟩ := Kd.R_slice hr9; rw [List.length_map, List.length_map] at hr9; have HR9 := Lib.hid (Kd.R_reads' hr9).2; have HQ9 := Lib.hid (Kd.R_reads' (Kd.R_grown (Kd.R_bound HQ8.out) hg9 (fun k hk e => absurd ((Kd.R_bound HS.out.r).1 k e.symm).2.2.1 (Nat.not_lt.2 hk.2.1)))).2; have HB9 := Lib.hid hb9; clear hr9 hb9 hg9 hat9; rw [List.length_map, List.length_map])
           | (go_at_call 13; with_reducible refine (HSS.out _ _ _ _ _ HQ9.out HR9.out).mono ?_; rintro e w10 ⟨rfl, hb10⟩; have HB10 := Lib.hid (HB9.out.trans (hb10.mono HB9.out.size)); obtain ⟨y0, -, -, -, -, -⟩ := three ((HB10.out.block _ (blk_lt HX13.out)).trans HX13.out); obtain ⟨z0, -, -, -, -, -⟩ := three ((HB10.out.block _ (blk_lt HX7'.out)).trans HX7'.out); clear hb10)
           | fail)
          go_ret
          exact ⟨by simp, B9.out.trans ((T13.out.mono B9.out.size).trans (HB10.out.mono (Nat.le_trans B9.out.size T13.out.size)))⟩
      ·have t4 : (r4 == 0) = false := beq_eq_false_iff_ne.2 h4
       have t5 : (r4 != 0) = true := by rw [bne, t4]; rfl
       have t6 : decide (r4 = 0) = false := decide_eq_false h4
       go_wp2_with (first
     | (go_at_call 7; with_reducible refine (HW5.out.keys hfew).mono ?_; rintro e w6 ⟨A6, c6, rfl, hc6, hC6, hb6⟩; have HC6 := Lib.hid hC6; have T6 := Lib.hid hb6; clear hC6 hb6)
     | (go_at_call 8; with_reducible refine (HG.out _ _ _ HC6.out hc6).mono ?_; rintro e w7 ⟨rfl, hb7⟩; have T7 := Lib.hid (T6.out.trans (hb7.mono T6.out.size)); clear hb7)
     | (go_at_call 9; with_reducible refine (HRT.out _ _ _ (HMK.out.below T7.out)).mono ?_; rintro e w8 ⟨rfl, hb8⟩; have T8 := Lib.hid (T7.out.trans (hb8.mono T7.out.size)); obtain ⟨x0, x1, x2, -, -, -⟩ := three ((T8.out.block _ (blk_lt HX.out)).trans HX.out); clear hb8)
     | (go_at_call 10; with_reducible refine (HSM.out _ T8.out).mono ?_; rintro e w9 ⟨rfl, hb9⟩; have T9 := Lib.hid (T8.out.trans (hb9.mono T8.out.size)); clear hb9)
     | fail)
       go_ret
       exact ⟨rfl, B6.out.trans (T7.out.mono B6.out.size)⟩
 ·have q1 : decide (2147483647 < ((S l).size : Int)) = true := by rw [S_sz]; exact decide_eq_true (by omega)
  have q2 : decide (2147483647 < (S l).size) = true := by rw [S_sz]; exact decide_eq_true (by omega)
  clear hl hbf
  go_enter Tryz.func3, Tryz.ntmps3
  go_wp2_with fail
  go_ret
  exact ⟨rfl, B1.out⟩
end Go.Proofs.YtkbegfihdpiacaaGreatDoor.PX
namespace Go.Proofs.YtkbegfihdpiacaaGreatDoor.PX
open Go.ChangeShapes Go.WideShapes Go.ChangeAt Go.RowKit Go.Lib Go.Shelf
open Go.ChangeMaps (open_string shut_string)
abbrev malN : String := "loop.example/pub-notesandsignatures/pub/sumdbnote.errMalformedNote"
theorem gMal : Tryz.prog.globalNamed malN = some 0 := by kernel_rfl
theorem gMalT : (Tryz.prog.globals[0]?).map (·.type) = some 69 := by kernel_rfl
noncomputable abbrev N0 : Nat := (World.holding Tryz.prog default ⟨#[], #[], []⟩).heap.size
set_option maxRecDepth 100000 in
theorem mak_K {H : Type} {enc : TypeId × Value → H} {w : World} {base : Nat} {spare : Nat → Bool} {held : Bool} {fuel : Nat} {cs : List Value} {x : DataW H × List MemPlace} (h : DataW.trod enc Tryz.prog w base spare held fuel 25 cs = some x) : ∃ n g s f, cs = [.string n, .int .u32 g, .string s, .bool f] ∧ (Lit.int .u32 g).wf = true := by
 obtain ⟨xs, n, _, _, hcl, hxl, hf⟩ := DataW.trod_struct Tryz.underlying25 h
 have hc4 : Tryz.prog.cellsOf 25 = 4 := by kernel_rfl
 rw [hc4] at hcl
 match cs, hcl, xs, hxl with
 | [v0, v1, v2, v3], _, [y0, y1, y2, y3], _ =>
  have e0 : Tryz.prog.cellsOf 9 = 1 := by kernel_rfl
  have e1 : Tryz.prog.cellsOf 23 = 1 := by kernel_rfl
  have e2 : Tryz.prog.cellsOf 4 = 1 := by kernel_rfl
  have g0 : DataW.trod enc Tryz.prog w base spare held n 9 [v0] = some y0 := by
   have g := hf 0 _ rfl
   change DataW.trod enc Tryz.prog w base spare held n 9 (List.take (Tryz.prog.cellsOf 9) [v0, v1, v2, v3]) = some y0 at g
   rw [e0] at g
   exact g
  have g1 : DataW.trod enc Tryz.prog w base spare held n 23 [v1] = some y1 := by
   have g := hf 1 _ rfl
   change DataW.trod enc Tryz.prog w base spare held n 23 (List.take (Tryz.prog.cellsOf 23) [v1, v2, v3]) = some y1 at g
   rw [e1] at g
   exact g
  have g2 : DataW.trod enc Tryz.prog w base spare held n 9 [v2] = some y2 := by
   have g := hf 2 _ rfl
   change DataW.trod enc Tryz.prog w base spare held n 9 (List.take (Tryz.prog.cellsOf 9) [v2, v3]) = some y2 at g
   rw [e0] at g
   exact g
  have g3 : DataW.trod enc Tryz.prog w base spare held n 4 [v3] = some y3 := by
   have g := hf 3 _ rfl
   change DataW.trod enc Tryz.prog w base spare held n 4 (List.take (Tryz.prog.cellsOf 4) [v3]) = some y3 at g
   rw [e2] at g
   exact g
  obtain ⟨s, h0, _, _⟩ := DataW.trod_string Tryz.underlying9 g0
  obtain ⟨m, h1, _, hw⟩ := DataW.trod_int Tryz.underlying23 g1
  obtain ⟨s2, h2, _, _⟩ := DataW.trod_string Tryz.underlying9 g2
  obtain ⟨b, h3, _⟩ := DataW.trod_bool Tryz.underlying4 g3
  simp at h0 h1 h2 h3
  subst h0; subst h1; subst h2; subst h3
  exact ⟨s, m, s2, b, rfl, hw⟩
theorem ownS : ownKnob Tryz.prog.godebug = none := by kernel_rfl
theorem laidOutS : laidOutB Tryz.prog = true := by kernel_rfl
abbrev invN : String := "loop.example/pub-notesandsignatures/pub/sumdbnote.errInvalidSigner"
theorem gInv : Tryz.prog.globalNamed invN = some 2 := by kernel_rfl
theorem gInvT : (Tryz.prog.globals[2]?).map (·.type) = some 69 := by kernel_rfl
noncomputable def laidWorldS (os : Os) : World :=
 let w0 := World.holding Tryz.prog os ⟨#[.cells (Lib.whiteT.map fun (z : Nat) => Value.int .u16 (z : Int)).toArray (Tryz.lays199_ren.t 198), .cells #[.slice (some ⟨N0, 0, none⟩) 7 7, .slice none 0 0, .int .i64 2] (Tryz.lays199_ren.t 196),
  .cells #[.string ⟨#[109, 97, 108, 102, 111, 114, 109, 101, 100, 32, 110, 111, 116, 101]⟩] 213,
  .cells #[.string ⟨#[118, 101, 114, 105, 102, 105, 101, 114, 32, 110, 97, 109, 101, 32, 111, 114, 32, 104, 97, 115, 104, 32, 100, 111, 101, 115, 110, 39, 116, 32, 109, 97, 116, 99, 104, 32, 115, 105, 103, 110, 97, 116, 117, 114, 101]⟩] 213,
  .cells #[.string ⟨#[98, 121, 116, 101, 115, 46, 66, 117, 102, 102, 101, 114, 58, 32, 116, 111, 111, 32, 108, 97, 114, 103, 101]⟩] 213,
  .cells #[.string ⟨#[105, 110, 118, 97, 108, 105, 100, 32, 115, 105, 103, 110, 101, 114]⟩] 213], #[], []⟩
 let put (h : Array Obj) (g : Nat) (cs : Array Value) : Array Obj := h.modify g fun
  | .cells _ t frozen => .cells cs t frozen
  | o => o
 let h1 := put w0.heap 3 (Lib.firstTab.map fun z => Value.int .u8 z).toArray
 let h2 := put h1 4 ((List.range 16).flatMap fun i => [Value.int .u8 (Lib.accLo i), Value.int .u8 (Lib.accHi i)]).toArray
 let h3 := put h2 6 #[.pointer (some ⟨N0 + 1, 0, none⟩)]
 let h4 := put h3 0 #[.iface 197 (.pointer (some ⟨N0 + 2, 0, none⟩))]
 let h5 := put h4 1 #[.iface 197 (.pointer (some ⟨N0 + 3, 0, none⟩))]
 let h6 := put h5 7 #[.iface 197 (.pointer (some ⟨N0 + 4, 0, none⟩))]
 let h7 := put h6 2 #[.iface 197 (.pointer (some ⟨N0 + 5, 0, none⟩))]
 {w0 with heap := h7 }
theorem laid_metS (os : Os) (args : Array Value) : laidMet Tryz.prog Rows.fnSignAgainRow.laid ((laidWorldS os).forCall (fun _ _ => 0) ⟨#[], args, []⟩).memory :=
 (LaidIn.of_run [4, 6, N0 + 1, N0, 7, N0 + 4, 0, N0 + 2, 2, N0 + 5, 1, N0 + 3, 3] 12 (by kernel_rfl) (by kernel_rfl) (by kernel_rfl) (by kernel_rfl)).met
theorem vars_readS {H : Type} (enc : TypeId × Value → H) {W : World} {x0 x1 x2 : Value} (h0 : W.var? Tryz.prog malN = some #[x0]) (h1 : W.var? Tryz.prog misN = some #[x1]) (h2 : W.var? Tryz.prog invN = some #[x2]) (i0 : IsIface x0) (i1 : IsIface x1) (i2 : IsIface x2) (sp : Nat → Bool) :
  DataW.TrodVars enc Tryz.prog W sp [malN, misN, invN] [tok enc x0, tok enc x1, tok enc x2] [.cell 0 0, .cell 1 0, .cell 2 0] :=
 ⟨_, _, #[x0], 1, [], [.cell 1 0, .cell 2 0], gMal, gMalT, h0, trod_held Tryz.underlying69 i0 0, ⟨_, _, #[x1], 1, [], [.cell 2 0], gMis, gMisT, h1, trod_held Tryz.underlying69 i1 0, ⟨_, _, #[x2], 1, [], [], gInv, gInvT, h2, trod_held Tryz.underlying69 i2 0, rfl, rfl⟩, rfl⟩, rfl⟩
theorem var_ltS {W : World} {n : String} {cs : Array Value} (h : W.var? Tryz.prog n = some cs) : ∃ g, Tryz.prog.globalNamed n = some g ∧ g < W.heap.size := by
 unfold World.var? at h
 cases hg : Tryz.prog.globalNamed n with
 | none => simp [hg] at h
 | some g =>
  refine ⟨g, rfl, ?_⟩
  simp only [hg, Option.bind_some] at h
  rcases Nat.lt_or_ge g W.heap.size with h' | h'
  ·exact h'
  ·simp [Array.getElem?_eq_none h'] at h
theorem var_belowS {W W' : World} {n : String} {cs : Array Value} (h : W.var? Tryz.prog n = some cs) (hb : Below W.heap.size W W') : W'.var? Tryz.prog n = some cs := by
 obtain ⟨g, hg, hlt⟩ := var_ltS h
 unfold World.var? at h ⊢
 simp only [hg, Option.bind_some] at h ⊢
 rw [hb.block g hlt]
 exact h
set_option maxRecDepth 100000 in
theorem fnSignAgain_lifted (os : Os) (started : os.Started) (H : Type) (enc : TypeId × Value → H) :
  ReturnsInHanded {} Tryz.checked os 3 .any (fun w args => (Rows.fnSignAgainSpec.pre enc Tryz.prog Tryz.f3 [] false w args ∧ laidMet Tryz.prog Rows.fnSignAgainRow.laid w) ∧ sizedMet enc Tryz.prog Tryz.f3 (OpenSpec.ofChange Rows.fnSignAgainSpec) false w args)
   (Rows.fnSignAgainSpec.post enc Tryz.prog Tryz.f3 false true false false) := by
 refine returnsInHanded_of_change_and (C := Tryz.checked) (X := fun w _ => laidMet Tryz.prog Rows.fnSignAgainRow.laid w) (fun _ _ _ hh h => h.of_heap hh) ownS started (by kernel_rfl) Tryz.func3
  (ChangeSpec.witness_shaped (enc := enc) (C := Tryz.checked) (os := os) (X := fun w _ => laidMet Tryz.prog Rows.fnSignAgainRow.laid w) false (laidWorldS os) #[.string ⟨#[]⟩, .slice none 0 0, .agg #[.string ⟨#[]⟩, .int .u32 0, .string ⟨#[]⟩, .bool false]] 8 rfl (World.shaped_of_RefB (by kernel_rfl) (by kernel_rfl)) (by kernel_rfl) (by kernel_rfl) (by kernel_rfl) (laid_metS os _)) ?_
 intro W base args ds gs before hval0 hW _ _ hL _
 have hval : ∀ (j : Nat) t v, Tryz.f3.params[j]? = some t → args[j]? = some v → Value.okWide Tryz.prog W .any base t v := hval0
 have hW' := hW
 obtain ⟨p, q, hA0, hV0, rfl, hfz, hnd⟩ := hW
 have hA : DataW.TrodAll enc Tryz.prog W 0 (fun _ => true) true Tryz.f3.params.toList args.toList ds p := hA0
 have hV : DataW.TrodVars enc Tryz.prog W (fun _ => true) [malN, misN, invN] gs q := hV0
 rw [Tryz.params3] at hA hval
 obtain ⟨v0, v1, v2, d0, d1, d2, p0, p1, p2, rfl, rfl, rfl, h0, h1, h2⟩ := trodAll_three hA
 obtain ⟨s, rfl, rfl, rfl, ws⟩ := open_string Tryz.underlying9 (hval 0 9 v0 rfl rfl) h0
 obtain ⟨a, len, cap, rfl⟩ := okWide_slice Tryz.underlying22 (hval 1 22 v1 rfl rfl)
 have k1 := h1
 have lt1 : ∀ x ∈ p1, x.block < W.heap.size := by obtain ⟨m, hm⟩ := k1; exact DataW.trod_lt m _ _ _ hm
 obtain ⟨m1, hm1⟩ := h1
 obtain ⟨A, c, ks, hcs, hle, hC, hwf⟩ := keys_C hm1
 have hva : (Value.slice a len cap).cells.toList = [.slice a len cap] := rfl
 rw [hva] at hcs
 injection hcs with hcs _
 injection hcs with e1 e2 e3
 subst e1; subst e2; subst e3
 obtain ⟨a0, sa, hv0, _, _, _⟩ := laid_sentinel hL.tail.tail.tail gMal gMalT Tryz.underlying69 rowErr Tryz.underlying197 Tryz.underlying213 rfl rfl Tryz.underlying9 cErr cStr
 obtain ⟨c0, sc, hv2, _, _, _⟩ := laid_sentinel hL.tail.tail.tail.tail gInv gInvT Tryz.underlying69 rowErr Tryz.underlying197 Tryz.underlying213 rfl rfl Tryz.underlying9 cErr cStr
 obtain ⟨b0, sb, hv1, _, _, _⟩ := laid_sentinel hL.tail.tail.tail.tail.tail gMis gMisT Tryz.underlying69 rowErr Tryz.underlying197 Tryz.underlying213 rfl rfl Tryz.underlying9 cErr cStr
 obtain ⟨rfl, rfl⟩ := hV.unique (vars_readS enc hv0 hv1 hv2 trivial trivial trivial _)
 obtain ⟨cs, rfl, hcz⟩ := okWide_struct Tryz.underlying25 (hval 2 25 v2 rfl rfl)
 have k2 := h2
 have lt2 : ∀ x ∈ p2, x.block < W.heap.size := by obtain ⟨m, hm⟩ := k2; exact DataW.trod_lt m _ _ _ hm
 obtain ⟨m2, hm2⟩ := h2
 obtain ⟨n, hh, sg, f, hcs2, hwf2⟩ := mak_K hm2
 obtain rfl : cs = #[.string n, .int .u32 hh, .string sg, .bool f] := by
  have e : cs.toList = [.string n, .int .u32 hh, .string sg, .bool f] := hcs2
  rw [← Array.toArray_toList (xs := cs), e]
 clear hA0 hV0 hval0
 have hg0 : W.cell? ⟨0, 0, none⟩ = some (.iface 197 (.pointer (some a0))) := by simpa using World.var?_cell gMal hv0 0
 have hU := tabs_of (firstD ▸ Lib.laidMet.reads hL (.tail _ (.tail _ (.tail _ (.tail _ (.tail _ (.tail _ (.head _)))))))) (accD ▸ Lib.laidMet.reads hL (.head _))
 have hWh := white_of (whiteD ▸ Lib.laidMet.reads hL (.tail _ (.head _)))
 refine (fnSignAgain_any W s.data.toList a cap ks _ ⟨hU, hWh, hg0, ⟨_, rfl⟩, hC, hle, hwf⟩ n hh sg f hwf2).mono fun e W' he => ?_
 obtain ⟨rfl, bel⟩ := he
 have e1 : Rows.fnSignAgainSpec.fn H ([.lit (.string s.data.toList), d1, d2] ++ [tok enc (.iface 197 (.pointer (some a0))), tok enc (.iface 197 (.pointer (some b0))), tok enc (.iface 197 (.pointer (some c0)))]) = { results := [.lit (.bool true)], args := [.lit (.string s.data.toList), d1, d2], vars := [tok enc (.iface 197 (.pointer (some a0))), tok enc (.iface 197 (.pointer (some b0))), tok enc (.iface 197 (.pointer (some c0)))] } := rfl
 refine ⟨_, rfl, _, _, _, [], [] ++ (p1 ++ p2), [.cell 0 0, .cell 1 0, .cell 2 0], hW', ?_, ?_, ?_, bel.frame _, fun h => by cases h⟩
 ·rw [e1]; exact trodAll_mk1 (shut_bool Tryz.underlying4 true)
 ·rw [e1]; exact trodAll_mk3 (shut_string Tryz.underlying9 ws) (Below.trod laidOutS (by kernel_rfl) (of_decide_eq_true (by kernel_rfl)) k1 bel lt1) (Below.trod laidOutS (by kernel_rfl) (of_decide_eq_true (by kernel_rfl)) k2 bel lt2)
 ·rw [e1]; exact vars_readS enc (var_belowS hv0 bel) (var_belowS hv1 bel) (var_belowS hv2 bel) trivial trivial trivial _
theorem fnSignAgain_holds : Rows.FnSignAgainSaid :=
 OpenClaim.holds_of_wide 3 Tryz.f3 rfl rfl rfl rfl rfl rfl rfl ⟨rfl, rfl, rfl, rfl, rfl⟩ rfl rfl rfl rfl rfl (by kernel_rfl) Tryz.func3 (by kernel_rfl)
  (of_decide_eq_true (by kernel_rfl)) (by unfold Func.isWrapper; first | (rw [if_neg (of_decide_eq_false (by kernel_rfl))]; exact ⟨rfl, rfl⟩) | (rw [if_pos (of_decide_eq_true (by kernel_rfl))]; kernel_rfl))
  (fun os started H enc _ => fnSignAgain_lifted os started H enc)
end Go.Proofs.YtkbegfihdpiacaaGreatDoor.PX
namespace Go.Proofs.YtkbegfihdpiacaaGreatDoor
open Go PX
theorem fnSignAgain_card : Rows.FnSignAgainCardSaid :=
 Claim7.holds_tied_plain_at .later [] [.data, .listed, .sentinel, .sentinel, .sentinel, .sentinel, .pinned] true (true, "6b0dfbd87970962b98e9408edf0d7123d67dee25a3c99a580a1d9bfe25387676") true
  fnSignAgain_holds (fun _ h => by cases h) (by kernel_rfl) (fun _ h => by cases h) fnSignAgain_row_tie rfl ⟨rfl, rfl⟩ (by kernel_rfl) rfl
  (fun f fn hf hfn => by
   obtain rfl : f = 3 := (Option.some.inj ((show Tryz.prog.funcNamed "loop.example/pub-notesandsignatures/laws.FnSignAgain" = some 3 by kernel_rfl).symm.trans hf)).symm
   obtain rfl : fn = Tryz.f3 := (Option.some.inj (Tryz.func3.symm.trans hfn)).symm
   exact ⟨by kernel_rfl, fun j t ht => by
    rw [Tryz.params3] at ht
    have h3 : t = 9 ∨ t = 22 ∨ t = 25 := by
     rcases j with _ | _ | _ | j
     ·exact .inl (by simpa using ht.symm)
     ·exact .inr (.inl (by simpa using ht.symm))
     ·exact .inr (.inr (by simpa using ht.symm))
     ·simp at ht
    rcases h3 with rfl | rfl | rfl
    ·exact (show Tryz.prog.wantsStandIn 9 = false by kernel_rfl)
    ·exact (show Tryz.prog.wantsStandIn 22 = false by kernel_rfl)
    ·exact (show Tryz.prog.wantsStandIn 25 = false by kernel_rfl)⟩)
  (by kernel_rfl)
end Go.Proofs.YtkbegfihdpiacaaGreatDoor
