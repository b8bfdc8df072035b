/- Part 17 of the proof: what the theorem reaches of the texts ZNSign1, ZSEnc, ZRight, ZSmal1, ZAgain, ZAgL. -/
import Derived.Deep.RegionHeld3
import Derived.Test.YtkbegfihdpiacaaGreatDoorKT16
set_option linter.unusedVariables false
set_option linter.unusedSimpArgs false
namespace Go.Proofs.YtkbegfihdpiacaaGreatDoor.PX
open Go.RowKit Nt Go.Lib Go.Maps Go.Proofs.YtkbegfihdpiacaaGreatDoorW.PrintWords Go.Proofs.YtkbegfihdpiacaaGreatDoorW.PrintLast
noncomputable def gN1 (n : ByteArray) (h : Nat) : Value → Option Value := upd (fun _ => none) (keyV n (h : Int)) (.bool true)
theorem gN1_v (n : ByteArray) (h : Nat) (k v : Value) (e : gN1 n h k = some v) : v = .bool true := by
 unfold gN1 upd at e
 split at e
 ·exact (Option.some.inj e).symm
 ·cases e
abbrev hd7 (g l c : Nat) (lr : Int) : Array Value := #[.slice (some ⟨g, 0, none⟩) l c, .int .i64 0, .int .i8 lr]
def outG (gH : Value → Option Value) (t : List UInt8) (sigs unv : List S122) : Nat → List UInt8
 | 0 => t ++ [10]
 | 1 => t ++ [10] ++ emit gH sigs
 | _ => t ++ [10] ++ emit gH sigs ++ emit gH unv
def OG (w0 : World) (b7 b8 b93 : Nat) (c93 : Array Value) (gH : Value → Option Value) (KP : World → Prop) (t : List UInt8) (sigs unv : List S122) (a : Act) (w : World) : Prop :=
 ∃ i : Nat, i ≤ 2 ∧ FrN 153 (FrSo w0.heap.size b7 b8 b93 (i : Int)) a ∧ ES w0 w w0.heap.size b8 b93 c93 gH KP (outG gH t sigs unv i)
theorem newL_len (n : ByteArray) (h : Nat) (s : ByteArray) : 1 ≤ (newL n h s).length := by unfold newL; simp; omega
theorem newL_le (n : ByteArray) (h : Nat) (s : ByteArray) (h1 : n.size ≤ 1000) (h2 : s.size ≤ 1000) : (newL n h s).length ≤ 10000 := by
 have e1 : n.data.toList.length = n.size := rfl
 have e2 : s.data.toList.length = s.size := rfl
 unfold newL
 simp only [List.length_append, encL_len, List.length_cons, List.length_nil, e1, e2, dashL, beL]
 omega
theorem newL_ne (n : ByteArray) (h : Nat) (s : ByteArray) : newL n h s ≠ [] := List.ne_nil_of_length_pos (newL_len n h s)
set_option maxRecDepth 100000 in
set_option maxHeartbeats 4000000 in
theorem nsign1 (w : World) (gN : Nat) (t : List UInt8) (A1 A2 : Option Addr) (c1 c2 gl cl : Nat) (n : ByteArray) (h : Nat) (s : ByteArray) (sigs unv : List S122) (hN : w.heap[gN]? = some (.cells #[.string (S t), .slice A1 sigs.length c1, .slice A2 unv.length c2] 94 (0, 0)))
  (h1 : sigs.length ≤ c1 ∧ Kd.C k122 w A1 sigs.length sigs) (h2 : unv.length ≤ c2 ∧ Kd.C k122 w A2 unv.length unv) (hs1 : ∀ x ∈ sigs, SgW x) (hs2 : ∀ x ∈ unv, SgW x) (hn1 : sigs.length ≤ 1000) (hn2 : unv.length ≤ 1000) (ht : t.length ≤ 1000000) (ht10 : t ≠ [] ∧ t[t.length - 1]? = some 10)
  (hU : Utf8Tabs 3 4 w) (hW : WhiteTab 6 w)
  (hl : w.cell? ⟨gl, 0, none⟩ = some (.iface 88 (makC n h s))) (hn : nameD n.data.toList = true) (hm2 : n.size ≤ 1000) (hz1 : 1 ≤ s.size) (hz2 : s.size ≤ 1000) (hh : h < 4294967296) :
  Calls Tryz.prog 28 #[.pointer (some ⟨gN, 0, none⟩), .slice (some ⟨gl, 0, none⟩) 1 cl] w fun e w' => ∃ v, e = .returned (.tuple #[v, .nilIface]) ∧ w'.ownsRow w.heap.size 5 1 v (outG (gN1 n h) t sigs unv 2 ++ newL n h s).length (Lib.byteCells (outG (gN1 n h) t sigs unv 2 ++ newL n h s)) ∧ Below w.heap.size w w' := by
 have HN := Lib.hid hN
 have HL := Lib.hid hl
 have H1 := Lib.hid h1
 have H2 := Lib.hid h2
 have HS1 := Lib.hid hs1
 have HS2 := Lib.hid hs2
 have HU := Lib.hid hU
 have HW := Lib.hid hW
 have hsuf : hasSuffix t [10] = true := by
  unfold hasSuffix
  rw [List.isSuffixOf_iff_suffix]
  have hp := List.length_pos_iff.2 ht10.1
  obtain ⟨hl, he⟩ := List.getElem?_eq_some_iff.1 ht10.2
  refine ⟨t.take (t.length - 1), ?_⟩
  rw [← he, ← List.take_succ_eq_append_getElem hl, show t.length - 1 + 1 = t.length by omega, List.take_length]
 have hsc : ∀ W, Calls Tryz.prog 47 #[.string (S t), .string ⟨#[10]⟩] W fun e w' => e = .returned (.bool true) ∧ W = w' := fun W => by
  have := Tryz.strings_HasSuffix (S t) ⟨#[10]⟩ W (by rw [S_sz]; omega)
  rw [show hasSuffix (S t).data.toList (⟨#[10]⟩ : ByteArray).data.toList = true from hsuf] at this
  exact this.mono fun e w' h => ⟨h.1, h.2.symm⟩
 have HSC := Lib.hid hsc
 have hmm := @run_makeMap Tryz.prog
 clear hN hl h1 h2 hs1 hs2 hU hW hsuf hsc
 obtain ⟨n0, n1, n2, m0, m1, m2⟩ := three HN.out
 have hlt := blk_lt HN.out
 go_enter Tryz.func28, Tryz.ntmps28
 go_upto_region 2 with fail
 have hbuf := Lib.fresh_isBuffer 135 5 w
 have hB := (Below.refl w.heap.size w).alloc (Nat.le_refl _) (.cells #[.slice none 0 0, .int .i64 0, .int .i8 0] 135)
 have hz : (w.alloc (.cells #[.slice none 0 0, .int .i64 0, .int .i8 0] 135)).heap.size = w.heap.size + 1 := by simp
 generalize w.alloc (.cells #[.slice none 0 0, .int .i64 0, .int .i8 0] 135) = W1 at *
 have HB1 := Lib.hid hB
 have HBUF := Lib.hid (show Buf w w.heap.size [] W1 from hbuf)
 have HZ := Lib.hid hz
 clear hbuf hB hz n0 n1 n2 m0 m1 m2
 obtain ⟨n0, n1, n2, m0, m1, m2⟩ := three ((HB1.out.block _ hlt).trans HN.out)
 go_upto_region 5 with (first
  | (go_at_call 47; refine (HSC.out _).mono ?_; rintro e w2 ⟨rfl, rfl⟩)
  | (go_at_call 48; refine (wsk w w.heap.size [] (S t) W1 HBUF.out HB1.out.size (by rw [S_sz]; simp; omega)).mono ?_; rintro e w3 hw3; have HW3 := Lib.hid hw3; obtain ⟨rfl, -⟩ := hw3)
  | fail)
 have hb3 := HW3.out.2.2.1
 have hB3 := HB1.out.trans hb3
 have hbuf := HW3.out.2.1
 have HN3 := Lib.hid ((hB3.block _ hlt).trans HN.out)
 have HB3 := Lib.hid hB3
 have HBUF3 := Lib.hid (show Buf w w.heap.size t w3 from hbuf)
 have hlt3 := hbuf.lt
 obtain ⟨g6, c6, lr6, cur6, hbr3⟩ := br_of hbuf ht10.1
 have hgb7 := blk_lt hbr3.1.row
 have HBR := Lib.hid hbr3
 have hb33 := Below.refl w3.heap.size w3
 clear hbr3
 clear hb3 hB3 hbuf HW3 HBUF HB1 HZ n0 n1 n2 m0 m1 m2
 go_upto_region 6 with fail
 have hb4 := (Below.refl w3.heap.size w3).alloc (Nat.le_refl _) (.cells #[.slice none 0 0, .int .i64 0, .int .i8 0] 135)
 have hk4 := heap_alloc_new w3 (.cells #[.slice none 0 0, .int .i64 0, .int .i8 0] 135)
 have hbuf4 := Lib.IsBuffer.old HBUF3.out hb4
 have hB4 := HB3.out.trans (hb4.mono HB3.out.size)
 generalize hW4 : w3.alloc (.cells #[.slice none 0 0, .int .i64 0, .int .i8 0] 135) = W4 at *
 have hne7 : w3.heap.size ≠ w.heap.size := by omega
 have hb34 := hb33.trans hb4
 generalize hb7 : w3.heap.size = b7 at *
 have HB4 := Lib.hid hB4
 have HK4 := Lib.hid (show KP7 b7 W4 from hk4)
 have HBUF4 := Lib.hid (show Buf w w.heap.size t W4 from hbuf4)
 clear hb4 hk4 hbuf4 hB4 hW4 hb7 HB3 HN3 HBUF3 hb33
 have HEH := Lib.hid (eh0 w w.heap.size b7 hne7 HU.out HW.out)
 go_upto_block 0 with fail
 have hb5 := (Below.refl W4.heap.size W4).alloc (Nat.le_refl _) (.map #[] 0)
 have hm5 := MapR.made Tryz.prog 126 W4
 have hlt6 := HBUF4.out.lt
 have hne8 : W4.heap.size ≠ w.heap.size := by omega
 have hbuf5 := Lib.IsBuffer.old HBUF4.out hb5
 have hk5 := HEH.out.kpB _ _ HK4.out hb5
 have hB5 := HB4.out.trans (hb5.mono HB4.out.size)
 have h78 := blk_lt HK4.out
 have HB35 := Lib.hid (hb34.trans (hb5.mono (Nat.le_of_lt h78)))
 generalize W4.alloc (.map #[] 0) = W5 at *
 generalize W4.heap.size = b8 at *
 have HM5 := Lib.hid hm5
 have HBUF5 := Lib.hid (show Buf w w.heap.size t W5 from hbuf5)
 have HK5 := Lib.hid hk5
 have HB5 := Lib.hid hB5
 clear hb5 hm5 hbuf5 hk5 hB5 hlt6 HB4 HK4 HBUF4
 have hbr5 := HBR.out.1.keep HB35.out hlt3 hgb7
 refine yloop w W5 t gN w.heap.size b7 b8 gl cl g6 c6 lr6 cur6 n h s HU.out HW.out HB5.out (Nat.le_of_lt hlt3) ⟨Below.refl _ _, HK5.out, HM5.out⟩ hbr5 hlt3 hgb7 h78 ht10.1 (pw_cell_below HB5.out HL.out) hn hm2 hz1 hz2 hh _ ⟨rfl, rfl, by repeat (first | exact ks_nil _ | refine ks_cons rfl ?_)⟩ _ ?_
 intro a9 W9 hF hS9
 obtain ⟨g7, c7, lr7, cur7, hbr7, hg7⟩ := br_of hS9.buf (newL_ne n h s)
 have hbr6 := hbr5.keep hS9.below hlt3 hgb7
 have hB9 := HB5.out.trans (hS9.below.mono (Nat.le_of_lt hlt3))
 have HKP := Lib.hid (show KPR w.heap.size b7 g7 (hd7 g7 (newL n h s).length c7 lr7) cur7 W9 from ⟨hbr7.hd, hbr7.row, g6, _, c6, lr6, hbr6.hd, List.length_pos_iff.2 ht10.1, by omega⟩)
 have HB9 := Lib.hid hB9
 have HBR7 := Lib.hid hbr7
 have HM9 := Lib.hid hS9.map
 have HBUF9 := Lib.hid (show Buf w w.heap.size t W9 from hbr6.buf (Nat.le_refl _) HBR.out.2)
 have HEH := Lib.hid (ehR w w.heap.size b7 g7 (hd7 g7 (newL n h s).length c7 lr7) cur7 (gN1 n h) hne7 (gN1_v n h) HU.out HW.out : EH w w.heap.size (gN1 n h) (KPR w.heap.size b7 g7 (hd7 g7 (newL n h s).length c7 lr7) cur7))
 clear hbr5 hbr6 hbr7 hS9 hB9 HB5 HM5 HBUF5 HK5
 obtain ⟨g, rfl, hg⟩ := hF.lit range153
 clear hF
 simp only [List.forall_mem_cons] at hg
 obtain ⟨k0, k6, k7, k8, -⟩ := hg
 unfold litE
 simp only [k0, k6, k7, k8]
 clear k0 k6 k7 k8
 obtain ⟨n0, n1, n2, m0, m1, m2⟩ := three ((HB9.out.block _ hlt).trans HN.out)
 go_upto_region 28 with (go_at_call 48; refine (HEH.out.ws t ⟨#[10]⟩ _ HBUF9.out HKP.out HB9.out.size (by show t.length + 1 ≤ _; omega)).mono ?_; rintro e w6 hw6; have HW6 := Lib.hid hw6; obtain ⟨rfl, -⟩ := hw6)
 have hB6 := HB9.out.trans HW6.out.2.2.1
 have HB6 := Lib.hid hB6
 clear n0 n1 n2 m0 m1 m2 hB6
 obtain ⟨n0, n1, n2, m0, m1, m2⟩ := three ((HB6.out.block _ hlt).trans HN.out)
 go_region_held3 (fun W => Below w6.heap.size w6 W ∧ W.cell? ⟨gN, 1, none⟩ = some (.slice A1 sigs.length c1) ∧ W.cell? ⟨gN, 2, none⟩ = some (.slice A2 unv.length c2))
  (first | exact ⟨below_drew1 (Below.refl _ _), n1, n2⟩ | exact hold2 n1 n2 | fail) (fail)
 go_upto_block 2 with fail
 have hb7 := (Below.refl w6.heap.size w6).alloc (Nat.le_refl _) (.cells #[.slice A1 sigs.length c1, .slice A2 unv.length c2] 91)
 have hES : ES w (w6.alloc (.cells #[.slice A1 sigs.length c1, .slice A2 unv.length c2] 91)) w.heap.size b8 w6.heap.size #[.slice A1 sigs.length c1, .slice A2 unv.length c2] (gN1 n h) (KPR w.heap.size b7 g7 (hd7 g7 (newL n h s).length c7 lr7) cur7) (outG (gN1 n h) t sigs unv 0) :=
  {below := HB6.out.trans (hb7.mono HB6.out.size)
   buf := Lib.IsBuffer.old (show Buf w w.heap.size (t ++ [10]) w6 from HW6.out.2.1) hb7
   map := by
    obtain ⟨es, clock, hb, _⟩ := id HM9.out
    exact (HM9.out.keep ((HW6.out.2.2.2.1 b8 _ hb (fun e => hne8 (Option.some.inj e)) (fun c f e => by cases e)).trans hb.symm)).below hb7
   lit := heap_alloc_new w6 _
   kp := HEH.out.kpB _ _ HW6.out.2.2.2.2 hb7
   ne := hne8 }
 have hES' : ES w (w6.alloc (.cells #[.slice A1 sigs.length c1, .slice A2 unv.length c2] 91)).drew w.heap.size b8 w6.heap.size #[.slice A1 sigs.length c1, .slice A2 unv.length c2] (gN1 n h) (KPR w.heap.size b7 g7 (hd7 g7 (newL n h s).length c7 lr7) cur7) (outG (gN1 n h) t sigs unv 0) := hES.step HEH.out (below_drew1 (Below.refl _ _))
 have HES := Lib.hid hES'
 have hO : (outG (gN1 n h) t sigs unv 0).length ≤ 10000000000 ∧ (outG (gN1 n h) t sigs unv 1).length ≤ 10000000000 ∧ (outG (gN1 n h) t sigs unv 2).length ≤ 20000000000 := by
  have hem := emit_len (gN1 n h) sigs HS1.out
  have hem2 := emit_len (gN1 n h) unv HS2.out
  refine ⟨by show (t ++ [10]).length ≤ _; simp; omega, ?_, ?_⟩
  ·show (t ++ [10] ++ emit (gN1 n h) sigs).length ≤ _
   rw [List.length_append, List.length_append, List.length_singleton]
   omega
  ·show (t ++ [10] ++ emit (gN1 n h) sigs ++ emit (gN1 n h) unv).length ≤ _
   rw [List.length_append, List.length_append, List.length_append, List.length_singleton]
   omega
 have HO := Lib.hid hO
 clear hb7 hES hES' hO
 generalize (w6.alloc (.cells #[.slice A1 sigs.length c1, .slice A2 unv.length c2] 91)).drew = W7 at *
 generalize w6.heap.size = b93 at *
 refine wp_block ?_
 refine wp_loop (OG w b7 b8 b93 #[.slice A1 sigs.length c1, .slice A2 unv.length c2] (gN1 n h) (KPR w.heap.size b7 g7 (hd7 g7 (newL n h s).length c7 lr7) cur7) t sigs unv) Omus ⟨0, by decide, ⟨rfl, rfl, by repeat (first | exact ks_nil _ | refine ks_cons rfl ?_)⟩, HES.out⟩ ?_
 clear HES HW6 HB6 HM9 n0 n1 n2 m0 m1 m2
 rintro a wx ⟨i, hi, hF, hS⟩
 have HS := Lib.hid hS
 clear hS
 obtain ⟨g, rfl, hg⟩ := hF.lit range153
 clear hF
 simp only [List.forall_mem_cons] at hg
 obtain ⟨k6, k7, k8, k93, k94, k95, -⟩ := hg
 unfold litE
 simp only [k6, k7, k8, k93, k94, k95]
 clear k6 k7 k8 k93 k94 k95
 have hi3 : i = 0 ∨ i = 1 ∨ i = 2 := by omega
 rcases hi3 with rfl | rfl | rfl
 ·obtain ⟨g0, g1⟩ := two93 HS.out.lit
  go_upto_block 4 with fail
  refine eloop w wx w.heap.size b7 b8 b93 #[.slice A1 sigs.length c1, .slice A2 unv.length c2] _ _ HEH.out 0 A1 c1 sigs HS1.out hn1 (outG (gN1 n h) t sigs unv 0) HO.out.1 H1.out.2 _ ?_ _ ?_
  ·exact ⟨0, Nat.zero_le _, ⟨rfl, rfl, by repeat (first | exact ks_nil _ | refine ks_cons rfl ?_)⟩, by rw [List.take_zero, show emit (gN1 n h) [] = [] from rfl, List.append_nil]; exact HS.out⟩
  ·intro a2 w2 hF2 hS2
   have HS2' := Lib.hid hS2
   clear hS2
   obtain ⟨g, rfl, hg⟩ := hF2.lit range153
   clear hF2
   simp only [List.forall_mem_cons] at hg
   obtain ⟨k6, k7, k8, k93, k94, k95, -⟩ := hg
   unfold litE
   simp only [k6, k7, k8, k93, k94, k95]
   clear k6 k7 k8 k93 k94 k95
   go_wp2_with fail
   exact ⟨⟨1, by decide, ⟨rfl, rfl, by repeat (first | exact ks_nil _ | refine ks_cons rfl ?_)⟩, HS2'.out⟩, by show 2 - (1 : Int).toNat < 2 - (0 : Int).toNat; decide⟩
 ·obtain ⟨g0, g1⟩ := two93 HS.out.lit
  go_upto_block 4 with fail
  refine eloop w wx w.heap.size b7 b8 b93 #[.slice A1 sigs.length c1, .slice A2 unv.length c2] _ _ HEH.out 1 A2 c2 unv HS2.out hn2 (outG (gN1 n h) t sigs unv 1) HO.out.2.1 H2.out.2 _ ?_ _ ?_
  ·exact ⟨0, Nat.zero_le _, ⟨rfl, rfl, by repeat (first | exact ks_nil _ | refine ks_cons rfl ?_)⟩, by rw [List.take_zero, show emit (gN1 n h) [] = [] from rfl, List.append_nil]; exact HS.out⟩
  ·intro a2 w2 hF2 hS2
   have HS2' := Lib.hid hS2
   clear hS2
   obtain ⟨g, rfl, hg⟩ := hF2.lit range153
   clear hF2
   simp only [List.forall_mem_cons] at hg
   obtain ⟨k6, k7, k8, k93, k94, k95, -⟩ := hg
   unfold litE
   simp only [k6, k7, k8, k93, k94, k95]
   clear k6 k7 k8 k93 k94 k95
   go_wp2_with fail
   exact ⟨⟨2, by decide, ⟨rfl, rfl, by repeat (first | exact ks_nil _ | refine ks_cons rfl ?_)⟩, HS2'.out⟩, by show 2 - (2 : Int).toNat < 2 - (1 : Int).toNat; decide⟩
 ·have hbr8 : BR b7 g7 c7 (newL n h s) wx lr7 cur7 := { HBR7.out with hd := HS.out.kp.hd, row := HS.out.kp.row }
  have HI7 := Lib.hid (hbr8.buf (Nat.zero_le _) (Nat.zero_le _))
  have HNL := Lib.hid (newL_len n h s)
  have HO2 := Lib.hid (show (Lib.byteCells (outG (gN1 n h) t sigs unv 2)).length + (newL n h s).length ≤ 140737488355328 by
   have := newL_le n h s hm2 hz2
   have := HO.out.2.2
   rw [Lib.byteCells_length]; omega)
  clear hbr8
  go_upto_region 49 with (first
   | (go_at_call 49; refine (Tryz.Buffer_Bytes 0 b7 _ _ HI7.out).mono ?_; rintro e w8 ⟨v8, rfl, hown8, ⟨m8, rfl⟩⟩; rw [Lib.byteCells_length] at hown8; obtain ⟨ga, ca, rfl, -, -, hsrc, cu, hcu⟩ := src_own hown8 HNL.out; have HSR := Lib.hid hsrc; have hgne := ne_buf hcu (HS.out.buf.drewN m8) (by decide); clear hown8 hsrc hcu)
   | (go_at_call 52; refine (Any.Buffer_Write_any Tryz.laysM180 w.heap.size w.heap.size _ (Lib.byteCells (newL n h s)) ⟨ga, 0, none⟩ (newL n h s).length ca _ (HS.out.buf.drewN m8) HS.out.below.size (Lib.byteCells_one _) (Lib.byteCells_length _) hgne (src_cells HSR.out) (Lib.byteCells_one _) HO2.out).mono ?_; rintro e w9 ⟨rfl, hI, hb9, -⟩; have HI := Lib.hid hI; have HB9' := Lib.hid ((pw_below_drewN HS.out.below m8).trans hb9); clear hI hb9)
   | fail)
  go_wp2_with (go_at_call 49; refine (Tryz.Buffer_Bytes w.heap.size w.heap.size _ _ HI.out).mono ?_; rintro e w10 ⟨v, rfl, hown, ⟨m10, rfl⟩⟩)
  go_ret2
  refine ⟨v, rfl, ?_, pw_below_drewN HB9'.out m10⟩
  rw [← Lib.byteCells_append, Lib.byteCells_length] at hown
  exact hown
end Go.Proofs.YtkbegfihdpiacaaGreatDoor.PX
namespace Go.Proofs.YtkbegfihdpiacaaGreatDoor.PX
open Go.RowKit Nt Go.Lib Go.Maps Go.Proofs.YtkbegfihdpiacaaGreatDoorW.PrintWords Go.Proofs.YtkbegfihdpiacaaGreatDoorW.PrintLast Go.Proofs.YtkbegfihdpiacaaGreatDoorW.PrintMore
attribute [local go_sem] max2_int min2_int max_two min_two max_three min_three max_four min_four
def vf (x : Nat → UInt8) : Nat → Nat
 | 0 => 0
 | j + 1 => vf x j * 256 + (x j).toNat
def qd (K v j : Nat) : UInt8 := if j ≤ K then fgc (v / 2 ^ (18 - 6 * j) % 64) else 61
theorem wrapi (n : Int) (h0 : 0 ≤ n) (h1 : n < 2 ^ 62) : IntKind.i64.wrap n = n := by
 rw [IntKind.wrap_i64]; omega
theorem mask63i (v d : Nat) (hv : v < 16777216) : bits .and .i64 ((v : Int) / (d : Int)) 63 = ((v / d % 64 : Nat) : Int) := by
 have hd := Nat.div_le_self v d
 rw [← Int.natCast_ediv]
 generalize v / d = q at *
 have := bits_mask .i64 62 (by decide) wrapi 6 (by decide) (q : Int) (by omega) (by omega)
 rw [show ((2 : Int) ^ 6 - 1) = 63 by decide, show ((2 : Int) ^ 6) = 64 by decide] at this
 rw [this]
 omega
theorem S_app (a b : List UInt8) : S a ++ S b = S (a ++ b) := by
 rw [← S_data (S a ++ S b), show (S a ++ S b).data.toList = (S a).data.toList ++ (S b).data.toList by simp]; rfl
abbrev figs : ByteArray := ⟨#[65, 66, 67, 68, 69, 70, 71, 72, 73, 74, 75, 76, 77, 78, 79, 80, 81, 82, 83, 84, 85, 86, 87, 88, 89, 90, 97, 98, 99, 100, 101, 102, 103, 104, 105, 106, 107, 108, 109, 110, 111, 112, 113, 114, 115, 116, 117, 118, 119, 120, 121, 122, 48, 49, 50, 51, 52, 53, 54, 55, 56, 57, 43, 47]⟩
theorem figs_at (m : Nat) (h : m < 64) : figs.extract m (m + 1) = S [fgc m] := by
 rw [← S_data (figs.extract m (m + 1)), S_extract]
 have e : figs.data.toList = alph := by decide +kernel
 have hl : alph.length = 64 := by decide +kernel
 rw [e, List.drop_eq_getElem_cons (by omega), show m + 1 - m = 0 + 1 by omega, List.take_succ_cons, List.take_zero]
 unfold fgc
 rw [List.getD_eq_getElem?_getD, List.getElem?_eq_getElem (by omega)]; rfl
theorem stepq {a base : List UInt8} {K v j m : Nat} (ha : a = base ++ (List.range j).map (qd K v)) (hm : v / 2 ^ (18 - 6 * j) % 64 = m) (hjK : j ≤ K) : S a ++ figs.extract m (m + 1) = S (base ++ (List.range (j + 1)).map (qd K v)) := by
 have hl : m < 64 := by rw [← hm]; exact Nat.mod_lt _ (by decide)
 rw [figs_at m hl, S_app, ha, List.range_succ, List.map_append, ← List.append_assoc, List.map_singleton, qd, if_pos hjK, hm]
theorem stepp {base : List UInt8} {K v j : Nat} (hjK : ¬ j ≤ K) : S (base ++ (List.range j).map (qd K v)) ++ (⟨#[61]⟩ : ByteArray) = S (base ++ (List.range (j + 1)).map (qd K v)) := by
 rw [show (⟨#[61]⟩ : ByteArray) = S [61] from rfl, S_app, List.range_succ, List.map_append, ← List.append_assoc, List.map_singleton, qd, if_neg hjK]
theorem vf_lt (x : Nat → UInt8) : ∀ j, j ≤ 3 → vf x j < 16777216 := fun j h => by
 have h0 := (x 0).toNat_lt
 have h1 := (x 1).toNat_lt
 have h2 := (x 2).toNat_lt
 have h3 : j = 0 ∨ j = 1 ∨ j = 2 ∨ j = 3 := by omega
 rcases h3 with rfl | rfl | rfl | rfl <;> simp only [vf] <;> omega
theorem quadL : ∀ (d : List UInt8) (K : Nat), d ≠ [] → K = min 3 d.length → encL (d.take 3) = (List.range 4).map (qd K (vf (fun j => d.getD j 0) 3))
 | [], _, h, _ => absurd rfl h
 | [a], K, _, hK => by
  obtain rfl : K = 1 := hK
  have e : vf (fun j => [a].getD j 0) 3 = v3 a 0 0 := by
   show ((0 * 256 + a.toNat) * 256 + (0 : UInt8).toNat) * 256 + (0 : UInt8).toNat = _
   unfold v3; omega
  rw [e]; rfl
 | [a, b], K, _, hK => by
  obtain rfl : K = 2 := hK
  have e : vf (fun j => [a, b].getD j 0) 3 = v3 a b 0 := by
   show ((0 * 256 + a.toNat) * 256 + b.toNat) * 256 + (0 : UInt8).toNat = _
   unfold v3; omega
  rw [e]; rfl
 | a :: b :: c :: r, K, _, hK => by
  obtain rfl : K = 3 := by rw [hK]; simp only [List.length_cons]; omega
  have e : vf (fun j => (a :: b :: c :: r).getD j 0) 3 = v3 a b c := by
   show ((0 * 256 + a.toNat) * 256 + b.toNat) * 256 + c.toNat = _
   unfold v3; omega
  rw [e]
  show encL [a, b, c] = [f0 (v3 a b c), f1 (v3 a b c), f2 (v3 a b c), fgc (v3 a b c / 1 % 64)]
  rw [Nat.div_one, encL, encL]; rfl
theorem quadI (l : List UInt8) (i K : Nat) (hi3 : i % 3 = 0) (hlt : i < l.length) (hK : K = min 3 (l.length - i)) : encL (l.take (i + 3)) = encL (l.take i) ++ (List.range 4).map (qd K (vf (fun j => l.getD (i + j) 0) 3)) := by
 have e : (fun j => l.getD (i + j) 0) = fun j => (l.drop i).getD j 0 := by
  funext j
  rw [List.getD_eq_getElem?_getD, List.getD_eq_getElem?_getD, List.getElem?_drop]
 rw [e, ← quadL (l.drop i) K (fun h => by have := congrArg List.length h; simp at this; omega) (by rw [List.length_drop]; exact hK), List.take_add, encL_app _ _ (by rw [List.length_take]; omega)]
set_option maxRecDepth 100000 in
set_option maxHeartbeats 4000000 in
theorem sencC (s : ByteArray) (w : World) (hs : s.size ≤ 100000) :
  Calls Tryz.prog 30 #[.string s] w fun e w' => e = .returned (.string (S (encL s.data.toList))) ∧ Below w.heap.size w w' := by
 obtain ⟨l, hl⟩ : ∃ l, l = s.data.toList := ⟨_, rfl⟩
 have hlen : l.length = s.size := by rw [hl]; rfl
 rw [← hl]
 have HL := Lib.hid hl
 clear hl
 go_enter Tryz.func30, Tryz.ntmps30
 go_wp2
 go_loopw [4, 5] (fun v4 v5 wr => ∃ i : Nat, i % 3 = 0 ∧ i ≤ s.size + 2 ∧ v4 = .string (S (encL (l.take i))) ∧ v5 = .int .i64 (i : Int) ∧ Below w.heap.size w wr) (fun _ v5 _ => s.size + 3 - (intOf v5).toNat)
 case atStart => exact ⟨0, rfl, by omega, rfl, rfl, Below.refl _ _⟩
 case round =>
  obtain ⟨i, hi3, hi, rfl, rfl, hB⟩ := hrel
  have HB := Lib.hid hB
  clear hB
  by_cases hlt : i < s.size
  ·have a1 : decide ((i : Int) < (s.size : Int)) = true := decide_eq_true (by omega)
   have a2 : decide (i < s.size) = true := decide_eq_true hlt
   obtain ⟨x, hx⟩ : ∃ x : Nat → UInt8, x = fun j => l.getD (i + j) 0 := ⟨_, rfl⟩
   have HX := Lib.hid hx
   obtain ⟨K, hK⟩ : ∃ K : Nat, K = min 3 (s.size - i) := ⟨_, rfl⟩
   have hmin : (if (s.size : Int) - (i : Int) < 3 then (s.size : Int) - (i : Int) else 3) = (K : Int) := by split <;> omega
   have HK := Lib.hid hK
   have hK1 : ∀ j, j < K → i + j < s.size := fun j hj => by omega
   have hK2 : ∀ j, ¬ j < K → j < 3 → s.size ≤ i + j := fun j h1 h2 => by omega
   have HK1 := Lib.hid hK1
   have HK2 := Lib.hid hK2
   clear hx hK hK1 hK2
   go_wp2
   clear hmin a1 a2
   go_loopw [6, 21] (fun v6 v21 wr => ∃ j : Nat, j ≤ 3 ∧ v6 = .int .i64 ((vf x j : Nat) : Int) ∧ v21 = .int .i64 (j : Int) ∧ Below w.heap.size w wr) (fun _ v21 _ => 3 - (intOf v21).toNat)
   case atStart => exact ⟨0, by omega, rfl, rfl, HB.out⟩
   case round =>
    obtain ⟨j, hj, rfl, rfl, hB⟩ := hrel
    have HB2 := Lib.hid hB
    clear hB
    have hv := vf_lt x j hj
    by_cases hj3 : j < 3
    ·have b1 : decide ((j : Int) < 3) = true := decide_eq_true (by omega)
     have b2 : decide (j < 3) = true := decide_eq_true hj3
     by_cases hjK : j < K
     ·have hlj := HK1.out j hjK
      have b3 : decide ((j : Int) < (K : Int)) = true := decide_eq_true (by omega)
      have b4 : decide (j < K) = true := decide_eq_true hjK
      have hsx : ∀ h, s[i + j]'h = x j := fun h => by
       rw [HX.out]
       show _ = l.getD (i + j) 0
       rw [List.getD_eq_getElem?_getD, List.getElem?_eq_getElem (by omega)]
       simp only [HL.out]
       rfl
      have hor : bits .or .i64 (((vf x j : Nat) : Int) * 256) (wrap64 ((x j).toNat : Int)) = ((vf x (j + 1) : Nat) : Int) := by
       have hb := (x j).toNat_lt
       rw [show wrap64 ((x j).toNat : Int) = ((x j).toNat : Int) from IntWalk.wrap64_in _ ⟨by omega, by omega⟩, bits_join .i64 62 (by decide) wrapi 8 _ _ (by omega) (by omega) (by omega) (by omega) (by omega) (by omega)]
       show _ = ((vf x j * 256 + (x j).toNat : Nat) : Int)
       omega
      have HOR := Lib.hid hor
      have HSX := Lib.hid hsx
      clear hor hsx
      go_wp2
      rw [HSX.out, HOR.out]
      go_roundw
      case rel => exact ⟨j + 1, by omega, rfl, by go_num, HB2.out⟩
      case measure => simp [intOf]; omega
     ·have hlj := HK2.out j hjK hj3
      have b3 : decide ((j : Int) < (K : Int)) = false := decide_eq_false (by omega)
      have b4 : decide (j < K) = false := decide_eq_false hjK
      have hx0 : x j = 0 := by
       rw [HX.out]
       show l.getD (i + j) 0 = 0
       rw [List.getD_eq_getElem?_getD, List.getElem?_eq_none (by omega)]; rfl
      go_wp2
      go_roundw
      case rel => exact ⟨j + 1, by omega, by rw [vf, hx0]; congr 1, by go_num, HB2.out⟩
      case measure => simp [intOf]; omega
    ·obtain rfl : j = 3 := by omega
     obtain ⟨v, hv'⟩ : ∃ v, v = vf x 3 := ⟨_, rfl⟩
     rw [← hv'] at hv ⊢
     have HV := Lib.hid hv'
     clear hv' hj3
     go_wp2
     go_loopw [4, 38] (fun v4 v38 wr => ∃ j : Nat, j ≤ 4 ∧ v4 = .string (S (encL (l.take i) ++ (List.range j).map (qd K v))) ∧ v38 = .int .i64 (j : Int) ∧ Below w.heap.size w wr) (fun _ v38 _ => 4 - (intOf v38).toNat)
     case atStart => exact ⟨0, by omega, by simp, rfl, HB2.out⟩
     case round =>
      obtain ⟨j, hj4, rfl, rfl, hB⟩ := hrel
      have HB3 := Lib.hid hB
      clear hB
      by_cases hj5 : j < 4
      ·have b1 : decide ((j : Int) < 4) = true := decide_eq_true (by omega)
       have b2 : decide (j < 4) = true := decide_eq_true hj5
       by_cases hjK : j ≤ K
       ·have b3 : decide ((j : Int) ≤ (K : Int)) = true := decide_eq_true (by omega)
        have b4 : decide (j ≤ K) = true := decide_eq_true hjK
        obtain ⟨a, ha⟩ : ∃ a, a = encL (l.take i) ++ (List.range j).map (qd K v) := ⟨_, rfl⟩
        rw [← ha]
        have hasz : (S a).size ≤ 1000000 := by rw [S_sz, ha, List.length_append, encL_len, List.length_map, List.length_range, List.length_take]; omega
        have HA := Lib.hid ha
        have e0 : bits .and .i64 ((v : Int) / 262144) 63 = ((v / 262144 % 64 : Nat) : Int) := mask63i v 262144 hv
        have e1 : bits .and .i64 ((v : Int) / 4096) 63 = ((v / 4096 % 64 : Nat) : Int) := mask63i v 4096 hv
        have e2 : bits .and .i64 ((v : Int) / 64) 63 = ((v / 64 % 64 : Nat) : Int) := mask63i v 64 hv
        have e3 : bits .and .i64 (v : Int) 63 = ((v / 1 % 64 : Nat) : Int) := by have := mask63i v 1 hv; simpa using this
        have l0 : v / 262144 % 64 < 64 := Nat.mod_lt _ (by decide)
        have l1 : v / 4096 % 64 < 64 := Nat.mod_lt _ (by decide)
        have l2 : v / 64 % 64 < 64 := Nat.mod_lt _ (by decide)
        have l3 : v / 1 % 64 < 64 := Nat.mod_lt _ (by decide)
        clear ha
        generalize hm0 : v / 262144 % 64 = m0 at *
        generalize hm1 : v / 4096 % 64 = m1 at *
        generalize hm2 : v / 64 % 64 = m2 at *
        generalize hm3 : v / 1 % 64 = m3 at *
        have HM0 := Lib.hid hm0
        have HM1 := Lib.hid hm1
        have HM2 := Lib.hid hm2
        have HM3 := Lib.hid hm3
        clear hm0 hm1 hm2 hm3 hv
        rcases (show j = 0 ∨ j = 1 ∨ j = 2 ∨ j = 3 by omega) with rfl | rfl | rfl | rfl
        ·go_wp2
         go_quiet (fail)
         go_wp2
         go_roundw
         case rel => exact ⟨1, by omega, by rw [stepq HA.out HM0.out hjK], rfl, pw_below_drewN HB3.out _⟩
         case measure => simp [intOf]
        ·go_wp2
         go_quiet (fail)
         go_wp2
         go_roundw
         case rel => exact ⟨2, by omega, by rw [stepq HA.out HM1.out hjK], rfl, pw_below_drewN HB3.out _⟩
         case measure => simp [intOf]
        ·go_wp2
         go_quiet (fail)
         go_wp2
         go_roundw
         case rel => exact ⟨3, by omega, by rw [stepq HA.out HM2.out hjK], rfl, pw_below_drewN HB3.out _⟩
         case measure => simp [intOf]
        ·go_wp2
         go_quiet (fail)
         go_wp2
         go_roundw
         case rel => exact ⟨4, by omega, by rw [stepq HA.out HM3.out hjK], rfl, pw_below_drewN HB3.out _⟩
         case measure => simp [intOf]
       ·have b3 : decide ((j : Int) ≤ (K : Int)) = false := decide_eq_false (by omega)
        have b4 : decide (j ≤ K) = false := decide_eq_false hjK
        have hasz : (S (encL (l.take i) ++ (List.range j).map (qd K v))).size ≤ 1000000 := by rw [S_sz, List.length_append, encL_len, List.length_map, List.length_range, List.length_take]; omega
        have HQ := Lib.hid (stepp (base := encL (l.take i)) (v := v) hjK)
        generalize S (encL (l.take i) ++ (List.range j).map (qd K v)) = a at *
        go_wp2
        rw [HQ.out]
        go_roundw
        case rel => exact ⟨j + 1, by omega, rfl, by go_num, HB3.out⟩
        case measure => simp [intOf]; omega
      ·obtain rfl : j = 4 := by omega
       have HQ := Lib.hid (show encL (l.take (i + 3)) = encL (l.take i) ++ (List.range 4).map (qd K v) by rw [HV.out, HX.out]; exact quadI l i K hi3 (by omega) (by rw [HK.out, hlen]))
       generalize encL (l.take i) ++ (List.range 4).map (qd K v) = a at *
       go_wp2
       go_roundw
       case rel => exact ⟨i + 3, by omega, by omega, by rw [HQ.out], by go_num, HB3.out⟩
       case measure => simp [intOf]; omega
  ·go_wp2
   go_ret
   refine ⟨?_, HB.out⟩
   rw [List.take_of_length_le (by omega)]
   rfl
end Go.Proofs.YtkbegfihdpiacaaGreatDoor.PX
namespace Go.Proofs.YtkbegfihdpiacaaGreatDoor.PX
open Go.RowKit Nt Go.Lib Go.Maps Go.Proofs.YtkbegfihdpiacaaGreatDoorW.PrintWords Go.Proofs.YtkbegfihdpiacaaGreatDoorW.PrintLast
structure MK (w : World) (g : Nat) (n : ByteArray) (h : Int) (s : ByteArray) (f : Bool) : Prop where
 c0 : w.cell? ⟨g, 0, none⟩ = some (.string n)
 c1 : w.cell? ⟨g, 1, none⟩ = some (.int .u32 h)
 c2 : w.cell? ⟨g, 2, none⟩ = some (.string s)
 c3 : w.cell? ⟨g, 3, none⟩ = some (.bool f)
theorem MK.below {w w' : World} {g : Nat} {n : ByteArray} {h : Int} {s : ByteArray} {f : Bool} (H : MK w g n h s f) (hb : Below w.heap.size w w') : MK w' g n h s f :=
 ⟨pw_cell_below hb H.c0, pw_cell_below hb H.c1, pw_cell_below hb H.c2, pw_cell_below hb H.c3⟩
theorem MK.new (w : World) (n : ByteArray) (h : Int) (s : ByteArray) (f : Bool) (t : TypeId) : MK (w.alloc (.cells #[.string n, .int .u32 h, .string s, .bool f] t)) w.heap.size n h s f :=
 have b := heap_alloc_new w (.cells #[.string n, .int .u32 h, .string s, .bool f] t)
 ⟨(blk_cell b 0).trans rfl, (blk_cell b 1).trans rfl, (blk_cell b 2).trans rfl, (blk_cell b 3).trans rfl⟩
set_option maxRecDepth 100000 in
set_option maxHeartbeats 4000000 in
theorem rightC (n : ByteArray) (h : Int) (s : ByteArray) (f : Bool) (hn : n.size ≤ 2147483647) : ∃ b, (b = true → nameD n.data.toList = true ∧ plainD n.data.toList = true ∧ f = false ∧ 1 ≤ s.size) ∧ ∀ W g c, MK W g n h s f →
  Calls Tryz.prog 9 #[.slice (some ⟨g, 0, none⟩) 1 c] W fun e w' => e = .returned (.bool b) ∧ Below W.heap.size W w' := by
 refine ⟨nameD n.data.toList && plainD n.data.toList && !f && decide (1 ≤ s.size), fun hb => by simpa [and_assoc] using hb, fun W g c H => ?_⟩
 have hcN := fun W => name_any n W hn
 have hcP : ∀ W, Calls Tryz.prog 18 #[.string n] W fun e w' => e = .returned (.bool (plainD n.data.toList)) ∧ Below W.heap.size W w' := fun W => by
  have := spec_Plain.calls _ (S n.data.toList) _ W (plain_f n.data.toList hn (n.data.toList.length + 1) (by omega))
  rwa [S_data] at this
 have HN := Lib.hid hcN
 have HP := Lib.hid hcP
 have HH := Lib.hid H
 clear hcN hcP H
 generalize nameD n.data.toList = bn at *
 generalize plainD n.data.toList = bp at *
 go_enter Tryz.func9, Tryz.ntmps9
 go_wp2
 go_loopw [9] (fun v wr => ∃ j : Nat, j ≤ 1 ∧ v = .int .i64 (j : Int) ∧ (j = 1 → (bn && bp && !f && decide (1 ≤ s.size)) = true) ∧ Below W.heap.size W wr) (fun v _ => 1 - (intOf v).toNat)
 case atStart => exact ⟨0, by omega, rfl, fun h => by omega, Below.refl _ _⟩
 case round =>
  obtain ⟨j, hj, rfl, hb, hB⟩ := hrel
  rcases (show j = 0 ∨ j = 1 by omega) with rfl | rfl
  ·obtain ⟨c0, c1, c2, c3⟩ := HH.out.below hB
   have HB := Lib.hid hB
   clear hB hb
   go_upto_region 4 with fail
   have HB := Lib.hid (HB.out.alloc HB.out.size (.cells #[.string n, .int .u32 h, .string s, .bool f] 35))
   have H1 := Lib.hid (MK.new wr n h s f 35)
   clear c0 c1 c2 c3
   generalize wr.heap.size = gx at *
   generalize wr.alloc (.cells #[.string n, .int .u32 h, .string s, .bool f] 35) = W1 at *
   obtain ⟨d0, d1, d2, d3⟩ := H1.out
   cases bn with
   | false =>
    go_wp2_with (first
    | (go_at_call 23; refine (HN.out _).mono ?_; rintro e w1 ⟨rfl, hb1⟩; have B1 := Lib.hid (HB.out.trans (hb1.mono HB.out.size)); have H2 := Lib.hid (H1.out.below hb1); obtain ⟨d0, d1, d2, d3⟩ := H2.out; clear hb1)
    | (go_at_call 18; refine (HP.out _).mono ?_; rintro e w2 ⟨rfl, hb2⟩; have B2 := Lib.hid (B1.out.trans (hb2.mono B1.out.size)); have H3 := Lib.hid (H2.out.below hb2); clear d0 d1 d2 d3; obtain ⟨d0, d1, d2, d3⟩ := H3.out; clear hb2)
    | fail)
    go_ret
    exact ⟨by simp, B1.out⟩
   | true =>
    cases bp with
    | false =>
     go_wp2_with (first
    | (go_at_call 23; refine (HN.out _).mono ?_; rintro e w1 ⟨rfl, hb1⟩; have B1 := Lib.hid (HB.out.trans (hb1.mono HB.out.size)); have H2 := Lib.hid (H1.out.below hb1); obtain ⟨d0, d1, d2, d3⟩ := H2.out; clear hb1)
    | (go_at_call 18; refine (HP.out _).mono ?_; rintro e w2 ⟨rfl, hb2⟩; have B2 := Lib.hid (B1.out.trans (hb2.mono B1.out.size)); have H3 := Lib.hid (H2.out.below hb2); clear d0 d1 d2 d3; obtain ⟨d0, d1, d2, d3⟩ := H3.out; clear hb2)
    | fail)
     go_ret
     exact ⟨by simp, B2.out⟩
    | true =>
     cases f with
     | true =>
      go_wp2_with (first
    | (go_at_call 23; refine (HN.out _).mono ?_; rintro e w1 ⟨rfl, hb1⟩; have B1 := Lib.hid (HB.out.trans (hb1.mono HB.out.size)); have H2 := Lib.hid (H1.out.below hb1); obtain ⟨d0, d1, d2, d3⟩ := H2.out; clear hb1)
    | (go_at_call 18; refine (HP.out _).mono ?_; rintro e w2 ⟨rfl, hb2⟩; have B2 := Lib.hid (B1.out.trans (hb2.mono B1.out.size)); have H3 := Lib.hid (H2.out.below hb2); clear d0 d1 d2 d3; obtain ⟨d0, d1, d2, d3⟩ := H3.out; clear hb2)
    | fail)
      go_ret
      exact ⟨by simp, B2.out⟩
     | false =>
      by_cases hs : s.size = 0
      ·obtain rfl : s = ⟨#[]⟩ := by rw [← S_data s]; rw [List.eq_nil_of_length_eq_zero (show s.data.toList.length = 0 from hs)]; rfl
       go_wp2_with (first
    | (go_at_call 23; refine (HN.out _).mono ?_; rintro e w1 ⟨rfl, hb1⟩; have B1 := Lib.hid (HB.out.trans (hb1.mono HB.out.size)); have H2 := Lib.hid (H1.out.below hb1); obtain ⟨d0, d1, d2, d3⟩ := H2.out; clear hb1)
    | (go_at_call 18; refine (HP.out _).mono ?_; rintro e w2 ⟨rfl, hb2⟩; have B2 := Lib.hid (B1.out.trans (hb2.mono B1.out.size)); have H3 := Lib.hid (H2.out.below hb2); clear d0 d1 d2 d3; obtain ⟨d0, d1, d2, d3⟩ := H3.out; clear hb2)
    | fail)
       go_ret
       exact ⟨rfl, B2.out⟩
      ·have hse : s.toList.isEmpty = false := by
        rw [ByteArray.toList_eq]; exact List.isEmpty_eq_false_iff.2 (fun e => hs (by rw [← S_data s, e]; rfl))
       go_wp2_with (first
    | (go_at_call 23; refine (HN.out _).mono ?_; rintro e w1 ⟨rfl, hb1⟩; have B1 := Lib.hid (HB.out.trans (hb1.mono HB.out.size)); have H2 := Lib.hid (H1.out.below hb1); obtain ⟨d0, d1, d2, d3⟩ := H2.out; clear hb1)
    | (go_at_call 18; refine (HP.out _).mono ?_; rintro e w2 ⟨rfl, hb2⟩; have B2 := Lib.hid (B1.out.trans (hb2.mono B1.out.size)); have H3 := Lib.hid (H2.out.below hb2); clear d0 d1 d2 d3; obtain ⟨d0, d1, d2, d3⟩ := H3.out; clear hb2)
    | fail)
       go_loopw [37] (fun v wr => v = .int .i64 0 ∧ w2 = wr) (fun _ _ => 0)
       case atStart => exact ⟨rfl, rfl⟩
       case round =>
        obtain ⟨rfl, rfl⟩ := hrel
        go_wp2
        go_roundw
        case rel => exact ⟨1, by omega, rfl, fun _ => by simp; omega, B2.out⟩
        case measure => simp [intOf]
  ·have HB := Lib.hid hB
   have HQ := Lib.hid (hb rfl)
   clear hB hb
   go_wp2
   go_ret
   exact ⟨by rw [HQ.out]; rfl, HB.out⟩
set_option maxRecDepth 100000 in
theorem bytesC (h : Nat) (hh : h < 4294967296) (s : ByteArray) (hs : s.size ≤ 10000) (w : World) :
  Calls Tryz.prog 31 #[.int .u32 (h : Int), .string s] w fun e w' => e = .returned (.string (S (beL h ++ s.data.toList))) ∧ Below w.heap.size w w' := by
 refine spec_Bytes.calls (h : Int) s (S (beL h ++ s.data.toList)) w ?_
 unfold spec_Bytes.f
 have e : strOfNums [(h : Int) / 16777216 % 256, (h : Int) / 65536 % 256, (h : Int) / 256 % 256, (h : Int) % 256] = S (beL h) := by
  have := Go.Lib.Lz.strOfNums_map (beL h)
  rw [show S (beL h) = ⟨(beL h).toArray⟩ from rfl, ← this]
  unfold beL
  simp only [List.map_cons, List.map_nil, UInt8.toNat_ofNat']
  rfl
 simp only [Option.bind_some]
 rw [e, if_pos (by rw [S_sz]; show 4 + s.size ≤ _; omega)]
 rw [show s = S s.data.toList from (S_data s).symm, S_app, S_data]
theorem new3 (w : World) (x y z : Value) (t : TypeId) (j : Nat) (u : Value) (hj : [x, y, z][j]? = some u) : (w.alloc (.cells #[x, y, z] t)).cell? ((⟨w.heap.size, 0, none⟩ : Addr).add j) = some u := by
 rw [add_plain]
 exact (blk_cell (heap_alloc_new w (.cells #[x, y, z] t)) j).trans (by simpa using hj)
theorem one3 (n : ByteArray) (h : Int) (b : ByteArray) : ∀ u ∈ [Value.string n, .int .u32 h, .string b], u.oneCell' = true := by
 intro u hu
 simp only [List.mem_cons, List.not_mem_nil, or_false] at hu
 rcases hu with rfl | rfl | rfl <;> rfl
theorem one_own {w : World} {B : Nat} {v : Value} {n : ByteArray} {h : Int} {b : ByteArray} (hown : w.ownsRow B 49 3 v 1 [.string n, .int .u32 h, .string b]) : Kd.R k49 49 w B (fun _ => True) v [(⟨n, h, b⟩ : S49)] :=
 ⟨fun _ _ => trivial, _, hown, Reps.snoc (ps := ([] : List S49)) (cs := []) (c := [.string n, .int .u32 h, .string b]) (p := ⟨n, h, b⟩) (Reps.none _ _) (k49_mkM _ _ _ _) rfl⟩
set_option maxRecDepth 100000 in
set_option maxHeartbeats 4000000 in
theorem sigsOf1 (n : ByteArray) (h : Nat) (s : ByteArray) (f : Bool) (hh : h < 4294967296) (hs : s.size ≤ 10000) (W : World) (g c : Nat) (H : MK W g n h s f) :
  Calls Tryz.prog 15 #[.slice (some ⟨g, 0, none⟩) 1 c] W fun e w' => ∃ A d, e = .returned (.slice A 1 d) ∧ 1 ≤ d ∧ Kd.C k49 w' A 1 [(⟨n, (h : Int), S (encL (beL h ++ s.data.toList))⟩ : S49)] ∧ Below W.heap.size W w' := by
 have hB := fun W => bytesC h hh s hs W
 have hE : ∀ W, Calls Tryz.prog 30 #[.string (S (beL h ++ s.data.toList))] W fun e w' => e = .returned (.string (S (encL (beL h ++ s.data.toList)))) ∧ Below W.heap.size W w' := fun W => sencC (S (beL h ++ s.data.toList)) W (by rw [S_sz, List.length_append]; show 4 + s.size ≤ _; omega)
 have HB := Lib.hid hB
 have HE := Lib.hid hE
 have HH := Lib.hid H
 clear hB hE H
 generalize S (encL (beL h ++ s.data.toList)) = b64 at *
 generalize S (beL h ++ s.data.toList) = raw at *
 go_enter Tryz.func15, Tryz.ntmps15
 go_wp2
 have hr0 : Kd.R k49 49 (W.alloc (.cells #[] 49)) W.heap.size (fun _ => True) (.slice (some ⟨W.heap.size, 0, none⟩) 0 0) [] := ⟨fun _ _ => trivial, OwnRow.lit (inner := []) W W.heap.size (Reps.none _ _) (Nat.le_refl _) (by simp)⟩
 go_loopw [3, 9] (fun v3 v9 wr => ∃ j : Nat, j ≤ 1 ∧ v9 = .int .i64 (j : Int) ∧ Below W.heap.size W wr ∧ ((j = 0 ∧ v3 = .slice (some ⟨W.heap.size, 0, none⟩) 0 0 ∧ Kd.R k49 49 wr W.heap.size (fun _ => True) v3 []) ∨ (j = 1 ∧ ∃ A d, v3 = .slice A 1 d ∧ 1 ≤ d ∧ Kd.C k49 wr A 1 [(⟨n, (h : Int), b64⟩ : S49)]))) (fun _ v9 _ => 1 - (intOf v9).toNat)
 case atStart => exact ⟨0, by omega, rfl, (Below.refl _ _).alloc (Nat.le_refl _) _, .inl ⟨rfl, rfl, hr0⟩⟩
 case round =>
  obtain ⟨j, hj, rfl, hB, ⟨rfl, rfl, hr⟩ | ⟨rfl, A, d, rfl, hd, hC⟩⟩ := hrel
  ·obtain ⟨c0, c1, c2, c3⟩ := HH.out.below hB
   go_upto_region 5 with fail
   have HB' := Lib.hid (hB.alloc hB.size (.cells #[.string n, .int .u32 (h : Int), .string s, .bool f] 35))
   have H1 := MK.new wr n h s f 35
   have HR1 := Lib.hid (Kd.R_alloc hr (.cells #[.string n, .int .u32 (h : Int), .string s, .bool f] 35))
   clear c0 c1 c2 c3 hB hr hr0
   generalize wr.heap.size = gx at *
   generalize wr.alloc (.cells #[.string n, .int .u32 (h : Int), .string s, .bool f] 35) = W1 at *
   obtain ⟨d0, d1, d2, -⟩ := H1
   obtain ⟨i0, hi, hz0, hz1, hz2⟩ := info_parts info37'
   go_region_held3 (fun W' => Below W1.heap.size W1 W' ∧ W'.cell? ⟨gx, 0, none⟩ = some (.string n) ∧ W'.cell? ⟨gx, 1, none⟩ = some (.int .u32 (h : Int)) ∧ W'.cell? ⟨gx, 2, none⟩ = some (.string s))
    (first | exact bsI (below_drew1 (Below.refl _ _)) d0 d1 d2 | exact bsI hq1 d0 d1 d2 | exact bsI hq2 d0 d1 d2 | exact bsI (hq2.alloc hq2.size _) d0 d1 d2 | exact bsI hq3 d0 d1 d2 | fail)
    (first
     | (go_at_call 31; with_reducible refine (HB.out _).mono ?_; rintro e w2 ⟨rfl, hb2⟩; have hq1 := (below_drew1 (Below.refl W1.heap.size W1)).trans (hb2.mono (below_drew1 (Below.refl W1.heap.size W1)).size))
     | (go_at_call 30; with_reducible refine (HE.out _).mono ?_; rintro e w3 ⟨rfl, hb3⟩; have hq2 := hq1.trans (hb3.mono hq1.size))
     | (refine step_append_grows rfl _ _ 28 rfl 49 i0 _ 3 40 Tryz.underlying28 hi hz0 hz1 hz2 rfl (by decide) (some ⟨W.heap.size, 0, none⟩) 0 0 [] rfl (fun e => by cases e) rfl (fun b hb j u hj => by cases hj) ⟨w3.heap.size, 0, none⟩ 1 1 [.string n, .int .u32 (h : Int), .string b64] rfl rfl (new3 w3 _ _ _ _) (one3 _ _ _) (by decide) (by decide) (by decide) ?_; intro v4 w4 hown hg4; have hr4 := one_own hown; obtain ⟨A4, c4, rfl⟩ := Kd.R_slice hr4; have hq3 := (hq2.alloc hq2.size (.cells #[.string n, .int .u32 (h : Int), .string b64] 49)).grown hg4 (hq2.alloc hq2.size _).size (fun k hk => by cases hk)))
   go_wp2
   go_roundw
   case rel => exact ⟨1, by omega, rfl, HB'.out.trans (hq3.mono HB'.out.size), .inr ⟨rfl, A4, c4, rfl, (Kd.R_reads' hr4).2.1, (Kd.R_reads' hr4).2.2⟩⟩
   case measure => simp [intOf]
  ·go_wp2
   go_ret
   exact ⟨A, d, rfl, hd, hC, hB⟩
def okS (x : S49) : Bool := decide (x.f0.size ≤ 60) && decide (x.f2.size ≤ 120)
def smallB (t : ByteArray) (l1 l2 : List S49) (n s : ByteArray) : Bool := decide (t.size ≤ 2000) && decide (l1.length ≤ 8) && decide (l2.length ≤ 8) && (l1 ++ l2).all okS && decide (n.size ≤ 60) && decide (s.size ≤ 60)
theorem k37_KM {w w' : World} {base : Nat} {ok : Nat → Prop} {x : S49} {cs : List Value} (h : k49.K w x cs) : k49.M w' base ok x cs := by
 rw [k49_open h]; exact k49_mkM _ _ _ _
theorem keep3 {W W' : World} {B gn tn : Nat} {x0 x1 x2 : Value} (hb : Below B W W') (h : W'.heap[gn]? = some (.cells #[x0, x1, x2] tn (0, 0))) : Below B W W' ∧ W'.cell? ⟨gn, 0, none⟩ = some x0 ∧ W'.cell? ⟨gn, 1, none⟩ = some x1 ∧ W'.cell? ⟨gn, 2, none⟩ = some x2 := by
 obtain ⟨d0, d1, d2, -, -, -⟩ := three h
 exact ⟨hb, d0, d1, d2⟩
set_option maxRecDepth 100000 in
set_option maxHeartbeats 4000000 in
theorem small1 (t : ByteArray) (l1 l2 : List S49) (n : ByteArray) (h : Int) (s : ByteArray) (f : Bool) (h1 : l1.length ≤ 1000000) (h2 : l2.length ≤ 1000000) (W : World) (A1 A2 : Option Addr) (c1 c2 g c : Nat) (k1 : Kd.C k49 W A1 l1.length l1) (k1' : l1.length ≤ c1) (k2 : Kd.C k49 W A2 l2.length l2) (k2' : l2.length ≤ c2) (H : MK W g n h s f) :
  Calls Tryz.prog 10 #[.agg #[.string t, .slice A1 l1.length c1, .slice A2 l2.length c2], .slice (some ⟨g, 0, none⟩) 1 c] W fun e w' => e = .returned (.bool (smallB t l1 l2 n s)) ∧ Below W.heap.size W w' := by
 obtain ⟨b, hb⟩ : ∃ b, b = smallB t l1 l2 n s := ⟨_, rfl⟩
 rw [← hb]
 have HQ := Lib.hid hb
 have HH := Lib.hid H
 have K1 := Lib.hid k1
 have K2 := Lib.hid k2
 clear hb H k1 k2
 go_enter Tryz.func10, Tryz.ntmps10
 go_upto_region 1 with fail
 have HB1 := Lib.hid ((Below.refl W.heap.size W).alloc (Nat.le_refl _) (.cells #[.string t, .slice A1 l1.length c1, .slice A2 l2.length c2] 30))
 have hx1 := heap_alloc_new W (.cells #[.string t, .slice A1 l1.length c1, .slice A2 l2.length c2] 30)
 have hz1 : (W.alloc (.cells #[.string t, .slice A1 l1.length c1, .slice A2 l2.length c2] 30)).heap.size = W.heap.size + 1 := by simp
 generalize W.alloc (.cells #[.string t, .slice A1 l1.length c1, .slice A2 l2.length c2] 30) = W1 at *
 obtain ⟨d0, d1, d2, -, -, -⟩ := three hx1
 have HX1 := Lib.hid hx1
 clear hx1
 by_cases q1 : 2000 < t.size
 ·have p1 : decide (2000 < (t.size : Int)) = true := decide_eq_true (by omega)
  have p1' : decide (2000 < t.size) = true := decide_eq_true q1
  go_wp2
  go_ret
  exact ⟨by rw [HQ.out]; simp [smallB]; omega, HB1.out⟩
 have p1 : decide (2000 < (t.size : Int)) = false := decide_eq_false (by omega)
 have p1' : decide (2000 < t.size) = false := decide_eq_false q1
 by_cases q2 : 8 < l1.length
 ·have p2 : decide (8 < (l1.length : Int)) = true := decide_eq_true (by omega)
  have p2' : decide (8 < l1.length) = true := decide_eq_true q2
  go_wp2
  go_ret
  exact ⟨by rw [HQ.out]; simp [smallB]; omega, HB1.out⟩
 have p2 : decide (8 < (l1.length : Int)) = false := decide_eq_false (by omega)
 have p2' : decide (8 < l1.length) = false := decide_eq_false q2
 by_cases q3 : 8 < l2.length
 ·have p3 : decide (8 < (l2.length : Int)) = true := decide_eq_true (by omega)
  have p3' : decide (8 < l2.length) = true := decide_eq_true q3
  go_wp2
  go_ret
  exact ⟨by rw [HQ.out]; simp [smallB]; omega, HB1.out⟩
 have p3 : decide (8 < (l2.length : Int)) = false := decide_eq_false (by omega)
 have p3' : decide (8 < l2.length) = false := decide_eq_false q3
 go_upto_region 3 with fail
 clear p1 p1' p2 p2' p3 p3'
 have hba := HB1.out.drew.alloc HB1.out.drew.size (.cells #[] 49)
 have hxa : (W1.drew.alloc (.cells #[] 49)).heap[W.heap.size]? = _ := (Below.heap_alloc W1.drew _ _ (blk_lt HX1.out)).trans HX1.out
 have hr0 : Kd.R k49 49 (W1.drew.alloc (.cells #[] 49)) W.heap.size (fun _ => True) (.slice (some ⟨W1.heap.size, 0, none⟩) 0 0) [] := ⟨fun _ _ => trivial, OwnRow.lit (inner := []) W1.drew W.heap.size (Reps.none _ _) HB1.out.drew.size (by simp)⟩
 rw [hz1] at hr0
 go_region_held3 (fun W' => Below W.heap.size W W' ∧ W'.cell? ⟨W.heap.size, 0, none⟩ = some (.string t) ∧ W'.cell? ⟨W.heap.size, 1, none⟩ = some (.slice A1 l1.length c1) ∧ W'.cell? ⟨W.heap.size, 2, none⟩ = some (.slice A2 l2.length c2))
  (first | exact keep3 HB1.out.drew HX1.out | exact keep3 hba hxa | exact keep3 hb4 hx4 | exact keep3 hb5 hx5 | fail)
  (first
   | (refine Kd.R_append_rows_step k49 (w0 := W) W.heap.size (by rfl) _ _ 28 49 _ 40 rfl Tryz.underlying28 info37' rfl (by decide) (by decide) (.slice (some ⟨W.heap.size + 1, 0, none⟩) 0 0) [] l1 A1 l1.length c1 (fun _ => True) (fun _ => False) rfl rfl hr0 (Kd.C_below K1.out hba) (fun x cs hx => k37_KM hx) (fun _ h => h.elim) (fun _ _ => trivial) hba hba.size (by simp; omega) ?_; intro v4 w4 hr4 hb4 hg4 hat4; rw [List.nil_append] at hr4; have hx4 := (hg4.block _ (blk_lt hxa) (by simp [Value.ownBlock])).trans hxa; obtain ⟨A4, c4, rfl⟩ := Kd.R_slice hr4)
   | (refine Kd.R_append_rows_step k49 (w0 := W) W.heap.size (by rfl) _ _ 28 49 _ 40 rfl Tryz.underlying28 info37' rfl (by decide) (by decide) (.slice A4 l1.length c4) l1 l2 A2 l2.length c2 (fun _ => True) (fun _ => False) rfl rfl hr4 (Kd.C_below K2.out hb4) (fun x cs hx => k37_KM hx) (fun _ h => h.elim) (fun _ _ => trivial) hb4 hb4.size (by omega) ?_; intro v5 w5 hr5 hb5 hg5 hat5; have hx5 := (hg5.block _ (blk_lt hx4) (gR_ne hr4 hx4 (by decide))).trans hx4; obtain ⟨A5, c5, rfl⟩ := Kd.R_slice hr5))
 obtain ⟨-, hc5, hC5⟩ := Kd.R_reads' hr5
 obtain ⟨L, hL⟩ : ∃ L, L = l1 ++ l2 := ⟨_, rfl⟩
 rw [← hL] at hC5 hc5 ⊢
 have hLl : L.length ≤ 16 := by rw [hL, List.length_append]; omega
 have e37 : (l1.length : Int) + (l2.length : Int) = (L.length : Int) := by rw [hL, List.length_append]; omega
 have HL := Lib.hid hL
 have HC5 := Lib.hid hC5
 have HB5 := Lib.hid hb5
 have HN : Hid (L.all okS = false → b = false) := Lib.hid (fun e => by rw [HQ.out, smallB, ← HL.out, e]; simp)
 have HS : Hid (L.all okS = true → b = (decide (n.size ≤ 60) && decide (s.size ≤ 60))) := Lib.hid (fun e => by rw [HQ.out, smallB, ← HL.out, e, decide_eq_true (show t.size ≤ 2000 by omega), decide_eq_true (show l1.length ≤ 8 by omega), decide_eq_true (show l2.length ≤ 8 by omega)]; rfl)
 clear hL hC5 hb5 hr5 hb4 hr4 hx4 hx5 hg4 hg5 hba hxa hr0 d0 d1 d2
 go_wp2
 rw [e37]
 clear e37
 go_loopw [38] (fun v wr => ∃ j : Nat, j ≤ L.length ∧ v = .int .i64 (j : Int) ∧ (L.take j).all okS = true ∧ Below W.heap.size W wr ∧ Below w5.heap.size w5 wr) (fun v _ => L.length - (intOf v).toNat)
 case atStart => exact ⟨0, by omega, rfl, by simp, HB5.out, Below.refl _ _⟩
 case round =>
  obtain ⟨j, hj, rfl, ha, hB, hB'⟩ := hrel
  by_cases hlt : j < L.length
  ·obtain ⟨ad, rfl, x0, x1, x2⟩ := at_T49 (Kd.C_below HC5.out hB') (j : Int) (by omega) (by omega)
   rw [rd37 L j hlt, Int.toNat_natCast] at x0 x1 x2
   have hjj : (j : Int) < (L.length : Int) := by omega
   have hd1 : decide ((j : Int) < (L.length : Int)) = true := decide_eq_true hjj
   have hd2 : decide (j < L.length) = true := decide_eq_true hlt
   have HX := Lib.hid (List.getElem_mem hlt)
   have HA := Lib.hid (show okS L[j] = true → (L.take (j + 1)).all okS = true from fun e => by rw [List.take_succ_eq_append_getElem hlt, List.all_append, ha]; simp [e])
   have HB := Lib.hid hB
   have HB' := Lib.hid hB'
   clear hB hB'
   generalize L[j] = x at *
   by_cases b1 : 60 < x.f0.size
   ·have p1 : decide (60 < (x.f0.size : Int)) = true := decide_eq_true (by omega)
    have p1' : decide (60 < x.f0.size) = true := decide_eq_true b1
    go_wp2
    go_ret
    exact ⟨by rw [HN.out (List.all_eq_false.2 ⟨x, HX.out, by simp [okS]; omega⟩)]; rfl, HB.out.alloc HB.out.size _⟩
   ·have p1 : decide (60 < (x.f0.size : Int)) = false := decide_eq_false (by omega)
    have p1' : decide (60 < x.f0.size) = false := decide_eq_false b1
    by_cases b2 : 120 < x.f2.size
    ·have p2 : decide (120 < (x.f2.size : Int)) = true := decide_eq_true (by omega)
     have p2' : decide (120 < x.f2.size) = true := decide_eq_true b2
     go_wp2
     go_ret
     exact ⟨by rw [HN.out (List.all_eq_false.2 ⟨x, HX.out, by simp [okS]; omega⟩)]; rfl, HB.out.alloc HB.out.size _⟩
    ·have p2 : decide (120 < (x.f2.size : Int)) = false := decide_eq_false (by omega)
     have p2' : decide (120 < x.f2.size) = false := decide_eq_false b2
     go_wp2
     go_roundw
     case rel => exact ⟨j + 1, by omega, by go_num, HA.out (by simp [okS]; omega), HB.out.alloc HB.out.size _, HB'.out.alloc HB'.out.size _⟩
     case measure => simp [intOf]; omega
  ·rw [List.take_of_length_le (by omega)] at ha
   have hd1 : decide ((j : Int) < (L.length : Int)) = false := decide_eq_false (by omega)
   have hd2 : decide (j < L.length) = false := decide_eq_false hlt
   have HS' := Lib.hid (HS.out ha)
   have HB := Lib.hid hB
   clear HS HN ha hB hB'
   go_wp2
   go_loopw [55] (fun v wr' => ∃ j : Nat, j ≤ 1 ∧ v = .int .i64 (j : Int) ∧ (j = 1 → b = true) ∧ Below W.heap.size W wr') (fun v _ => 1 - (intOf v).toNat)
   case atStart => exact ⟨0, by omega, rfl, fun e => by omega, HB.out⟩
   case round =>
    obtain ⟨j, hj, rfl, hb, hB⟩ := hrel
    rcases (show j = 0 ∨ j = 1 by omega) with rfl | rfl
    ·obtain ⟨c0, c1, c2, c3⟩ := HH.out.below hB
     by_cases b1 : 60 < n.size
     ·have p1 : decide (60 < (n.size : Int)) = true := decide_eq_true (by omega)
      have p1' : decide (60 < n.size) = true := decide_eq_true b1
      go_wp2
      go_ret
      exact ⟨by rw [HS'.out]; simp; omega, hB.alloc hB.size _⟩
     ·have p1 : decide (60 < (n.size : Int)) = false := decide_eq_false (by omega)
      have p1' : decide (60 < n.size) = false := decide_eq_false b1
      by_cases b2 : 60 < s.size
      ·have p2 : decide (60 < (s.size : Int)) = true := decide_eq_true (by omega)
       have p2' : decide (60 < s.size) = true := decide_eq_true b2
       go_wp2
       go_ret
       exact ⟨by rw [HS'.out]; simp; omega, hB.alloc hB.size _⟩
      ·have p2 : decide (60 < (s.size : Int)) = false := decide_eq_false (by omega)
       have p2' : decide (60 < s.size) = false := decide_eq_false b2
       go_wp2
       go_roundw
       case rel => exact ⟨1, by omega, rfl, fun _ => by rw [HS'.out]; simp; omega, hB.alloc hB.size _⟩
       case measure => simp [intOf]
    ·have HQ1 := Lib.hid (hb rfl)
     clear hb
     go_wp2
     go_ret
     exact ⟨by rw [HQ1.out]; rfl, hB⟩
set_option maxRecDepth 100000 in
theorem fits8 (n : ByteArray) (h : Int) (s : ByteArray) (f : Bool) (W : World) :
  Calls Tryz.prog 5 #[.agg #[.string n, .int .u32 h, .string s, .bool f]] W fun e w' => e = .returned (.bool (decide (n.size ≤ 2147483647) && decide (s.size ≤ 2147483647))) ∧ Below W.heap.size W w' := by
 by_cases q1 : 2147483647 < n.size
 ·have p1 : decide (2147483647 < (n.size : Int)) = true := decide_eq_true (by omega)
  have p1' : decide (2147483647 < n.size) = true := decide_eq_true q1
  rw [decide_eq_false (show ¬ n.size ≤ 2147483647 by omega)]
  go_enter Tryz.func5, Tryz.ntmps5
  go_wp2
  go_ret
  exact ⟨rfl, (Below.refl _ _).alloc (Nat.le_refl _) _⟩
 ·have p1 : decide (2147483647 < (n.size : Int)) = false := decide_eq_false (by omega)
  have p1' : decide (2147483647 < n.size) = false := decide_eq_false q1
  rw [decide_eq_true (show n.size ≤ 2147483647 by omega)]
  by_cases q2 : 2147483647 < s.size
  ·have p2 : decide (2147483647 < (s.size : Int)) = true := decide_eq_true (by omega)
   have p2' : decide (2147483647 < s.size) = true := decide_eq_true q2
   rw [decide_eq_false (show ¬ s.size ≤ 2147483647 by omega)]
   go_enter Tryz.func5, Tryz.ntmps5
   go_wp2
   go_ret
   exact ⟨rfl, (Below.refl _ _).alloc (Nat.le_refl _) _⟩
  ·have p2 : decide (2147483647 < (s.size : Int)) = false := decide_eq_false (by omega)
   have p2' : decide (2147483647 < s.size) = false := decide_eq_false q2
   rw [decide_eq_true (show s.size ≤ 2147483647 by omega)]
   go_enter Tryz.func5, Tryz.ntmps5
   go_wp2
   go_ret
   exact ⟨rfl, (Below.refl _ _).alloc (Nat.le_refl _) _⟩
theorem enc_asc (r c : Nat) (hc : c < 128) (h : UInt8.ofNat c ∈ encodeRune (r : Int)) : r = c := by
 have hcc : (UInt8.ofNat c).toNat = c := by rw [UInt8.toNat_ofNat']; omega
 unfold encodeRune at h
 obtain ⟨x, hx, he⟩ := List.mem_map.1 h
 have he' := congrArg UInt8.toNat he
 rw [hcc] at he'
 by_cases h1 : r ≤ 127
 ·rw [encodeRuneZ_one (by omega) (by omega), List.mem_singleton] at hx
  subst hx
  simp at he'
  omega
 ·have key : 128 ≤ x ∧ x < 256 := by
   unfold encodeRuneZ at hx
   repeat' split at hx
   all_goals simp at hx
   all_goals omega
  simp at he'
  omega
theorem name_asc {l : List UInt8} (h : nameD l = true) (c : Nat) (hc : c = 32 ∨ c = 10) : UInt8.ofNat c ∉ l := by
 intro hm
 unfold nameD at h
 rw [Bool.and_eq_true, Bool.and_eq_true] at h
 have he : encs (runesD l) = l := by
  rcases encs_runes l.length l rfl with ⟨_, k⟩ | ⟨a, _⟩
  ·exact k
  ·rw [a] at h; cases h.2.2
 rw [← he] at hm
 simp only [Nt.encs, List.mem_flatten, List.mem_map] at hm
 obtain ⟨b, ⟨r, hr, rfl⟩, hb⟩ := hm
 have hrc := enc_asc r c (by omega) hb
 have := List.all_eq_true.1 h.1 r hr
 rw [hrc] at this
 rcases hc with rfl | rfl <;> exact absurd this (by decide)
theorem blank_app : ∀ (a b : List UInt8), (32 : UInt8) ∉ a → blank (a ++ 32 :: b) = a.length
 | [], b, _ => by simp [blank]
 | x :: a, b, h => by
  rw [List.cons_append, blank, if_neg (fun e => h (by rw [e]; simp)), blank_app a b fun e => h (List.mem_cons_of_mem _ e)]
  rfl
theorem hash_be (h : Nat) (hh : h < 4294967296) (r : List UInt8) : hashL (beL h ++ r) = h := by
 show be4 (UInt8.ofNat (h / 16777216)).toNat (UInt8.ofNat (h / 65536)).toNat (UInt8.ofNat (h / 256)).toNat (UInt8.ofNat h).toNat = h
 simp only [UInt8.toNat_ofNat']
 unfold be4
 omega
theorem plain_app {a b : List UInt8} (ha : plainD a = true) (hb : plainD b = true) : plainD (a ++ b) = true := by
 unfold plainD at ha hb ⊢
 rw [Bool.and_eq_true] at ha hb ⊢
 rw [valid_app _ a b rfl ha.2]
 refine ⟨?_, hb.2⟩
 have h1 := ha.1
 have h2 := hb.1
 unfold lowD at h1 h2 ⊢
 rw [List.all_append, h1, h2]; rfl
theorem plain_asc : ∀ (l : List UInt8), (∀ x ∈ l, 32 ≤ x.toNat ∧ x.toNat < 127) → plainD l = true
 | [], _ => rfl
 | a :: l, h => by
  have ha := h a (List.mem_cons_self ..)
  refine plain_app (a := [a]) ?_ (plain_asc l fun x hx => h x (List.mem_cons_of_mem _ hx))
  unfold plainD
  rw [validD_cons _ _ (by omega)]
  unfold lowD
  simp only [List.all_cons, List.all_nil, Bool.and_true, decide_eq_true ha.1, Bool.true_or, Bool.true_and]
  rfl
def newS (n : ByteArray) (h : Nat) (sg : ByteArray) : S122 := ⟨n, (h : Int), S (encL (beL h ++ sg.data.toList))⟩
theorem newL_eq (n : ByteArray) (h : Nat) (sg : ByteArray) : newL n h sg = lineS (newS n h sg) ++ [10] := by
 unfold newL lineS sgLine newS
 show _ = dashL ++ (n.data.toList ++ 32 :: encL (beL h ++ sg.data.toList)) ++ [10]
 simp
theorem newS_F (n : ByteArray) (h : Nat) (sg : ByteArray) (hn : nameD n.data.toList = true) (hh : h < 4294967296) (hs : 1 ≤ sg.size) : SgF (newS n h sg) := by
 have e0 : (lineS (newS n h sg)).take 4 = dashL := rfl
 have e1 : (lineS (newS n h sg)).drop 4 = n.data.toList ++ 32 :: encL (beL h ++ sg.data.toList) := rfl
 have hb := blank_app n.data.toList (encL (beL h ++ sg.data.toList)) (name_asc hn 32 (.inl rfl))
 have hz : sg.data.toList.length = sg.size := rfl
 have := line_fine (lineS (newS n h sg)) e0 (by rw [e1, hb, List.length_append, List.length_cons]; omega) (beL h ++ sg.data.toList) (by rw [e1, hb, List.drop_append, List.drop_eq_nil_of_le (by omega), show n.data.toList.length + 1 - n.data.toList.length = 1 by omega]; exact std_encL _) (by rw [e1, hb, List.take_left' rfl]; exact hn) (by rw [List.length_append, hz]; show 5 ≤ 4 + sg.size; omega)
 obtain ⟨r0, r1, r2, r3, -⟩ := this
 refine ⟨r0, ?_⟩
 unfold sgOf
 rw [r1, r2, r3, e1, hb, List.take_left' rfl, List.drop_append, List.drop_eq_nil_of_le (by omega), show n.data.toList.length + 1 - n.data.toList.length = 1 by omega, hash_be h hh, S_data]
 rfl
theorem newS_plain (n : ByteArray) (h : Nat) (sg : ByteArray) (hn : nameD n.data.toList = true) (hp : plainD n.data.toList = true) : plainD (lineS (newS n h sg)) = true ∧ 10 ∉ lineS (newS n h sg) := by
 have ha := encL_ascii (beL h ++ sg.data.toList)
 refine ⟨plain_app (a := dashL) (by decide +kernel) (plain_app hp (plain_app (a := [32]) (by decide +kernel) (plain_asc _ ha))), fun hm => ?_⟩
 rcases List.mem_append.1 (show (10 : UInt8) ∈ dashL ++ (n.data.toList ++ 32 :: encL (beL h ++ sg.data.toList)) from hm) with hm | hm
 ·exact absurd hm (by decide)
 ·rcases List.mem_append.1 hm with hm | hm
  ·exact name_asc hn 10 (.inr rfl) hm
  ·rcases List.mem_cons.1 hm with hm | hm
   ·exact absurd hm (by decide)
   ·exact absurd (ha _ hm).1 (by decide)
def other (n : ByteArray) (h : Int) (x : S122) : Bool := decide (¬ (x.f0 = n ∧ x.f1 = h))
theorem outG_wr (t : List UInt8) (s u : List S122) (n : ByteArray) (h : Nat) (sg : ByteArray) : outG (gN1 n h) t s u 2 ++ newL n h sg = wr t (((s ++ u).filter (other n h) ++ [newS n h sg]).map lineS) := by
 have hf : ∀ x : S122, (gN1 n h (keyV x.f0 x.f1)).isNone = other n h x := fun x => by
  unfold gN1 upd other
  by_cases e : keyV x.f0 x.f1 = keyV n (h : Int)
  ·have c := keyV_inj e
   rw [if_pos e]; simp [c]
  ·have c : ¬ (x.f0 = n ∧ x.f1 = (h : Int)) := fun c => e (by rw [c.1, c.2])
   rw [if_neg e]; simp [c]
 have he : ∀ l, emit (gN1 n h) l = flat ((l.filter (other n h)).map lineS) := fun l => by
  unfold emit
  rw [List.filter_congr (fun x _ => hf x)]
 show t ++ [10] ++ emit (gN1 n h) s ++ emit (gN1 n h) u ++ newL n h sg = _
 rw [he, he, newL_eq, List.map_append, List.filter_append, List.map_append]
 unfold wr
 rw [flat_app, flat_app]
 simp [flat]
theorem again_open (ks : List S56) (t : List UInt8) (s u : List S122) (hT : Told ks t s u) (n : ByteArray) (h : Nat) (sg : ByteArray) (hn : nameD n.data.toList = true) (hp : plainD n.data.toList = true) (hh : h < 4294967296) (hs : 1 ≤ sg.size) :
  openM [] (outG (gN1 n h) t s u 2 ++ newL n h sg) = (S t, .ok [] ((s ++ u).filter (other n h) ++ [newS n h sg])) := by
 obtain ⟨v, hv⟩ : ∃ v, v = (s ++ u).filter (other n h) ++ [newS n h sg] := ⟨_, rfl⟩
 have hfine := newS_F n h sg hn hh hs
 have hpl := newS_plain n h sg hn hp
 have hmem : ∀ x ∈ v, SgF x ∧ plainD (lineS x) = true ∧ 10 ∉ lineS x := by
  intro x hx
  rw [hv] at hx
  rcases List.mem_append.1 hx with hx | hx
  ·rcases List.mem_append.1 (List.mem_filter.1 hx).1 with hx | hx
   ·exact ⟨(hT.hs x hx).1, (hT.hs x hx).2.1, (hT.hs x hx).2.2.1⟩
   ·exact ⟨(hT.hu x hx).1, (hT.hu x hx).2.1, (hT.hu x hx).2.2.1⟩
  ·rw [List.mem_singleton.1 hx]; exact ⟨hfine, hpl.1, hpl.2⟩
 have hnd : v.Nodup := by
  rw [hv, List.nodup_append]
  refine ⟨List.Nodup.sublist List.filter_sublist ?_, by simp, ?_⟩
  ·rw [List.nodup_append]
   refine ⟨hT.ds.imp (fun h e => h ⟨by rw [e], by rw [e]⟩), hT.du, fun a ha b hb e => ?_⟩
   obtain ⟨k, hk, -⟩ := (hT.hs a ha).2.2.2
   rw [e, (hT.hu b hb).2.2.2] at hk
   cases hk
  ·intro a ha b hb e
   rw [List.mem_singleton.1 hb] at e
   have := (List.mem_filter.1 ha).2
   rw [e] at this
   exact absurd ⟨rfl, rfl⟩ (of_decide_eq_true this)
 rw [outG_wr, ← hv, openM_wr [] t _ hT.pt hT.nt ?_ (by rw [hv]; simp)]
 ·have := openL_unv [] (S t) [] [] [] v [] (fun x hx => ⟨(hmem x hx).1, rfl⟩) hnd (fun x hx => by simp)
  rw [List.append_nil] at this
  rw [this, openL]
  rfl
 ·intro y hy
  obtain ⟨x, hx, rfl⟩ := List.mem_map.1 hy
  exact ⟨(hmem x hx).2.1, (hmem x hx).2.2, lineS_ne x⟩
structure Ag (r1 : ByteArray) (p1 p2 : List S82) (n : ByteArray) (h : Nat) (sg : ByteArray) (t : List UInt8) (v : List S122) : Prop where
 text : r1 = S t
 n1 : p1.length ≤ 8
 n2 : p2.length ≤ 8
 s1 : ∀ x ∈ p1.map n118, SgW x
 s2 : ∀ x ∈ p2.map n118, SgW x
 tl : t.length ≤ 2000
 t10 : t ≠ [] ∧ t[t.length - 1]? = some 10
 vl : v.length ≤ 17
 ve : v = (p1.map n118 ++ p2.map n118).filter (other n h) ++ [newS n h sg]
 ml : (outG (gN1 n h) t (p1.map n118) (p2.map n118) 2 ++ newL n h sg).length ≤ 2147483647
 cnt : ∀ i, lastN (outG (gN1 n h) t (p1.map n118) (p2.map n118) 2 ++ newL n h sg) (outG (gN1 n h) t (p1.map n118) (p2.map n118) 2 ++ newL n h sg).length = some i → (outG (gN1 n h) t (p1.map n118) (p2.map n118) 2 ++ newL n h sg)[(outG (gN1 n h) t (p1.map n118) (p2.map n118) 2 ++ newL n h sg).length - 1]? = some 10 → (linesD ((outG (gN1 n h) t (p1.map n118) (p2.map n118) 2 ++ newL n h sg).drop (i + 2))).length ≤ 100
 out : outM (openM [] (outG (gN1 n h) t (p1.map n118) (p2.map n118) 2 ++ newL n h sg)).1 (openM [] (outG (gN1 n h) t (p1.map n118) (p2.map n118) 2 ++ newL n h sg)).2 = (r1, [], v.map sig75, 3)
theorem ag (ks : List S56) (l : List UInt8) (r1 : ByteArray) (p1 p2 : List S82) (hO : outM (openM ks l).1 (openM ks l).2 = (r1, p1, p2, 0)) (ht : r1.size ≤ 2000) (hn1 : p1.length ≤ 8) (hn2 : p2.length ≤ 8) (hx : ∀ x ∈ p1.map s37 ++ p2.map s37, x.f0.size ≤ 60 ∧ x.f2.size ≤ 120)
  (n : ByteArray) (h : Nat) (sg : ByteArray) (hn : nameD n.data.toList = true) (hp : plainD n.data.toList = true) (hh : h < 4294967296) (hs : 1 ≤ sg.size) (hnz : n.size ≤ 60) (hsz : sg.size ≤ 60) : ∃ t v, Ag r1 p1 p2 n h sg t v := by
 cases ho : (openM ks l).2 with
 | bad => rw [ho] at hO; exact absurd (congrArg (fun x => x.2.2.2) hO) (by first | (show ¬ ((1 : Int) = 0); decide) | (show ¬ ((2 : Int) = 0); decide))
 | inv nm g => rw [ho] at hO; exact absurd (congrArg (fun x => x.2.2.2) hO) (by first | (show ¬ ((1 : Int) = 0); decide) | (show ¬ ((2 : Int) = 0); decide))
 | ok s u =>
  cases s with
  | nil => rw [ho] at hO; exact absurd (congrArg (fun x => x.2.2.2) hO) (by show ¬ ((3 : Int) = 0); decide)
  | cons x s =>
   obtain ⟨t, ht', hT⟩ := openM_told ks l _ _ ho
   rw [ho] at hO
   have e1 : (openM ks l).1 = r1 := congrArg (fun x => x.1) hO
   have e2 : (x :: s).map sig75 = p1 := congrArg (fun x => x.2.1) hO
   have e3 : u.map sig75 = p2 := congrArg (fun x => x.2.2.1) hO
   have hz1 : ∀ y ∈ x :: s, y.f0.size ≤ 60 ∧ y.f2.size ≤ 120 := fun y hy => hx (s37 (sig75 y)) (List.mem_append_left _ (by rw [← e2]; exact List.mem_map_of_mem (List.mem_map_of_mem hy)))
   have hz2 : ∀ y ∈ u, y.f0.size ≤ 60 ∧ y.f2.size ≤ 120 := fun y hy => hx (s37 (sig75 y)) (List.mem_append_right _ (by rw [← e3]; exact List.mem_map_of_mem (List.mem_map_of_mem hy)))
   have m1 : p1.map n118 = x :: s := by rw [← e2]; exact map_n _
   have m2 : p2.map n118 = u := by rw [← e3]; exact map_n _
   have hag := again_open ks t (x :: s) u hT n h sg hn hp hh hs
   have hwr := outG_wr t (x :: s) u n h sg
   rw [← m1, ← m2] at hag hwr
   obtain ⟨v, hv⟩ : ∃ v, v = (p1.map n118 ++ p2.map n118).filter (other n h) ++ [newS n h sg] := ⟨_, rfl⟩
   rw [← hv] at hag hwr
   have hnp := newS_plain n h sg hn hp
   have hns : (newS n h sg).f2.size ≤ 120 := by
    show (S (encL (beL h ++ sg.data.toList))).size ≤ 120
    rw [S_sz, encL_len, List.length_append]
    have e : sg.data.toList.length = sg.size := rfl
    rw [e]
    show (4 + sg.size + 2) / 3 * 4 ≤ 120
    omega
   have hvm : ∀ y ∈ v, (10 ∉ lineS y) ∧ y.f0.size ≤ 60 ∧ y.f2.size ≤ 120 := by
    intro y hy
    rw [hv, m1, m2] at hy
    rcases List.mem_append.1 hy with hy | hy
    ·rcases List.mem_append.1 (List.mem_filter.1 hy).1 with hy | hy
     ·exact ⟨(hT.hs y hy).2.2.1, hz1 y hy⟩
     ·exact ⟨(hT.hu y hy).2.2.1, hz2 y hy⟩
    ·rw [List.mem_singleton.1 hy]; exact ⟨hnp.2, hnz, hns⟩
   have hvl : v.length ≤ 17 := by
    rw [hv, List.length_append]
    have := List.length_filter_le (other n h) (p1.map n118 ++ p2.map n118)
    simp only [List.length_append, List.length_map, List.length_singleton] at this ⊢
    omega
   have htl : t.length ≤ 2000 := by rw [← e1, ht', S_sz] at ht; exact ht
   have hfl := flat_small v fun y hy => (hvm y hy).2
   have hln : ∀ y ∈ v.map lineS, 10 ∉ y ∧ y ≠ [] := by
    intro y hy
    obtain ⟨z, hz, rfl⟩ := List.mem_map.1 hy
    exact ⟨(hvm z hz).1, lineS_ne z⟩
   refine ⟨t, v, ?_⟩
   exact
   {text := by rw [← e1, ht']
    n1 := hn1
    n2 := hn2
    s1 := by rw [m1]; exact fun y hy => SgW.told (hT.hs y hy).1 (hT.hs y hy).2.1 (hT.hs y hy).2.2.1 (hz1 y hy).1 (hz1 y hy).2
    s2 := by rw [m2]; exact fun y hy => SgW.told (hT.hu y hy).1 (hT.hu y hy).2.1 (hT.hu y hy).2.2.1 (hz2 y hy).1 (hz2 y hy).2
    tl := htl
    t10 := hT.nt
    vl := hvl
    ve := hv
    ml := by
     have : (wr t (v.map lineS)).length = t.length + ((flat (v.map lineS)).length + 1) := by unfold wr; simp
     rw [hwr, this]; omega
    cnt := fun i hi _ => by
     obtain ⟨w1, w2⟩ := wr_last t _ hT.nt hln
     rw [hwr] at hi ⊢
     rw [w1] at hi
     injection hi with hi
     rw [← hi, w2, lines_flat _ fun y hy => (hln y hy).1, List.length_map]
     omega
    out := by
     rw [hag]
     show ((S t, [], v.map sig75, 3) : ByteArray × List S82 × List S82 × Int) = _
     rw [← e1, ht'] }
def oth37 (n : ByteArray) (h : Int) (x : S49) : Bool := decide (¬ (x.f0 = n ∧ x.f1 = h))
theorem Ag.list {r1 : ByteArray} {p1 p2 : List S82} {n : ByteArray} {h : Nat} {sg : ByteArray} {t : List UInt8} {v : List S122} (H : Ag r1 p1 p2 n h sg t v) : (v.map sig75).map s37 = (p1.map s37 ++ p2.map s37).filter (oth37 n h) ++ [⟨n, (h : Int), S (encL (beL h ++ sg.data.toList))⟩] := by
 rw [H.ve, List.map_append, List.map_append, List.map_map, ← List.map_append, ← List.map_append, List.filter_map, List.filter_map, List.map_map]
 rfl
set_option maxRecDepth 100000 in
def litA (g : Nat → Value) : Array Value := #[g 0, g 1, g 2, g 3, g 4, g 5, g 6, g 7, g 8, g 9, g 10, g 11, g 12, g 13, g 14, g 15, g 16, g 17, g 18, g 19, g 20, g 21, g 22, g 23, g 24, g 25, g 26, g 27, g 28, g 29, g 30, g 31, g 32, g 33, g 34, g 35, g 36, g 37, g 38, g 39, g 40, g 41, g 42, g 43, g 44, g 45, g 46, g 47, g 48, g 49, g 50, g 51, g 52, g 53, g 54, g 55, g 56, g 57, g 58, g 59, g 60, g 61, g 62, g 63, g 64, g 65, g 66, g 67, g 68, g 69, g 70, g 71, g 72, g 73, g 74, g 75, g 76, g 77, g 78, g 79, g 80, g 81, g 82, g 83, g 84, g 85, g 86, g 87, g 88, g 89, g 90, g 91, g 92, g 93, g 94, g 95, g 96, g 97, g 98, g 99, g 100, g 101, g 102, g 103, g 104, g 105, g 106, g 107, g 108, g 109, g 110, g 111, g 112, g 113, g 114, g 115, g 116, g 117, g 118, g 119, g 120, g 121, g 122, g 123, g 124, g 125, g 126, g 127, g 128, g 129, g 130, g 131, g 132, g 133, g 134, g 135, g 136, g 137, g 138, g 139, g 140]
set_option maxRecDepth 100000 in
theorem range141 (g : Nat → Value) : (List.range 141).map g = (litA g).toList := by rfl
noncomputable def aBlk (n : Nat) : Code := (Tryz.f3.body.bind (blkNo n)).getD .skip
abbrev FrA (gm g7 g15 : Nat) (v10 v17 : Value) : List (Nat × Value) := [(5, .pointer (some ⟨gm, 0, none⟩)), (7, .pointer (some ⟨g7, 0, none⟩)), (10, v10), (15, .pointer (some ⟨g15, 0, none⟩)), (17, v17)]
abbrev FrAl (gm g7 g15 : Nat) (v10 v17 : Value) (A : Option Addr) (l c : Nat) (j : Int) : List (Nat × Value) := (103, .slice A l c) :: (104, .int .i64 (l : Int)) :: (105, .int .i64 j) :: FrA gm g7 g15 v10 v17
theorem add_block (a : Addr) (k : Nat) : (a.add k).block = a.block := by unfold Addr.add; split <;> rfl
structure AL (w0 Wl : World) (B ge : Nat) (w : World) (v : Value) (xs : List S49) : Prop where
 below : Below B w0 w
 keep : ∀ k, k < Wl.heap.size → k ≠ ge → w.heap[k]? = Wl.heap[k]?
 r : Kd.R k49 49 w B (fun k => k = ge ∨ Wl.heap.size ≤ k) v xs
 size : Wl.heap.size ≤ w.heap.size
 sz : B ≤ w.heap.size
theorem AL.alloc {w0 Wl : World} {B ge : Nat} {w : World} {v : Value} {xs : List S49} (h : AL w0 Wl B ge w v xs) (o : Obj) : AL w0 Wl B ge (w.alloc o) v xs :=
 ⟨h.below.alloc h.sz _, fun k hk hn => (Below.heap_alloc w o k (Nat.lt_of_lt_of_le hk h.size)).trans (h.keep k hk hn), Kd.R_alloc h.r o, by have := h.size; simp; omega, by have := h.sz; simp; omega⟩
theorem AL.cell {w0 Wl : World} {B ge : Nat} {w : World} {v : Value} {xs : List S49} (h : AL w0 Wl B ge w v xs) {a : Addr} {u : Value} (hc : Wl.cell? a = some u) (hn : a.block ≠ ge) : w.cell? a = some u :=
 (World.cell?_of_block (h.keep _ (World.block_lt_of_cell? Wl _ hc) hn)).trans hc
theorem AL.grow {w0 Wl : World} {B ge : Nat} {w w1 : World} {v v1 : Value} {xs ys : List S49} (h : AL w0 Wl B ge w v xs) (hB : Below B w0 w1) (hg : w.grownBy w1 v.ownBlock) (hr : Kd.R k49 49 w1 B (fun k => k = ge ∨ Wl.heap.size ≤ k) v1 ys) : AL w0 Wl B ge w1 v1 ys :=
 ⟨hB, fun k hk hn => (hg.block k (Nat.lt_of_lt_of_le hk h.size) (fun e => by
  rcases h.r.1 k e.symm with rfl | hk'
  ·exact hn rfl
  ·omega)).trans (h.keep k hk hn), hr, Nat.le_trans h.size hg.size, Nat.le_trans h.sz hg.size⟩
def AI (w0 Wl : World) (B ge gm g7 g15 : Nat) (v10 : Value) (n : ByteArray) (h : Int) (L : List S49) (A : Option Addr) (c : Nat) (a : Act) (w : World) : Prop :=
 ∃ (j : Nat) (C : Option Addr) (d : Nat), j ≤ L.length ∧ FrN 141 (FrAl gm g7 g15 v10 (.slice C ((L.take j).filter (oth37 n h)).length d) A L.length c (j : Int)) a ∧ AL w0 Wl B ge w (.slice C ((L.take j).filter (oth37 n h)).length d) ((L.take j).filter (oth37 n h))
def Amu (L : Nat) (a : Act) (_ : World) : Nat := L - (intOf (a.tmps.getD 105 undef)).toNat
set_option maxRecDepth 100000 in
set_option maxHeartbeats 4000000 in
theorem aloop (w0 Wl : World) (B ge gm g7 g15 : Nat) (v10 : Value) (n : ByteArray) (h : Int) (L : List S49) (A : Option Addr) (c : Nat) (hC : Kd.C k49 Wl A L.length L) (hA : ∀ a, A = some a → a.block ≠ ge) (m0 : Wl.cell? ⟨gm, 0, none⟩ = some (.string n)) (m1 : Wl.cell? ⟨gm, 1, none⟩ = some (.int .u32 h)) (hm : gm ≠ ge) (hL : L.length ≤ 16)
  (hS : AL w0 Wl B ge Wl (.slice (some ⟨ge, 0, none⟩) 0 0) []) (a : Act) (hI : FrN 141 (FrAl gm g7 g15 v10 (.slice (some ⟨ge, 0, none⟩) 0 0) A L.length c 0) a) (Q : Exit → Act → World → Prop)
  (hE : ∀ a' w' C d, FrN 141 (FrA gm g7 g15 v10 (.slice C (L.filter (oth37 n h)).length d)) a' → AL w0 Wl B ge w' (.slice C (L.filter (oth37 n h)).length d) (L.filter (oth37 n h)) → Q .normal a' w') : (aBlk 0).wp Tryz.prog Q a Wl := by
 conv => arg 2; whnf
 have HE := Lib.hid hE
 have HC := Lib.hid hC
 have HA := Lib.hid hA
 clear hE hC hA
 refine wp_block ?_
 refine wp_loop (AI w0 Wl B ge gm g7 g15 v10 n h L A c) (Amu L.length) ⟨0, _, _, Nat.zero_le _, hI, hS⟩ ?_
 clear hI hS
 rintro a wr ⟨j, C, d, hj, hF, hS⟩
 have HS := Lib.hid hS
 clear hS
 obtain ⟨g, rfl, hg⟩ := hF.lit range141
 clear hF
 simp only [List.forall_mem_cons] at hg
 obtain ⟨k103, k104, k105, k5, k7, k10, k15, k17, -⟩ := hg
 unfold litA
 simp only [k103, k104, k105, k5, k7, k10, k15, k17]
 clear k103 k104 k105 k5 k7 k10 k15 k17
 by_cases hlt : j < L.length
 ·have h1 : decide ((j : Int) < (L.length : Int)) = true := decide_eq_true (by omega)
  have h2 : decide (j < L.length) = true := decide_eq_true hlt
  have hjj : (j : Int) < (L.length : Int) := by omega
  obtain ⟨ad, rfl, x0, x1, x2⟩ := at_T49 HC.out (j : Int) (by omega) hjj
  rw [rd37 L j hlt, Int.toNat_natCast] at x0 x1 x2
  have hne := HA.out ad rfl
  replace x0 := HS.out.cell x0 (by simp only [add_block]; exact hne)
  replace x1 := HS.out.cell x1 (by simp only [add_block]; exact hne)
  replace x2 := HS.out.cell x2 (by simp only [add_block]; exact hne)
  have HTK := Lib.hid (show (L.take (j + 1)).filter (oth37 n h) = (L.take j).filter (oth37 n h) ++ [L[j]].filter (oth37 n h) by rw [List.take_succ_eq_append_getElem hlt, List.filter_append])
  have hfl : ((L.take j).filter (oth37 n h)).length ≤ 16 := Nat.le_trans (List.length_filter_le _ _) (by rw [List.length_take]; omega)
  generalize L[j] = x at *
  go_upto_region 18 with fail
  have hs1 := HS.out.alloc (.cells #[.string x.f0, .int .u32 x.f1, .string x.f2] 49)
  obtain ⟨c0, c1, c2, -, -, -⟩ := three (heap_alloc_new wr (.cells #[.string x.f0, .int .u32 x.f1, .string x.f2] 49))
  clear x0 x1 x2 HS h1 h2
  generalize wr.alloc (.cells #[.string x.f0, .int .u32 x.f1, .string x.f2] 49) = W1 at *
  generalize wr.heap.size = g19 at *
  have n0 := hs1.cell m0 hm
  have n1 := hs1.cell m1 hm
  have HS := Lib.hid hs1
  clear hs1 m0 m1
  by_cases e1 : x.f0 = n
  ·have t1 : (x.f0.toList == n.toList) = true := by rw [e1]; simp
   have t1' : (x.f0.toList != n.toList) = false := by rw [bne, t1]; rfl
   by_cases e2 : x.f1 = h
   ·have t2 : (x.f1 == h) = true := by rw [e2]; simp
    have t2' : (x.f1 != h) = false := by rw [bne, t2]; rfl
    have HF := Lib.hid (show [x].filter (oth37 n h) = [] by simp [oth37, e1, e2])
    have HLe := Lib.hid (show ((L.take j).filter (oth37 n h)).length = ((L.take (j + 1)).filter (oth37 n h)).length by rw [HTK.out, HF.out, List.append_nil])
    clear e1 e2
    go_wp2_with fail
    exact ⟨⟨j + 1, C, d, by omega, ⟨rfl, rfl, by repeat (first | exact ks_nil _ | refine ks_cons (by first | rfl | exact congrArg (Value.int .i64) (Int.natCast_add j 1).symm | exact congrArg (fun k => Value.slice C k d) HLe.out) ?_)⟩, by rw [HTK.out, HF.out, List.append_nil]; exact HS.out⟩, by show L.length - ((j : Int) + 1).toNat < L.length - (j : Int).toNat; omega⟩
   ·have HF := Lib.hid (show [x].filter (oth37 n h) = [x] by simp [oth37, e2])
    have t2 : (x.f1 == h) = false := beq_eq_false_iff_ne.2 e2
    have t2' : (x.f1 != h) = true := by rw [bne, t2]; rfl
    clear e1 e2
    go_wp2_with (at_builtin; refine Kd.R_append k49 (w0 := w0) B rfl _ _ 28 49 _ 40 rfl Tryz.underlying28 info37' rfl (by decide) (by decide) (.slice C ((L.take j).filter (oth37 n h)).length d) ((L.take j).filter (oth37 n h)) x [.string x.f0, .int .u32 x.f1, .string x.f2] _ (fun _ => False) rfl rfl (k49_mkM _ _ _ _) (fun _ h => h.elim) (fun k hk => .inr (Nat.le_trans HS.out.size hk)) HS.out.r HS.out.below HS.out.sz (by omega) ?_; intro v4 w4 hr4 hb4 hg4 hat4; have HS4 := Lib.hid (HS.out.grow hb4 hg4 hr4); clear hr4 hb4 hg4 hat4; obtain ⟨C4, d4, rfl⟩ := Kd.R_slice HS4.out.r; have HS5 := Lib.hid (HTK.out.symm ▸ HF.out.symm ▸ HS4.out : AL w0 Wl B ge w4 (.slice C4 ((L.take (j + 1)).filter (oth37 n h)).length d4) ((L.take (j + 1)).filter (oth37 n h))); have HLN := Lib.hid (show ((L.take j).filter (oth37 n h)).length + 1 = ((L.take (j + 1)).filter (oth37 n h)).length by rw [HTK.out, HF.out]; simp))
    exact ⟨⟨j + 1, C4, d4, by omega, ⟨rfl, rfl, by repeat (first | exact ks_nil _ | refine ks_cons (by first | rfl | exact congrArg (Value.int .i64) (Int.natCast_add j 1).symm | exact congrArg (fun k => Value.slice C4 k d4) HLN.out) ?_)⟩, HS5.out⟩, by show L.length - ((j : Int) + 1).toNat < L.length - (j : Int).toNat; omega⟩
  ·have HF := Lib.hid (show [x].filter (oth37 n h) = [x] by simp [oth37, e1])
   have t1 : (x.f0.toList == n.toList) = false := beq_eq_false_iff_ne.2 fun e => e1 ((tl_eq _ _).1 e)
   have t1' : (x.f0.toList != n.toList) = true := by rw [bne, t1]; rfl
   clear e1
   go_wp2_with (at_builtin; refine Kd.R_append k49 (w0 := w0) B rfl _ _ 28 49 _ 40 rfl Tryz.underlying28 info37' rfl (by decide) (by decide) (.slice C ((L.take j).filter (oth37 n h)).length d) ((L.take j).filter (oth37 n h)) x [.string x.f0, .int .u32 x.f1, .string x.f2] _ (fun _ => False) rfl rfl (k49_mkM _ _ _ _) (fun _ h => h.elim) (fun k hk => .inr (Nat.le_trans HS.out.size hk)) HS.out.r HS.out.below HS.out.sz (by omega) ?_; intro v4 w4 hr4 hb4 hg4 hat4; have HS4 := Lib.hid (HS.out.grow hb4 hg4 hr4); clear hr4 hb4 hg4 hat4; obtain ⟨C4, d4, rfl⟩ := Kd.R_slice HS4.out.r; have HS5 := Lib.hid (HTK.out.symm ▸ HF.out.symm ▸ HS4.out : AL w0 Wl B ge w4 (.slice C4 ((L.take (j + 1)).filter (oth37 n h)).length d4) ((L.take (j + 1)).filter (oth37 n h))); have HLN := Lib.hid (show ((L.take j).filter (oth37 n h)).length + 1 = ((L.take (j + 1)).filter (oth37 n h)).length by rw [HTK.out, HF.out]; simp))
   exact ⟨⟨j + 1, C4, d4, by omega, ⟨rfl, rfl, by repeat (first | exact ks_nil _ | refine ks_cons (by first | rfl | exact congrArg (Value.int .i64) (Int.natCast_add j 1).symm | exact congrArg (fun k => Value.slice C4 k d4) HLN.out) ?_)⟩, HS5.out⟩, by show L.length - ((j : Int) + 1).toNat < L.length - (j : Int).toNat; omega⟩
 ·have h1 : decide ((j : Int) < (L.length : Int)) = false := decide_eq_false (by omega)
  have h2 : decide (j < L.length) = false := decide_eq_false hlt
  have hs := HS.out
  rw [List.take_of_length_le (by omega)] at hs ⊢
  have HS' := Lib.hid hs
  clear hs HS
  go_wp2_with fail
  exact HE.out _ _ C d ⟨rfl, rfl, by repeat (first | exact ks_nil _ | refine ks_cons rfl ?_)⟩ HS'.out
end Go.Proofs.YtkbegfihdpiacaaGreatDoor.PX
