/- Part 16 of the proof: what the theorem reaches of the texts KR21, ZEncP, ZEncS, ZEncT, ZMak, ZNSignL. -/
import Derived.Shelf.Bytes.GrowOwn
import Derived.Laws.IdiomCopy
import Derived.Lib.BufferWrite
import Derived.Deep.RegionWith
import Derived.Deep.Strs
import Derived.ChangeArms
import Derived.Test.YtkbegfihdpiacaaGreatDoorRows
import Derived.Lib.LaidU8
import Derived.Lib.LaidIn
import Derived.Stop.LaidErr
import Derived.ProofKit
import Derived.ChangeVars
import Derived.LaidLaws
import Derived.Deep.MidRow
import Derived.Deep.RegionHeld3
import Derived.Deep.RegionLawGrows
import Derived.Test.YtkbegfihdpiacaaGreatDoorKT4
import Derived.Test.YtkbegfihdpiacaaGreatDoorKT5
import Derived.Test.YtkbegfihdpiacaaGreatDoorKT6
import Derived.Test.YtkbegfihdpiacaaGreatDoorKT7
import Derived.Test.YtkbegfihdpiacaaGreatDoorKT8
import Derived.Test.YtkbegfihdpiacaaGreatDoorKT11
import Derived.Test.YtkbegfihdpiacaaGreatDoorKT12
import Derived.Test.YtkbegfihdpiacaaGreatDoorKT13
import Derived.Test.YtkbegfihdpiacaaGreatDoorKT15
set_option linter.unusedVariables false
set_option linter.unusedSimpArgs false
namespace Go.Proofs.YtkbegfihdpiacaaGreatDoor.PX
open Go.RowKit Nt Go.Lib Go.Maps Go.Proofs.YtkbegfihdpiacaaGreatDoorW.PrintWords Go.Proofs.YtkbegfihdpiacaaGreatDoorW.PrintLast
structure BR (b g cap : Nat) (o : List UInt8) (w : World) (lr : Int) (cur : Array Value) : Prop where
 hd : w.heap[b]? = some (.cells #[.slice (some ⟨g, 0, none⟩) o.length cap, .int .i64 0, .int .i8 lr] 135 (0, 0))
 row : w.heap[g]? = some (.cells cur 5 (0, 0))
 ne : g ≠ b
 le : o.length ≤ cap
 max : cap ≤ maxLen
 size : cur.size = cap
 take : cur.toList.take o.length = Lib.byteCells o
set_option maxRecDepth 100000 in
set_option maxHeartbeats 4000000 in
theorem growR (w : World) (b g cap n : Nat) (o : List UInt8) (lr : Int) (cur : Array Value) (h : BR b g cap o w lr cur) (hn1 : 1 ≤ n) (hn : cap - o.length < n) (hlim : o.length + n ≤ 140737488355328) (ho : 1 ≤ o.length) :
  Calls Tryz.prog 69 #[.pointer (some ⟨b, 0, none⟩), .int .i64 n] w fun e w' => e = .returned (.int .i64 o.length) ∧ ∃ g' cap' cur', w.heap.size ≤ g' ∧ w'.heap[b]? = some (.cells #[.slice (some ⟨g', 0, none⟩) (o.length + n : Nat) cap', .int .i64 0, .int .i8 lr] 135 (0, 0)) ∧ w'.heap[g']? = some (.cells cur' 5 (0, 0)) ∧ o.length + n ≤ cap' ∧ cap' ≤ maxLen ∧ cur'.size = cap' ∧ cur'.toList.take o.length = Lib.byteCells o ∧ w.grownBy w' (some b) := by
 obtain ⟨hbk, hg, hgb, hlc, hcm, hcs, htk⟩ := h
 replace hcm : cap ≤ 140737488355328 := by omega
 have hIs : Lib.IsBuffer 135 5 0 b (Lib.byteCells o) w := ⟨Nat.zero_le _, _, _, hbk, ⟨by rw [Lib.byteCells_length, Nat.mul_one], .inr ⟨g, cap, cur, by rw [Lib.byteCells_length], Nat.zero_le _, hg, by rw [Lib.byteCells_length]; omega, Nat.le_trans hcm (by decide), by omega, by rw [Lib.byteCells_length, Nat.mul_one]; exact htk⟩⟩, by simp [Value.ownBlock]; exact hgb⟩
 have hnil : ∀ W, (binOp .eql 72 (.slice (some ⟨g, 0, none⟩) o.length cap) (.slice none 0 0)).run Tryz.prog W = .ok (.bool false) W := fun W => Lib.run_eql_slice_some_nil W _ _ _ Tryz.underlying72
 generalize hL : o.length = l at *
 have hLL := Lib.hid hL
 clear hL
 go_enter Tryz.func69, Tryz.ntmps69
 go_upto_region 2 with (go_at_call 82; refine (Any.Buffer_Len { Tryz.laysM180 with } 0 b (Lib.byteCells o) _ hIs).mono ?_; rintro e W0 ⟨rfl, k, hW0⟩; have HW0 := Lib.hid hW0; clear hW0; rw [Lib.byteCells_length, hLL.out])
 have hbk0 : W0.heap[b]? = some (.cells #[.slice (some ⟨g, 0, none⟩) l cap, .int .i64 0, .int .i8 lr] 135 (0, 0)) := by rw [HW0.out]; exact hbk
 have hg0 : W0.heap[g]? = some (.cells cur 5 (0, 0)) := by rw [HW0.out]; exact hg
 obtain ⟨c0, c1, -, f0, f1, -⟩ := three hbk0
 have HBK0 := Lib.hid hbk0
 have HG0 := Lib.hid hg0
 have HM := Lib.hid hcm
 have HTK := Lib.hid htk
 have HGB := Lib.hid hgb
 have HCS := Lib.hid hcs
 clear hIs hbk hg hbk0 hg0 htk hgb hcs
 go_upto_region 15 with (go_at_call 68; refine (Any.Buffer_tryGrow_none { Tryz.laysM180 with } b _ l cap n _ c0 hlc (Nat.le_trans hcm (by decide)) hn).mono ?_; rintro e w' ⟨rfl, rfl⟩)
 have mixed : Tryz.prog.follows Departure.mixedOrders = true := Tryz.laysM180.mixed
 have hwn : IntKind.i64.wrap (n : Int) = n := by rw [IntKind.wrap_i64]; omega
 have h1 : ∀ v ∈ cur.toList.take l, v.oneCell' = true := by rw [HTK.out]; exact Lib.byteCells_one o
 have H1 := Lib.hid h1
 have hbW := blk_lt HBK0.out
 clear h1
 go_region_with_o (
  go_at_call 84
  refine (Any.bytes_growSlice_row { Tryz.laysM180 with } g l cap n cur _ ?_ HCS.out hlc hn1 hlim HM.out H1.out).mono ?_
  exact HG0.out
  rintro e w2 ⟨cap2, cells, rfl, hN, hcsz, htk, hcap2, hcm2, hbel⟩
  obtain ⟨d0, d1, -, e0, e1, -⟩ := three ((hbel.block b hbW).trans HBK0.out)
  have HN := Lib.hid (And.intro hN (And.intro hcsz (And.intro htk hbel)))
  clear hN hcsz htk hbel)
 all_goals (
  go_wp2_with fail
  go_ret
  obtain ⟨hN, hcsz, htk, hbel⟩ := HN.out
  have hb0 : Below w.heap.size w w'.drew := below_drew1 (by rw [HW0.out]; exact pw_below_drewN (Below.refl _ _) k)
  have hbw := hb0.trans (hbel.mono hb0.size)
  have hsz : w'.heap.size = w.heap.size := by rw [HW0.out]; rfl
  have hNb : w'.heap.size ≠ b := by omega
  have hk := (hbel.block b hbW).trans HBK0.out
  have hk3 := Lib.heap_setCell_same (i := 0) (Lib.heap_setCell_same (i := 1) (Lib.heap_setCell_same (i := 0) hk (.slice (some ⟨w'.heap.size, 0, none⟩) l cap2)) (.int .i64 0)) (.slice (some ⟨w'.heap.size, 0, none⟩) (l + n) cap2)
  refine ⟨rfl, w'.heap.size, cap2, cells, by omega, hk3, ?_, hcap2, hcm2, hcsz, htk.trans HTK.out, Lib.grownBy_setB (Lib.grownBy_setB (Lib.grownBy_setB (Lib.grownBy_below (w := w) ⟨rfl, rfl, rfl, Nat.le_refl _, fun _ _ _ => rfl⟩ hbw) 0 _) 1 _) 0 _⟩
  rw [Below.heap_setCell _ _ _ _ hNb, Below.heap_setCell _ _ _ _ hNb, Below.heap_setCell _ _ _ _ hNb]
  exact hN)
theorem BR.buf {b g cap B : Nat} {o : List UInt8} {w : World} {lr : Int} {cur : Array Value} (h : BR b g cap o w lr cur) (hB : B ≤ b) (hG : B ≤ g) : Lib.IsBuffer 135 5 B b (Lib.byteCells o) w := by
 obtain ⟨hbk, hg, hgb, hlc, hcm, hcs, htk⟩ := h
 exact ⟨hB, _, _, hbk, ⟨by rw [Lib.byteCells_length, Nat.mul_one], .inr ⟨g, cap, cur, by rw [Lib.byteCells_length], hG, hg, by rw [Lib.byteCells_length]; omega, hcm, by omega, by rw [Lib.byteCells_length, Nat.mul_one]; exact htk⟩⟩, by simp [Value.ownBlock]; exact hgb⟩
theorem br_written {b g cap : Nat} {o : List UInt8} {s : ByteArray} {lr : Int} {cur : Array Value} {W : World} (hd : W.heap[b]? = some (.cells #[.slice (some ⟨g, 0, none⟩) (o.length + s.size : Nat) cap, .int .i64 0, .int .i8 lr] 135 (0, 0))) (hg : W.heap[g]? = some (.cells cur 5 (0, 0)))
  (hgb : g ≠ b) (hle : o.length + s.size ≤ cap) (hmax : cap ≤ maxLen) (hsz : cur.size = cap) (htk : cur.toList.take o.length = Lib.byteCells o) :
  BR b g cap (o ++ s.data.toList) (W.setRow g (cur.toList.take o.length ++ (Lib.byteCells s.data.toList ++ cur.toList.drop (o.length + s.size))).toArray) lr (cur.toList.take o.length ++ (Lib.byteCells s.data.toList ++ cur.toList.drop (o.length + s.size))).toArray := by
 rw [← List.append_assoc]
 have h1 : s.data.toList.length = s.size := rfl
 have h2 : (o ++ s.data.toList).length = o.length + s.size := by rw [List.length_append, h1]
 have hl : (cur.toList.take o.length).length = o.length := by have : cur.toList.length = cur.size := Array.length_toList; rw [List.length_take]; omega
 have hn : (Lib.byteCells s.data.toList).length = s.size := by rw [Lib.byteCells_length, h1]
 exact
 {hd := by rw [setRow_other _ _ _ _ (Ne.symm hgb), h2]; exact hd
  row := setRow_heap W g cur _ _ (0, 0) hg
  ne := hgb
  le := by omega
  max := hmax
  size := by simp only [List.size_toArray, List.length_append, hl, hn, List.length_drop, Array.length_toList]; omega
  take := by
   rw [List.toList_toArray, h2, List.take_append_of_le_length (by rw [List.length_append, hl, hn]; exact Nat.le_refl _), List.take_of_length_le (by rw [List.length_append, hl, hn]; exact Nat.le_refl _), htk, Lib.byteCells_append] }
abbrev WroteR (b g : Nat) (o : List UInt8) (s : ByteArray) (w : World) (e : Ending) (w' : World) : Prop :=
 e = .returned (.tuple #[.int .i64 s.size, .nilIface]) ∧ ∃ g' cap' lr' cur', BR b g' cap' (o ++ s.data.toList) w' lr' cur' ∧ (g' = g ∨ w.heap.size ≤ g') ∧ Below (min b g) w w' ∧ ∀ k, k < w.heap.size → k ≠ b → k ≠ g → w'.heap[k]? = w.heap[k]?
set_option maxRecDepth 100000 in
set_option maxHeartbeats 4000000 in
theorem wsR1 (w : World) (b g cap : Nat) (o : List UInt8) (lr : Int) (cur : Array Value) (s : ByteArray) (h : BR b g cap o w lr cur) (ho : 1 ≤ o.length) (hs0 : 1 ≤ s.size) (hlim : o.length + s.size ≤ 140737488355328) :
  Calls Tryz.prog 48 #[.pointer (some ⟨b, 0, none⟩), .string s] w (WroteR b g o s w) := by
 have hinfo : (Tryz.prog.info? 5).map (·.size) = some 1 := by
  have := infoU8
  cases hq : Tryz.prog.info? 5 with
  | none => rw [hq] at this; cases this
  | some i => rw [hq] at this; simp at this; simp [this.2.1]
 have hbk1 := Lib.heap_setCell_same (i := 2) h.hd (.int .i8 0)
 have hg1 := (Below.heap_setCell w ⟨b, 2, none⟩ (.int .i8 0) _ h.ne).trans h.row
 have hk1 : ∀ k, k ≠ b → (w.setCell ⟨b, 2, none⟩ (.int .i8 0)).heap[k]? = w.heap[k]? := fun k hk => Below.heap_setCell _ _ _ _ hk
 have hs1 : (w.setCell ⟨b, 2, none⟩ (.int .i8 0)).heap.size = w.heap.size := by simp [World.setCell]
 have hB1 : Below (min b g) w (w.setCell ⟨b, 2, none⟩ (.int .i8 0)) := (Below.refl _ w).setCell (p := ⟨b, 2, none⟩) (Nat.min_le_left _ _) _
 obtain ⟨-, -, c2, -, -, f2⟩ := three h.hd
 have H := Lib.hid h
 have HK1 := Lib.hid hk1
 have HS1 := Lib.hid hs1
 have HB1 := Lib.hid hB1
 clear h hk1 hs1 hB1
 have hmax := H.out.max
 by_cases hr : s.size ≤ cap - o.length
 ·have hT := Any.Buffer_tryGrow_room { Tryz.laysM180 with } b _ o.length cap s.size _ (three hbk1).1 (three hbk1).2.2.2.1 H.out.le hmax hr
  have hle := H.out.le
  have hbk2 := Lib.heap_setCell_same (i := 0) hbk1 (.slice (some ⟨g, 0, none⟩) (o.length + s.size : Nat) cap)
  have hg2 := (Below.heap_setCell (w.setCell ⟨b, 2, none⟩ (.int .i8 0)) ⟨b, 0, none⟩ (.slice (some ⟨g, 0, none⟩) (o.length + s.size : Nat) cap) _ H.out.ne).trans hg1
  have HB2 := Lib.hid (HB1.out.setCell (p := ⟨b, 0, none⟩) (Nat.min_le_left _ _) (.slice (some ⟨g, 0, none⟩) (o.length + s.size : Nat) cap))
  have hk2 : ∀ k, k ≠ b → ((w.setCell ⟨b, 2, none⟩ (.int .i8 0)).setCell ⟨b, 0, none⟩ (.slice (some ⟨g, 0, none⟩) (o.length + s.size : Nat) cap)).heap[k]? = w.heap[k]? := fun k hk => (Below.heap_setCell _ _ _ _ hk).trans (HK1.out k hk)
  have HK2 := Lib.hid hk2
  clear hk2
  replace hT := hT.mono (fun e w' h => (⟨h.1, h.2.symm⟩ : e = _ ∧ _ = w'))
  generalize hW2 : (w.setCell ⟨b, 2, none⟩ (.int .i8 0)).setCell ⟨b, 0, none⟩ (.slice (some ⟨g, 0, none⟩) (o.length + s.size : Nat) cap) = W2 at *
  have HT := Lib.hid hT
  clear hT
  obtain ⟨d0, -, -, -, -, -⟩ := three hbk2
  have HBK2 := Lib.hid hbk2
  have HG2 := Lib.hid hg2
  have hcp := Lib.run_copy_row_string (P := Tryz.prog) W2 72 9 3 5 g o.length s.size (cap - o.length) s cur 5 Tryz.underlying72 hinfo hg2 (Nat.le_refl _) (by have := H.out.size; omega)
  have hne : ¬ cap = o.length := by omega
  unfold maxLen at hmax
  clear hW2 hbk1 hg1 hbk2 hg2 hinfo
  go_enter Tryz.func48, Tryz.ntmps48
  go_wp2_with (go_at_call 68; refine HT.out.mono ?_; rintro e W3 ⟨rfl, rfl⟩; clear HT)
  all_goals (
   go_ret2
   exact ⟨rfl, g, cap, _, _, br_written HBK2.out HG2.out H.out.ne (by omega) H.out.max H.out.size H.out.take, .inl rfl, HB2.out.trans ⟨rfl, rfl, rfl, by simp, fun k hk => setRow_other _ _ _ _ (by omega)⟩, fun k hk hkb hkg => (setRow_other _ _ _ _ hkg).trans (HK2.out k hkb)⟩)
 ·have hT := Any.Buffer_tryGrow_none { Tryz.laysM180 with } b _ o.length cap s.size _ (three hbk1).1 H.out.le hmax (by omega)
  have hG := growR _ b g cap s.size o 0 cur ⟨hbk1, hg1, H.out.ne, H.out.le, hmax, H.out.size, H.out.take⟩ hs0 (by omega) hlim ho
  have HT := Lib.hid hT
  have HG := Lib.hid hG
  clear hT hG hbk1 hg1
  go_enter Tryz.func48, Tryz.ntmps48
  go_upto_region 5 with (first
   | (go_at_call 68; refine HT.out.mono ?_; rintro e W3 ⟨rfl, rfl⟩; clear HT)
   | (go_at_call 69; refine HG.out.mono ?_; rintro e W4 ⟨rfl, g', cap', cur', hge, hbk, hg, hle, hmx, hsz, htk, hgr⟩; clear HG; have hne : ¬ cap' = o.length := by omega)
   | fail)
  have hcp := Lib.run_copy_row_string (P := Tryz.prog) W4 72 9 3 5 g' o.length s.size (cap' - o.length) s cur' 5 Tryz.underlying72 hinfo hg (Nat.le_refl _) (by omega)
  obtain ⟨d0, -, -, -, -, -⟩ := three hbk
  have hbw := blk_lt H.out.hd
  have HBK := Lib.hid hbk
  have HG4 := Lib.hid hg
  have HMX := Lib.hid hmx
  have HTK := Lib.hid htk
  have HGR := Lib.hid hgr
  have HS := Lib.hid hsz
  have hmx' := hmx
  unfold maxLen at hmx'
  clear hbk hg hmx htk hgr hsz hmax
  go_wp2_with fail
  go_ret2
  have hs1 := HS1.out
  have hlt := HGR.out.size
  refine ⟨rfl, g', cap', _, _, br_written HBK.out HG4.out (by omega) hle HMX.out HS.out HTK.out, .inr (by omega), HB1.out.trans ⟨HGR.out.os, HGR.out.tape, HGR.out.output, by simpa using hlt, fun k hk => (setRow_other _ _ _ _ (by omega)).trans (HGR.out.block k (by omega) (by simp; omega))⟩, fun k hk hkb hkg => (setRow_other _ _ _ _ (by omega)).trans ((HGR.out.block k (by omega) (by simpa using hkb)).trans (HK1.out k hkb))⟩
set_option maxRecDepth 100000 in
set_option maxHeartbeats 4000000 in
theorem wsR0 (w : World) (b g cap : Nat) (o : List UInt8) (lr : Int) (cur : Array Value) (s : ByteArray) (h : BR b g cap o w lr cur) (ho : 1 ≤ o.length) (hs0 : s.size = 0) :
  Calls Tryz.prog 48 #[.pointer (some ⟨b, 0, none⟩), .string s] w (WroteR b g o s w) := by
 have hinfo : (Tryz.prog.info? 5).map (·.size) = some 1 := by
  have := infoU8
  cases hq : Tryz.prog.info? 5 with
  | none => rw [hq] at this; cases this
  | some i => rw [hq] at this; simp at this; simp [this.2.1]
 have hce : ∀ d dLen dCap W, (Builtin.copy_ #[72, 9] 3 #[.slice d dLen dCap, .string s]).run Tryz.prog W = .ok (goInt 0) W := fun d dLen dCap W => Lib.run_copy_empty_string W 72 9 3 5 d dLen dCap s Tryz.underlying72 (by rw [hinfo]; rfl) hs0
 have hbk1 := Lib.heap_setCell_same (i := 2) h.hd (.int .i8 0)
 obtain ⟨-, -, c2, -, -, f2⟩ := three h.hd
 have hle := h.le
 have hmax := h.max
 have hT := Any.Buffer_tryGrow_room { Tryz.laysM180 with } b _ o.length cap 0 _ (three hbk1).1 (three hbk1).2.2.2.1 hle hmax (Nat.zero_le _)
 have HT := Lib.hid hT
 have hbk2 := Lib.heap_setCell_same (i := 0) hbk1 (.slice (some ⟨g, 0, none⟩) (o.length + 0 : Nat) cap)
 have hg2 := (Below.heap_setCell (w.setCell ⟨b, 2, none⟩ (.int .i8 0)) ⟨b, 0, none⟩ (.slice (some ⟨g, 0, none⟩) (o.length + 0 : Nat) cap) _ h.ne).trans ((Below.heap_setCell w ⟨b, 2, none⟩ (.int .i8 0) _ h.ne).trans h.row)
 have hB2 : Below (min b g) w ((w.setCell ⟨b, 2, none⟩ (.int .i8 0)).setCell ⟨b, 0, none⟩ (.slice (some ⟨g, 0, none⟩) (o.length + 0 : Nat) cap)) := ((Below.refl _ w).setCell (p := ⟨b, 2, none⟩) (Nat.min_le_left _ _) _).setCell (p := ⟨b, 0, none⟩) (Nat.min_le_left _ _) _
 have hk2 : ∀ k, k ≠ b → ((w.setCell ⟨b, 2, none⟩ (.int .i8 0)).setCell ⟨b, 0, none⟩ (.slice (some ⟨g, 0, none⟩) (o.length + 0 : Nat) cap)).heap[k]? = w.heap[k]? := fun k hk => (Below.heap_setCell _ _ _ _ hk).trans (Below.heap_setCell _ _ _ _ hk)
 replace hT := hT.mono (fun e w' h => (⟨h.1, h.2.symm⟩ : e = _ ∧ _ = w'))
 generalize hW2 : (w.setCell ⟨b, 2, none⟩ (.int .i8 0)).setCell ⟨b, 0, none⟩ (.slice (some ⟨g, 0, none⟩) (o.length + 0 : Nat) cap) = W2 at *
 have HT := Lib.hid hT
 obtain ⟨d0, -, -, -, -, -⟩ := three hbk2
 have hsd : o ++ s.data.toList = o := by rw [List.eq_nil_of_length_eq_zero (show s.data.toList.length = 0 from hs0), List.append_nil]
 have HR := Lib.hid (show BR b g cap (o ++ s.data.toList) W2 0 cur by rw [hsd]; exact ⟨hbk2, hg2, h.ne, h.le, h.max, h.size, h.take⟩)
 have HB2 := Lib.hid hB2
 have HK2 := Lib.hid hk2
 have HS0 := Lib.hid hs0
 unfold maxLen at hmax
 clear hT hW2 hbk1 hbk2 hg2 hinfo h hsd hB2 hk2
 go_enter Tryz.func48, Tryz.ntmps48
 go_wp2_with (go_at_call 68; refine HT.out.mono ?_; rintro e W3 ⟨rfl, rfl⟩; clear HT)
 all_goals (go_ret2; exact ⟨by rw [HS0.out]; rfl, g, cap, 0, cur, HR.out, .inl rfl, HB2.out, fun k _ hkb _ => HK2.out k hkb⟩)
theorem wsR (w : World) (b g cap : Nat) (o : List UInt8) (lr : Int) (cur : Array Value) (s : ByteArray) (h : BR b g cap o w lr cur) (ho : 1 ≤ o.length) (hlim : o.length + s.size ≤ 140737488355328) :
  Calls Tryz.prog 48 #[.pointer (some ⟨b, 0, none⟩), .string s] w (WroteR b g o s w) := by
 rcases Nat.eq_zero_or_pos s.size with h0 | h0
 ·exact wsR0 w b g cap o lr cur s h ho h0
 ·exact wsR1 w b g cap o lr cur s h ho h0 hlim
structure KPR (b6 b7 g7 : Nat) (H7 R7 : Array Value) (w : World) : Prop where
 hd : w.heap[b7]? = some (.cells H7 135 (0, 0))
 row : w.heap[g7]? = some (.cells R7 5 (0, 0))
 own : ∃ g6 l c lr, w.heap[b6]? = some (.cells #[.slice (some ⟨g6, 0, none⟩) l c, .int .i64 0, .int .i8 lr] 135 (0, 0)) ∧ 1 ≤ l ∧ g6 ≠ g7
theorem KPR.below {b6 b7 g7 : Nat} {H7 R7 : Array Value} {w w' : World} (h : KPR b6 b7 g7 H7 R7 w) (hb : Below w.heap.size w w') : KPR b6 b7 g7 H7 R7 w' := by
 obtain ⟨h1, h2, g6, l, c, lr, h3, h4, h5⟩ := h
 exact ⟨(hb.block _ (blk_lt h1)).trans h1, (hb.block _ (blk_lt h2)).trans h2, g6, l, c, lr, (hb.block _ (blk_lt h3)).trans h3, h4, h5⟩
theorem blk_ne {w : World} {i j : Nat} {a b : Array Value} {s t : TypeId} {f g : Nat × Nat} (hi : w.heap[i]? = some (.cells a s f)) (hj : w.heap[j]? = some (.cells b t g)) (h : s ≠ t) : i ≠ j := by
 rintro rfl
 rw [hi] at hj
 injection hj with hj
 injection hj with _ e
 exact h e
theorem ehR (w0 : World) (b6 b7 g7 : Nat) (H7 R7 : Array Value) (gH : Value → Option Value) (hne : b7 ≠ b6) (hv : ∀ k v, gH k = some v → v = .bool true) (hU : Utf8Tabs 3 4 w0) (hW : WhiteTab 6 w0) : EH w0 b6 gH (KPR b6 b7 g7 H7 R7) where
 hU := hU
 hW := hW
 hv := hv
 kpB := fun w w' h hb => h.below hb
 ws := fun o s w h hk hB hl => by
  obtain ⟨h1, h2, g6, l, c, lr, h3, h4, h5⟩ := hk
  obtain ⟨hB6, lr2, hc⟩ := Lib.IsBuffer.cases h
  rcases hc with ⟨-, hn⟩ | ⟨g, cap, cur, hbk, hBg, hg, hnc, hcm, hcs, htk, hgb⟩
  ·rw [h3] at hn
   injection hn with hn
   injection hn with hn
   have := congrArg (fun a : Array Value => a[0]?) hn
   simp at this
  ·have he := h3.symm.trans hbk
   injection he with he
   injection he with he
   have e0 := congrArg (fun a : Array Value => a[0]?) he
   simp only [List.getElem?_toArray, List.getElem?_cons_zero] at e0
   injection e0 with e0
   injection e0 with e1 e2 e3
   injection e1 with e1
   injection e1 with e1
   subst e1
   rw [Lib.byteCells_length] at hbk hnc htk e2
   have hBR : BR b6 g6 cap o w lr2 cur := ⟨hbk, hg, hgb, hnc, hcm, hcs, htk⟩
   refine (wsR w b6 g6 cap o lr2 cur s hBR (by omega) hl).mono ?_
   rintro e w' ⟨rfl, g', cap', lr', cur', hBR', hg', hbel, hkeep⟩
   have lt6 := blk_lt h3
   have ltg := blk_lt hg
   have hg0 : w0.heap.size ≤ g' := by rcases hg' with rfl | h <;> omega
   refine ⟨rfl, hBR'.buf hB6 hg0, hbel.mono (by omega), fun k x hx hkb ht => ?_, ?_, ?_, g', _, cap', lr', hBR'.hd, by rw [List.length_append]; omega, ?_⟩
   ·have hkg : k ≠ g6 := by
     rintro rfl
     rw [hg] at hx
     injection hx with hx
     exact ht _ _ hx.symm
    rcases Nat.lt_or_ge k w.heap.size with hk | hk
    ·exact (hkeep k hk (fun e => hkb (by rw [e])) hkg).trans hx
    ·simp [Array.getElem?_eq_none hk] at hx
   ·exact (hkeep b7 (blk_lt h1) hne (blk_ne h1 hg (by decide))).trans h1
   ·exact (hkeep g7 (blk_lt h2) (Ne.symm (blk_ne h3 h2 (by decide))) (Ne.symm h5)).trans h2
   ·have := blk_lt h2
    rcases hg' with rfl | h
    ·exact h5
    ·omega
section
variable {H : Type} {enc : TypeId × Value → H} {w : World} {base : Nat} {spare : Nat → Bool} {held : Bool}
theorem strs_C {fuel : Nat} {cs : List Value} {x : DataW H × List MemPlace} (h : DataW.trod enc Tryz.prog w base spare held fuel 54 cs = some x) :
  ∃ A c l, cs = [.slice A l.length c] ∧ l.length ≤ c ∧ Kd.string.C w A l.length l := by
 rcases Deep.open_strs Tryz.underlying54 Tryz.underlying9 (by kernel_rfl) h with ⟨rfl, _⟩ | ⟨a, len, cap, m, Sx, rfl, _, hle, hmx, hm, _, hc⟩
 ·exact ⟨none, 0, [], rfl, Nat.le_refl _, rfl, by decide, fun h => absurd h (by decide)⟩
 ·have hlm : len ≤ m := by rw [hm]; split <;> omega
  have hlen : ((List.range len).map Sx).length = len := by simp
  refine ⟨some a, cap, (List.range len).map Sx, by rw [hlen], by rw [hlen]; exact hle, ?_⟩
  rw [hlen]
  refine ⟨hlen, by unfold maxLen at hmx; omega, fun _ => ⟨a, rfl, fun j p hj => ?_⟩⟩
  have hjl : j < len := by
   have := (List.getElem?_eq_some_iff.1 hj).1
   rw [hlen] at this; exact this
  have hp : Sx j = p := by
   rw [List.getElem?_map, List.getElem?_range hjl] at hj
   exact Option.some.inj hj
  subst hp
  refine ⟨[.string (Sx j)], rfl, rfl, fun i u hu => ?_⟩
  cases i with
  | zero =>
   injection hu with hu
   subst hu
   have := (hc j (by omega)).1
   rw [show Kd.string.sz = 1 from rfl, Nat.mul_one, Nat.add_zero]
   exact this
  | succ i => simp at hu
set_option maxRecDepth 100000 in
theorem key_K {fuel : Nat} {cs : List Value} {x : DataW H × List MemPlace} (h : DataW.trod enc Tryz.prog w base spare held fuel 56 cs = some x) : ∃ k : S56, k56.K w k cs ∧ cs.length = k56.sz ∧ (Lit.int .u32 k.f1).wf = true := by
 obtain ⟨xs, n, _, _, hcl, hxl, hf⟩ := DataW.trod_struct Tryz.underlying56 h
 have hc4 : Tryz.prog.cellsOf 56 = 4 := by kernel_rfl
 rw [hc4] at hcl
 match cs, hcl, xs, hxl with
 | [v0, v1, v2, v3], _, [y0, y1, y2, y3], _ =>
  have e0 : Tryz.prog.cellsOf 9 = 1 := by kernel_rfl
  have e1 : Tryz.prog.cellsOf 23 = 1 := by kernel_rfl
  have e2 : Tryz.prog.cellsOf 54 = 1 := by kernel_rfl
  have g0 : DataW.trod enc Tryz.prog w base spare held n 9 [v0] = some y0 := by
   have g := hf 0 _ rfl
   change DataW.trod enc Tryz.prog w base spare held n 9 (List.take (Tryz.prog.cellsOf 9) [v0, v1, v2, v3]) = some y0 at g
   rw [e0] at g
   exact g
  have g1 : DataW.trod enc Tryz.prog w base spare held n 23 [v1] = some y1 := by
   have g := hf 1 _ rfl
   change DataW.trod enc Tryz.prog w base spare held n 23 (List.take (Tryz.prog.cellsOf 23) [v1, v2, v3]) = some y1 at g
   rw [e1] at g
   exact g
  have g2 : DataW.trod enc Tryz.prog w base spare held n 54 [v2] = some y2 := by
   have g := hf 2 _ rfl
   change DataW.trod enc Tryz.prog w base spare held n 54 (List.take (Tryz.prog.cellsOf 54) [v2, v3]) = some y2 at g
   rw [e2] at g
   exact g
  have g3 : DataW.trod enc Tryz.prog w base spare held n 54 [v3] = some y3 := by
   have g := hf 3 _ rfl
   change DataW.trod enc Tryz.prog w base spare held n 54 (List.take (Tryz.prog.cellsOf 54) [v3]) = some y3 at g
   rw [e2] at g
   exact g
  obtain ⟨s, h0, _, _⟩ := DataW.trod_string Tryz.underlying9 g0
  obtain ⟨m, h1, _, hw⟩ := DataW.trod_int Tryz.underlying23 g1
  obtain ⟨A2, c2, l2, h2, hl2, hC2⟩ := strs_C g2
  obtain ⟨A3, c3, l3, h3, hl3, hC3⟩ := strs_C g3
  simp at h0 h1 h2 h3
  subst h0; subst h1; subst h2; subst h3
  exact ⟨⟨s, m, l2, l3⟩, k56_mk w ⟨s, m, l2, l3⟩ hl2 hC2 hl3 hC3, rfl, hw⟩
theorem keys_C {fuel : Nat} {cs : List Value} {x : DataW H × List MemPlace} (h : DataW.trod enc Tryz.prog w base spare held fuel 22 cs = some x) :
  ∃ A c ks, cs = [.slice A ks.length c] ∧ ks.length ≤ c ∧ Kd.C k56 w A ks.length ks ∧ ∀ k ∈ ks, (Lit.int .u32 k.f1).wf = true := by
 rcases Deep.open_slice Tryz.underlying22 h with ⟨rfl, _⟩ | ⟨a, len, cap, m, n, D, Pl, rfl, hb, hle, hmx, hm, _, hx⟩
 ·exact ⟨none, 0, [], rfl, Nat.le_refl _, ⟨rfl, by decide, fun h => absurd h (by decide)⟩, fun k hk => by cases hk⟩
 ·have hlm : len ≤ m := by rw [hm]; split <;> omega
  have hc4 : Tryz.prog.cellsOf 56 = 4 := by kernel_rfl
  have each : ∀ i, i < len → ∃ k : S56, (∃ c, c.length = k56.sz ∧ k56.K w k c ∧ ∀ j u, c[j]? = some u → w.cell? (a.add (i * k56.sz + j)) = some u) ∧ (Lit.int .u32 k.f1).wf = true := by
   intro i hi
   obtain ⟨cs', h1, h2⟩ := hx i (by omega)
   obtain ⟨k, hK, hl, hw⟩ := key_K h2
   refine ⟨k, ⟨cs', hl, hK, fun j u hu => ?_⟩, hw⟩
   obtain ⟨_, hlen, hcell⟩ := World.cells?_some h1
   have hj : j < cs'.length := (List.getElem?_eq_some_iff.1 hu).1
   have := hcell j (by omega)
   rw [hu, hc4, Deep.add_add] at this
   exact this
  haveI : Inhabited S56 := ⟨z56⟩
  obtain ⟨F, hF⟩ := Deep.choose_lt each
  have hlen : ((List.range len).map F).length = len := by simp
  refine ⟨some a, cap, (List.range len).map F, by rw [hlen], by rw [hlen]; exact hle, ?_, ?_⟩
  ·rw [hlen]
   refine ⟨hlen, by unfold maxLen at hmx; omega, fun _ => ⟨a, rfl, fun j p hj => ?_⟩⟩
   have hjl : j < len := by
    have := (List.getElem?_eq_some_iff.1 hj).1
    rw [hlen] at this; exact this
   have hp : F j = p := by
    rw [List.getElem?_map, List.getElem?_range hjl] at hj
    exact Option.some.inj hj
   subst hp
   exact (hF j hjl).1
  ·intro k hk
   obtain ⟨j, hj, rfl⟩ := List.mem_map.1 hk
   exact (hF j (List.mem_range.1 hj)).2
end
end Go.Proofs.YtkbegfihdpiacaaGreatDoor.PX
namespace Go.Proofs.YtkbegfihdpiacaaGreatDoor.PX
open Go.ChangeShapes Go.WideShapes Go.ChangeAt Go.RowKit Go.Lib Go.Shelf
abbrev misN : String := "loop.example/pub-notesandsignatures/pub/sumdbnote.errMismatchedVerifier"
theorem gFirst : Tryz.prog.globalNamed "unicode/utf8.first" = some 3 := by kernel_rfl
theorem gFirstT : (Tryz.prog.globals[3]?).map (·.type) = some 159 := by kernel_rfl
theorem gAcc : Tryz.prog.globalNamed "unicode/utf8.acceptRanges" = some 4 := by kernel_rfl
theorem gAccT : (Tryz.prog.globals[4]?).map (·.type) = some 162 := by kernel_rfl
theorem gMis : Tryz.prog.globalNamed misN = some 1 := by kernel_rfl
theorem gMisT : (Tryz.prog.globals[1]?).map (·.type) = some 69 := by kernel_rfl
theorem c8 : Tryz.prog.cellsOf 5 = 1 := by kernel_rfl
theorem c256 : Tryz.prog.cellsOf 159 = 256 := by kernel_rfl
theorem cAcc : Tryz.prog.cellsOf 161 = 2 := by kernel_rfl
theorem cStr : Tryz.prog.cellsOf 9 = 1 := by kernel_rfl
theorem cErr : Tryz.prog.cellsOf 213 = 1 := by kernel_rfl
theorem star : "*" ++ "errors.errorString" = "*errors.errorString" := by decide
theorem rowErr (u : TypeId) (h : Tryz.prog.typeName? 3 u = some "*errors.errorString") : u = 197 :=
 typeName_ptr_named (nm := "errors.errorString") (by rw [star]; kernel_rfl) (by kernel_rfl) (by decide) u (by rw [star]; exact h)
theorem accD : (Rows.laid_unicode_utf8_acceptRanges : DataW Unit) = Lib.acceptData := by kernel_rfl
theorem firstD : Rows.laid_unicode_utf8_first = Lib.firstData := by kernel_rfl
theorem whiteD : (Rows.laid_unicode_White_Space : DataW Unit) = Lib.whiteData := by kernel_rfl
theorem tabs_of {w : World} (h3 : VarReads Tryz.prog w "unicode/utf8.first" Lib.firstData) (h4 : VarReads Tryz.prog w "unicode/utf8.acceptRanges" Lib.acceptData) : Utf8Tabs 3 4 w := by
 obtain ⟨g, t, cs, fuel, p, hg, hty, hvar, hd⟩ := h3
 obtain rfl := Option.some.inj (gFirst.symm.trans hg)
 obtain rfl := Option.some.inj (gFirstT.symm.trans hty)
 have hf := cells_of_tab Tryz.underlying159 Tryz.underlying5 c8 c256 hd
 obtain ⟨g', t', cs', fuel', p', hg', hty', hvar', hd'⟩ := h4
 obtain rfl := Option.some.inj (gAcc.symm.trans hg')
 obtain rfl := Option.some.inj (gAccT.symm.trans hty')
 refine ⟨fun c hc => ?_, fun i hi => ?_⟩
 ·rw [World.var?_cell hg hvar c, ← Array.getElem?_toList, hf]
  simp [Lib.firstTab, hc]
 ·obtain ⟨k, d, q, hdi, he⟩ := array_elem Tryz.underlying162 hd' i hi
  rw [List.getElem?_map, List.getElem?_range hi] at hdi
  obtain rfl := Option.some.inj hdi
  rw [cAcc] at he
  have hcs := ints_of_struct (zs := [(accLo i : Int), (accHi i : Int)]) Tryz.underlying161 (fun j f hj => by
   match j, hj with
   | 0, hj => obtain rfl := Option.some.inj hj; exact ⟨Tryz.underlying5, rfl, c8⟩
   | 1, hj => obtain rfl := Option.some.inj hj; exact ⟨Tryz.underlying5, rfl, c8⟩
   | j + 2, hj => simp at hj) (by rw [cAcc]; rfl) he
  have e0 := congrArg (·[0]?) hcs
  have e1 := congrArg (·[1]?) hcs
  simp only [List.getElem?_take, List.getElem?_drop] at e0 e1
  constructor
  ·rw [World.var?_cell hg' hvar' (2 * i), ← Array.getElem?_toList]
   simpa [Nat.mul_comm] using e0
  ·rw [World.var?_cell hg' hvar' (2 * i + 1), ← Array.getElem?_toList]
   simpa [Nat.mul_comm] using e1
theorem white_of {w : World} (h6 : VarReads Tryz.prog w "unicode.White_Space" Lib.whiteData) : WhiteTab 6 w :=
 whiteTab_of_reads Tryz.lays199 ⟨by kernel_rfl, by kernel_rfl, by kernel_rfl, by kernel_rfl, by kernel_rfl, by kernel_rfl, by kernel_rfl, by kernel_rfl⟩ h6
end Go.Proofs.YtkbegfihdpiacaaGreatDoor.PX
namespace Go.Proofs.YtkbegfihdpiacaaGreatDoor.PX
open Go.RowKit Nt Go.Lib Go.Maps Go.Proofs.YtkbegfihdpiacaaGreatDoorW.PrintWords Go.Proofs.YtkbegfihdpiacaaGreatDoorW.PrintLast
def fgc (n : Nat) : UInt8 := alph.getD n 0
theorem fgc_all : (List.range 64).all (fun n => fg (fgc n) == n && decide (32 ≤ (fgc n).toNat) && decide ((fgc n).toNat < 127)) = true := by decide +kernel
theorem fgc_at (n : Nat) (h : n < 64) : fg (fgc n) = n ∧ 32 ≤ (fgc n).toNat ∧ (fgc n).toNat < 127 := by
 have := List.all_eq_true.1 fgc_all n (List.mem_range.2 h)
 rw [Bool.and_eq_true, Bool.and_eq_true, beq_iff_eq, decide_eq_true_eq, decide_eq_true_eq] at this
 exact ⟨this.1.1, this.1.2, this.2⟩
def v3 (a b c : UInt8) : Nat := a.toNat * 65536 + b.toNat * 256 + c.toNat
def f0 (v : Nat) : UInt8 := fgc (v / 262144 % 64)
def f1 (v : Nat) : UInt8 := fgc (v / 4096 % 64)
def f2 (v : Nat) : UInt8 := fgc (v / 64 % 64)
def f3 (v : Nat) : UInt8 := fgc (v % 64)
def encL : List UInt8 → List UInt8
 | a :: b :: c :: r => f0 (v3 a b c) :: f1 (v3 a b c) :: f2 (v3 a b c) :: f3 (v3 a b c) :: encL r
 | [a, b] => [f0 (v3 a b 0), f1 (v3 a b 0), f2 (v3 a b 0), 61]
 | [a] => [f0 (v3 a 0 0), f1 (v3 a 0 0), 61, 61]
 | [] => []
theorem fg_f (v : Nat) : fg (f0 v) = v / 262144 % 64 ∧ fg (f1 v) = v / 4096 % 64 ∧ fg (f2 v) = v / 64 % 64 ∧ fg (f3 v) = v % 64 :=
 ⟨(fgc_at _ (Nat.mod_lt _ (by decide))).1, (fgc_at _ (Nat.mod_lt _ (by decide))).1, (fgc_at _ (Nat.mod_lt _ (by decide))).1, (fgc_at _ (Nat.mod_lt _ (by decide))).1⟩
theorem u8_of (a : UInt8) (n : Nat) (h : n % 256 = a.toNat) : UInt8.ofNat n = a := by
 apply UInt8.toNat_inj.1
 rw [UInt8.toNat_ofNat']
 exact h
theorem by_v (a b c : UInt8) (v : Nat) (hv : v = v3 a b c) (d : Nat) (hd : d = v % 64 ∨ (d = 0 ∧ c = 0)) (e : Nat) (he : e = v / 64 % 64 ∨ (e = 0 ∧ b = 0 ∧ c = 0 ∧ d = 0)) : by0 (q4 (v / 262144 % 64) (v / 4096 % 64) e d) = a ∧ (e = v / 64 % 64 → by1 (q4 (v / 262144 % 64) (v / 4096 % 64) e d) = b ∧ (d = v % 64 → by2 (q4 (v / 262144 % 64) (v / 4096 % 64) e d) = c)) := by
 have ha := a.toNat_lt
 have hb := b.toNat_lt
 have hc := c.toNat_lt
 have hcz : c = 0 → c.toNat = 0 := fun h => by rw [h]; rfl
 have hbz : b = 0 → b.toNat = 0 := fun h => by rw [h]; rfl
 unfold v3 at hv
 unfold by0 by1 by2 q4
 refine ⟨u8_of _ _ ?_, fun h => ⟨u8_of _ _ ?_, fun h' => u8_of _ _ ?_⟩⟩
 ·rcases hd with hd | ⟨hd, hz⟩ <;> rcases he with he | ⟨he, hz1, hz2, hz3⟩
  ·omega
  ·have := hbz hz1; have := hcz hz2; omega
  ·have := hcz hz; omega
  ·have := hbz hz1; have := hcz hz2; omega
 ·rcases hd with hd | ⟨hd, hz⟩
  ·omega
  ·have := hcz hz; omega
 ·omega
theorem std_encL : ∀ l, Nt.std (encL l) = some l
 | a :: b :: c :: r => by
  have h := fg_f (v3 a b c)
  have hm : ∀ n, n % 64 < 64 := fun n => Nat.mod_lt _ (by decide)
  rw [encL, std_fig4 _ _ _ _ _ (by rw [h.1]; exact hm _) (by rw [h.2.1]; exact hm _) (by rw [h.2.2.1]; exact hm _) (by rw [h.2.2.2]; exact hm _), std_encL r, h.1, h.2.1, h.2.2.1, h.2.2.2]
  obtain ⟨e0, e12⟩ := by_v a b c _ rfl (v3 a b c % 64) (.inl rfl) _ (.inl rfl)
  obtain ⟨e1, e2⟩ := e12 rfl
  rw [e0, e1, e2 rfl]
  rfl
 | [a, b] => by
  have h := fg_f (v3 a b 0)
  have hm : ∀ n, n % 64 < 64 := fun n => Nat.mod_lt _ (by decide)
  have h0 := hm (v3 a b 0 / 262144)
  have h1 := hm (v3 a b 0 / 4096)
  have h2 := hm (v3 a b 0 / 64)
  have f61 : fg 61 = 255 := by decide
  rw [encL, std_cons4, h.1, h.2.1, h.2.2.1, f61, if_neg (by omega), if_neg (by omega), if_pos rfl, if_pos ⟨rfl, rfl⟩]
  obtain ⟨e0, e12⟩ := by_v a b 0 _ rfl 0 (.inr ⟨rfl, rfl⟩) _ (.inl rfl)
  rw [e0, (e12 rfl).1]
 | [a] => by
  have h := fg_f (v3 a 0 0)
  have hm : ∀ n, n % 64 < 64 := fun n => Nat.mod_lt _ (by decide)
  have h0 := hm (v3 a 0 0 / 262144)
  have h1 := hm (v3 a 0 0 / 4096)
  have f61 : fg 61 = 255 := by decide
  rw [encL, std_cons4, h.1, h.2.1, f61, if_neg (by omega), if_pos rfl, if_pos ⟨rfl, rfl, rfl⟩]
  obtain ⟨e0, e12⟩ := by_v a 0 0 _ rfl 0 (.inr ⟨rfl, rfl⟩) 0 (.inr ⟨rfl, rfl, rfl, rfl⟩)
  rw [e0]
 | [] => by rw [encL, Nt.std]
theorem encL_len : ∀ l, (encL l).length = (l.length + 2) / 3 * 4
 | a :: b :: c :: r => by rw [encL]; simp only [List.length_cons]; rw [encL_len r]; omega
 | [a, b] => by rw [encL]; simp only [List.length_cons, List.length_nil]
 | [a] => by rw [encL]; simp only [List.length_cons, List.length_nil]
 | [] => by rw [encL]; rfl
theorem encL_ascii : ∀ l, ∀ x ∈ encL l, 32 ≤ x.toNat ∧ x.toNat < 127
 | a :: b :: c :: r => by
  have hm : ∀ n, 32 ≤ (fgc (n % 64)).toNat ∧ (fgc (n % 64)).toNat < 127 := fun n => (fgc_at _ (Nat.mod_lt _ (by decide))).2
  intro x hx
  rw [encL] at hx
  simp only [List.mem_cons] at hx
  rcases hx with rfl | rfl | rfl | rfl | hx
  ·exact hm _
  ·exact hm _
  ·exact hm _
  ·exact hm _
  ·exact encL_ascii r x hx
 | [a, b] => by
  have hm : ∀ n, 32 ≤ (fgc (n % 64)).toNat ∧ (fgc (n % 64)).toNat < 127 := fun n => (fgc_at _ (Nat.mod_lt _ (by decide))).2
  intro x hx
  rw [encL] at hx
  simp only [List.mem_cons, List.not_mem_nil, or_false] at hx
  rcases hx with rfl | rfl | rfl | rfl
  ·exact hm _
  ·exact hm _
  ·exact hm _
  ·decide
 | [a] => by
  have hm : ∀ n, 32 ≤ (fgc (n % 64)).toNat ∧ (fgc (n % 64)).toNat < 127 := fun n => (fgc_at _ (Nat.mod_lt _ (by decide))).2
  intro x hx
  rw [encL] at hx
  simp only [List.mem_cons, List.not_mem_nil, or_false] at hx
  rcases hx with rfl | rfl | rfl | rfl
  ·exact hm _
  ·exact hm _
  ·decide
  ·decide
 | [] => by intro x hx; cases hx
theorem encL_app : ∀ (a b : List UInt8), a.length % 3 = 0 → encL (a ++ b) = encL a ++ encL b
 | x :: y :: z :: r, b, h => by
  simp only [List.length_cons] at h
  rw [List.cons_append, List.cons_append, List.cons_append, encL, encL, encL_app r b (by omega)]
  rfl
 | [x, y], b, h => absurd h (by simp)
 | [x], b, h => absurd h (by simp)
 | [], b, _ => by simp [encL]
theorem wrap64s (n : Int) (h0 : 0 ≤ n) (h1 : n < 2 ^ 62) : IntKind.u64.wrap n = n := by
 rw [IntKind.wrap_u64]; omega
theorem vbits (a b c : UInt8) : bits .or .u64 (bits .or .u64 (IntKind.u64.wrap (IntKind.u64.wrap (a.toNat : Int) * 65536)) (IntKind.u64.wrap (IntKind.u64.wrap (b.toNat : Int) * 256))) (IntKind.u64.wrap (c.toNat : Int)) = ((v3 a b c : Nat) : Int) := by
 have ha := a.toNat_lt
 have hb := b.toNat_lt
 have hc := c.toNat_lt
 rw [wrap64s (a.toNat : Int) (by omega) (by omega), wrap64s (b.toNat : Int) (by omega) (by omega), wrap64s (c.toNat : Int) (by omega) (by omega), wrap64s ((a.toNat : Int) * 65536) (by omega) (by omega), wrap64s ((b.toNat : Int) * 256) (by omega) (by omega)]
 rw [bits_join .u64 62 (by decide) wrap64s 16 ((a.toNat : Int) * 65536) ((b.toNat : Int) * 256) (by omega) (by omega) (by omega) (by omega) (by omega) (by omega)]
 rw [bits_join .u64 62 (by decide) wrap64s 8 ((a.toNat : Int) * 65536 + (b.toNat : Int) * 256) (c.toNat : Int) (by omega) (by omega) (by omega) (by omega) (by omega) (by omega)]
 unfold v3
 omega
theorem mask63 (n : Nat) (h : n < 4611686018427387904) : bits .and .u64 (n : Int) 63 = ((n % 64 : Nat) : Int) := by
 have := bits_mask .u64 62 (by decide) wrap64s 6 (by decide) (n : Int) (by omega) (by omega)
 rw [show ((2 : Int) ^ 6 - 1) = 63 by decide, show ((2 : Int) ^ 6) = 64 by decide] at this
 rw [this]
 omega
theorem set4 (A r : List Value) (p : Nat) (hp : A.length = p) (a b c d v0 v1 v2 v3 : Value) : ((((A ++ a :: b :: c :: d :: r).set p v0).set (p + 1) v1).set (p + 2) v2).set (p + 3) v3 = A ++ v0 :: v1 :: v2 :: v3 :: r := by
 subst hp
 simp [List.set_append]
theorem drop_four (l : List Value) (p : Nat) (h : p + 4 ≤ l.length) : ∃ a b c d, l.drop p = a :: b :: c :: d :: l.drop (p + 4) :=
 ⟨_, _, _, _, by rw [List.drop_eq_getElem_cons (show p < l.length by omega), List.drop_eq_getElem_cons (show p + 1 < l.length by omega), List.drop_eq_getElem_cons (show p + 1 + 1 < l.length by omega), List.drop_eq_getElem_cons (show p + 1 + 1 + 1 < l.length by omega)]⟩
theorem take_three (l : List UInt8) (i : Nat) (h : 3 * i + 3 ≤ l.length) : encL (l.take (3 * (i + 1))) = encL (l.take (3 * i)) ++ [f0 (v3 l[3 * i] l[3 * i + 1] l[3 * i + 2]), f1 (v3 l[3 * i] l[3 * i + 1] l[3 * i + 2]), f2 (v3 l[3 * i] l[3 * i + 1] l[3 * i + 2]), f3 (v3 l[3 * i] l[3 * i + 1] l[3 * i + 2])] := by
 rw [show 3 * (i + 1) = 3 * i + 1 + 1 + 1 by omega, List.take_succ_eq_append_getElem (show 3 * i + 1 + 1 < l.length by omega), List.take_succ_eq_append_getElem (show 3 * i + 1 < l.length by omega), List.take_succ_eq_append_getElem (show 3 * i < l.length by omega), List.append_assoc, List.append_assoc, encL_app _ _ (by rw [List.length_take]; omega)]
 simp [encL]
def EncF (w : World) (g : Nat) : Prop := ∀ k, k < 64 → w.cell? ⟨g, k, none⟩ = some (.int .u8 ((fgc k).toNat : Int))
theorem EncF.of {w0 w : World} {g : Nat} (h : OB w0 w g (encCells 64) 167) : EncF w g := fun k hk => by
 rw [h.cell]
 have e : (encCells 64)[k]? = (byteCells alph)[k]? := by
  unfold encCells
  rw [List.append_assoc, List.getElem?_append_left (by rw [byteCells_alph]; exact hk)]
 rw [e]
 unfold byteCells fgc
 rw [List.getElem?_map, List.getD_eq_getElem?_getD, List.getElem?_eq_getElem (show k < alph.length from hk)]
 rfl
theorem EncF.below {w W : World} {g : Nat} (h : EncF w g) (hb : Below w.heap.size w W) : EncF W g := fun k hk => pw_cell_below hb (h k hk)
set_option maxRecDepth 100000 in
set_option maxHeartbeats 2000000 in
theorem encodedLen (w : World) (ge n : Nat) (he : EncR w ge) (hn : n ≤ 1000000) :
  Calls Tryz.prog 70 #[.pointer (some ⟨ge, 0, none⟩), .int .i64 n] w fun e w' => e = .returned (.int .i64 (((n + 2) / 3 * 4 : Nat) : Int)) ∧ w = w' := by
 have hp := he.pad
 clear he
 go_enter Tryz.func70, Tryz.ntmps70
 go_wp2_with fail
 go_ret
 exact ⟨congrArg (fun x => Ending.returned (.int .i64 x)) (show ((n : Int) + 2) / 3 * 4 = (((n + 2) / 3 * 4 : Nat) : Int) by omega), rfl⟩
set_option maxRecDepth 100000 in
def litB (g : Nat → Value) : Array Value := #[g 0, g 1, g 2, g 3, g 4, g 5, g 6, g 7, g 8, g 9, g 10, g 11, g 12, g 13, g 14, g 15, g 16, g 17, g 18, g 19, g 20, g 21, g 22, g 23, g 24, g 25, g 26, g 27, g 28, g 29, g 30, g 31, g 32, g 33, g 34, g 35, g 36, g 37, g 38, g 39, g 40, g 41, g 42, g 43, g 44, g 45, g 46, g 47, g 48, g 49, g 50, g 51, g 52, g 53, g 54, g 55, g 56, g 57, g 58, g 59, g 60, g 61, g 62, g 63, g 64, g 65, g 66, g 67, g 68, g 69, g 70, g 71, g 72, g 73, g 74, g 75, g 76, g 77, g 78, g 79, g 80, g 81, g 82, g 83, g 84, g 85, g 86, g 87, g 88, g 89, g 90, g 91, g 92, g 93, g 94, g 95, g 96, g 97, g 98, g 99, g 100, g 101, g 102, g 103, g 104, g 105, g 106, g 107, g 108, g 109, g 110, g 111, g 112, g 113, g 114, g 115, g 116, g 117, g 118, g 119, g 120, g 121, g 122, g 123, g 124, g 125, g 126, g 127, g 128, g 129, g 130, g 131, g 132, g 133, g 134, g 135, g 136, g 137, g 138, g 139, g 140, g 141, g 142, g 143, g 144, g 145, g 146, g 147, g 148, g 149, g 150, g 151, g 152, g 153, g 154, g 155, g 156, g 157, g 158, g 159, g 160, g 161, g 162, g 163, g 164, g 165, g 166, g 167, g 168, g 169, g 170, g 171, g 172, g 173, g 174, g 175, g 176, g 177, g 178, g 179, g 180, g 181, g 182, g 183, g 184, g 185]
set_option maxRecDepth 100000 in
theorem range186 (g : Nat → Value) : (List.range 186).map g = (litB g).toList := by rfl
def Tl (g p n c : Nat) (v : Value) : Prop := ∃ a, v = .slice a n c ∧ (1 ≤ c → a = some ⟨g, p, none⟩)
theorem Tl.mk' {g p n c n' c' : Nat} {a : Option Addr} (hn : n' = n) (hc : c' = c) (ha : 1 ≤ c → a = some ⟨g, p, none⟩) : Tl g p n c (.slice a n' c') := ⟨a, by rw [hn, hc], ha⟩
abbrev FrBe (ge : Nat) (v1 v2 : Value) : List (Nat × Value) := [(0, .pointer (some ⟨ge, 0, none⟩)), (1, v1), (2, v2)]
def BI (w0 : World) (ge gd gs c : Nat) (l : List UInt8) (cs : List Value) (a : Act) (w : World) : Prop :=
 ∃ i v1 v2, 3 * i ≤ l.length ∧ FrN 186 (FrBe ge v1 v2) a ∧ Tl gd (4 * i) (cs.length - 4 * i) (cs.length - 4 * i) v1 ∧ Tl gs (3 * i) (l.length - 3 * i) (c - 3 * i) v2 ∧ OB w0 w gd (byteCells (encL (l.take (3 * i))) ++ cs.drop (4 * i)) 5
def Bmu (a : Act) (_ : World) : Nat := match a.tmps.getD 2 undef with
 | .slice _ n _ => n
 | _ => 0
theorem OB.st {w0 w : World} {g : Nat} {cs : List Value} {t : TypeId} (h : OB w0 w g cs t) (p : Nat) (hp : p < cs.length) (v : Value) : ∃ y cs' W', w.frozen? ⟨g, p, none⟩ = false ∧ w.cell? ⟨g, p, none⟩ = some y ∧ w.setCell ⟨g, p, none⟩ v = W' ∧ cs.set p v = cs' ∧ cs'.length = cs.length ∧ OB w0 W' g cs' t :=
 ⟨cs[p], _, _, h.frozen p, (h.cell p).trans (List.getElem?_eq_getElem hp), rfl, rfl, List.length_set, h.setCell p v⟩
theorem fig63 (v d : Nat) (hv : v < 16777216) : bits .and .u64 ((v : Int) / (d : Int)) 63 = ((v / d % 64 : Nat) : Int) := by
 have := Nat.div_le_self v d
 exact mask63 (v / d) (by omega)
theorem v3_lt (a b c : UInt8) : v3 a b c < 16777216 := by have := a.toNat_lt; have := b.toNat_lt; have := c.toNat_lt; unfold v3; omega
theorem vbits1 (a : UInt8) : IntKind.u64.wrap (IntKind.u64.wrap (a.toNat : Int) * 65536) = ((v3 a 0 0 : Nat) : Int) := by
 have ha := a.toNat_lt
 rw [wrap64s (a.toNat : Int) (by omega) (by omega), wrap64s ((a.toNat : Int) * 65536) (by omega) (by omega)]
 have h0 : (0 : UInt8).toNat = 0 := rfl
 unfold v3; rw [h0]; omega
theorem vbits2 (a b : UInt8) : bits .or .u64 (IntKind.u64.wrap (IntKind.u64.wrap (a.toNat : Int) * 65536)) (IntKind.u64.wrap (IntKind.u64.wrap (b.toNat : Int) * 256)) = ((v3 a b 0 : Nat) : Int) := by
 have ha := a.toNat_lt
 have hb := b.toNat_lt
 rw [wrap64s (a.toNat : Int) (by omega) (by omega), wrap64s (b.toNat : Int) (by omega) (by omega), wrap64s ((a.toNat : Int) * 65536) (by omega) (by omega), wrap64s ((b.toNat : Int) * 256) (by omega) (by omega)]
 rw [bits_join .u64 62 (by decide) wrap64s 16 ((a.toNat : Int) * 65536) ((b.toNat : Int) * 256) (by omega) (by omega) (by omega) (by omega) (by omega) (by omega)]
 have h0 : (0 : UInt8).toNat = 0 := rfl
 unfold v3; rw [h0]; omega
theorem enc_tail (l : List UInt8) (cs : List Value) (i : Nat) (q : List UInt8) (a b c d : Value) (hq : l = l.take (3 * i) ++ q) (hi : 3 * i ≤ l.length) (hcs : cs.length = (encL l).length) (hn : (encL q).length = 4) (he : byteCells (encL q) = [a, b, c, d]) :
  ((((byteCells (encL (l.take (3 * i))) ++ cs.drop (4 * i)).set (4 * i) a).set (4 * i + 1) b).set (4 * i + 2) c).set (4 * i + 3) d = byteCells (encL l) := by
 have hl : (encL (l.take (3 * i))).length = 4 * i := by rw [encL_len, List.length_take]; omega
 have ht : encL l = encL (l.take (3 * i)) ++ encL q := by
  conv => lhs; rw [hq]
  exact encL_app _ _ (by rw [List.length_take]; omega)
 have hc : cs.length = 4 * i + 4 := by rw [hcs, ht, List.length_append, hl, hn]
 obtain ⟨p, q', r, s, hd⟩ := drop_four cs (4 * i) (by omega)
 rw [hd, set4 _ _ _ (by rw [byteCells_length, hl]), List.drop_eq_nil_of_le (by omega), ht, Lib.byteCells_append, he]
set_option maxRecDepth 100000 in
set_option maxHeartbeats 4000000 in
theorem encodeW (w0 w : World) (ge gd gs c : Nat) (l : List UInt8) (cs : List Value) (he : EncR w0 ge) (hf : EncF w0 ge) (hs : SrcR w0 gs l) (hd : OB w0 w gd cs 5) (hcs : cs.length = (encL l).length) (hl : 1 ≤ l.length) (hl2 : l.length ≤ 100000) (hc : l.length ≤ c) (hc2 : c ≤ 9223372036854775807) :
  Calls Tryz.prog 71 #[.pointer (some ⟨ge, 0, none⟩), .slice (some ⟨gd, 0, none⟩) cs.length cs.length, .slice (some ⟨gs, 0, none⟩) l.length c] w fun e w' => e = .returned (.tuple #[]) ∧ OB w0 w' gd (byteCells (encL l)) 5 := by
 have HE := Lib.hid he
 have HF := Lib.hid hf
 have HS := Lib.hid hs
 have HD := Lib.hid hd
 have HCS := Lib.hid hcs
 have hfw : ∀ k, k < 64 → w.cell? ⟨ge, k, none⟩ = some (.int .u8 ((fgc k).toNat : Int)) := hf.below hd.below
 have hrg : w.rangeAt ge 0 ((List.range 64).map fun k => Value.int .u8 ((fgc k).toNat : Int)) := fun j v hj => by
  have hlt : j < 64 := by have := (List.getElem?_eq_some_iff.1 hj).1; simpa using this
  rw [List.getElem?_map, List.getElem?_range hlt] at hj
  rw [Nat.zero_add, hfw j hlt]
  exact hj
 have hlc : (((List.range 64).map fun k => Value.int .u8 ((fgc k).toNat : Int))).length = 64 := by simp
 generalize ((List.range 64).map fun k => Value.int .u8 ((fgc k).toNat : Int)) = av at *
 have HRG := Lib.hid hrg
 have HLC := Lib.hid hlc
 clear hrg hlc
 clear he hf hs hd hcs
 have nz : ((l.length : Int) == 0) = false := beq_eq_false_iff_ne.2 (by omega)
 go_enter Tryz.func71, Tryz.ntmps71
 go_upto_block 0 with fail
 refine wp_load_mid 165 _ rfl ge 0 rfl av _ HRG.out Tryz.underlying165 rfl (by rw [HLC.out]; kernel_rfl) ?_
 clear hfw
 go_upto_block 0 with fail
 refine wp_block ?_
 refine wp_loop (BI w0 ge gd gs c l cs) Bmu ⟨0, _, _, by omega, ⟨rfl, rfl, by repeat (first | exact ks_nil _ | refine ks_cons rfl ?_)⟩, ⟨_, rfl, fun _ => rfl⟩, ⟨_, rfl, fun _ => rfl⟩, HD.out⟩ ?_
 rintro a wr ⟨i, v1, v2, hi, hF, ⟨a1, rfl, ha1⟩, ⟨a2, rfl, ha2⟩, hO⟩
 have HO := Lib.hid hO
 clear hO
 obtain ⟨g, rfl, hg⟩ := hF.lit range186
 clear hF
 simp only [List.forall_mem_cons] at hg
 obtain ⟨k0, k1, k2, -⟩ := hg
 unfold litB
 simp only [k0, k1, k2]
 clear k0 k1 k2
 by_cases hlt : 3 * i + 3 ≤ l.length
 ·have hcl : (encL l).length = (l.length + 2) / 3 * 4 := encL_len l
  have hm : 4 * i + 4 ≤ cs.length := by rw [HCS.out, hcl]; omega
  obtain rfl := ha1 (by omega)
  obtain rfl := ha2 (by omega)
  have hq : (3 : Int) ≤ ((l.length - 3 * i : Nat) : Int) := by omega
  have h1 : decide ((3 : Int) ≤ ((l.length - 3 * i : Nat) : Int)) = true := decide_eq_true hq
  have h2 : decide (3 ≤ l.length - 3 * i) = true := decide_eq_true (by omega)
  have s0 := cell_keep HO.out.below (HS.out (3 * i) l[3 * i] (List.getElem?_eq_getElem (by omega)))
  have s1 := cell_keep HO.out.below (HS.out (3 * i + 1) l[3 * i + 1] (List.getElem?_eq_getElem (by omega)))
  have s2 := cell_keep HO.out.below (HS.out (3 * i + 2) l[3 * i + 2] (List.getElem?_eq_getElem (by omega)))
  generalize hx0 : l[3 * i] = x0 at *
  have HY0 := Lib.hid hx0
  clear hx0
  generalize hx1 : l[3 * i + 1] = x1 at *
  have HY1 := Lib.hid hx1
  clear hx1
  generalize hx2 : l[3 * i + 2] = x2 at *
  have HY2 := Lib.hid hx2
  clear hx2
  go_upto_region 3 with fail
  go_quiet (fail)
  go_upto_region 4 with fail
  have HO := Lib.hid (HO.out.drewN nq)
  replace s0 : True := trivial
  replace s1 : True := trivial
  replace s2 : True := trivial
  generalize wr.drewN nq = wq at *
  simp only [vbits]
  have hv16 : v3 x0 x1 x2 < 16777216 := by have := x0.toNat_lt; have := x1.toNat_lt; have := x2.toNat_lt; unfold v3; omega
  generalize hv : v3 x0 x1 x2 = v at *
  have HV := Lib.hid hv
  clear hv s0 s1 s2 hq h1 h2
  have hfw := HF.out.below HO.out.below
  have hlen : (byteCells (encL (l.take (3 * i))) ++ cs.drop (4 * i)).length = cs.length := by
   rw [List.length_append, byteCells_length, encL_len, List.length_take, List.length_drop]
   omega
  generalize hcs1 : byteCells (encL (l.take (3 * i))) ++ cs.drop (4 * i) = cs1 at *
  have HCS1 := Lib.hid hcs1
  have HLEN := Lib.hid hlen
  clear hcs1
  have d3 := HO.out.cell (4 * i + 3)
  rw [List.getElem?_eq_getElem (by omega)] at d3
  generalize cs1[4 * i + 3] = y3 at *
  go_upto_region 5 with fail
  clear d3 hlen hfw
  have e0 : bits .and .u64 ((v : Int) / 262144) 63 = ((v / 262144 % 64 : Nat) : Int) := by rw [show (v : Int) / 262144 = ((v / 262144 : Nat) : Int) by omega]; exact mask63 _ (by omega)
  generalize hm0 : v / 262144 % 64 = m0 at *
  have lm0 : m0 < 64 := by omega
  have im0 : (m0 : Int) < 64 := by omega
  have g0 := HF.out.below HO.out.below m0 lm0
  have z0 := HO.out.frozen (4 * i)
  have hi0 : 4 * i < cs1.length := by rw [HLEN.out]; omega
  have d0 := HO.out.cell (4 * i)
  rw [List.getElem?_eq_getElem hi0] at d0
  generalize cs1[4 * i] = y0 at *
  clear hi0
  have HM0 := Lib.hid hm0
  clear hm0
  go_upto_region 6 with fail
  have hO0 := HO.out.setCell (4 * i) (.int .u8 ((fgc m0).toNat : Int))
  have hL0 : (cs1.set (4 * i) (.int .u8 ((fgc m0).toNat : Int))).length = cs.length := by rw [List.length_set]; exact HLEN.out
  generalize wq.setCell ⟨gd, 4 * i, none⟩ (.int .u8 ((fgc m0).toNat : Int)) = W0 at *
  have HW0 := Lib.hid hO0
  have HX0 := Lib.hid hL0
  clear hO0 hL0 e0 im0 g0 z0 d0
  have e1 : bits .and .u64 ((v : Int) / 4096) 63 = ((v / 4096 % 64 : Nat) : Int) := by rw [show (v : Int) / 4096 = ((v / 4096 : Nat) : Int) by omega]; exact mask63 _ (by omega)
  generalize hm1 : v / 4096 % 64 = m1 at *
  have lm1 : m1 < 64 := by omega
  have im1 : (m1 : Int) < 64 := by omega
  have g1 := HF.out.below HW0.out.below m1 lm1
  have z1 := HW0.out.frozen (4 * i + 1)
  have hi1 : 4 * i + 1 < (cs1.set (4 * i) (.int .u8 ((fgc m0).toNat : Int))).length := by rw [HX0.out]; omega
  have d1 := HW0.out.cell (4 * i + 1)
  rw [List.getElem?_eq_getElem hi1] at d1
  generalize (cs1.set (4 * i) (.int .u8 ((fgc m0).toNat : Int)))[4 * i + 1] = y1 at *
  clear hi1
  have HM1 := Lib.hid hm1
  clear hm1
  go_upto_region 7 with fail
  have hO1 := HW0.out.setCell (4 * i + 1) (.int .u8 ((fgc m1).toNat : Int))
  have hL1 : ((cs1.set (4 * i) (.int .u8 ((fgc m0).toNat : Int))).set (4 * i + 1) (.int .u8 ((fgc m1).toNat : Int))).length = cs.length := by rw [List.length_set]; exact HX0.out
  generalize W0.setCell ⟨gd, 4 * i + 1, none⟩ (.int .u8 ((fgc m1).toNat : Int)) = W1 at *
  have HW1 := Lib.hid hO1
  have HX1 := Lib.hid hL1
  clear hO1 hL1 e1 im1 g1 z1 d1
  have e2 : bits .and .u64 ((v : Int) / 64) 63 = ((v / 64 % 64 : Nat) : Int) := by rw [show (v : Int) / 64 = ((v / 64 : Nat) : Int) by omega]; exact mask63 _ (by omega)
  generalize hm2 : v / 64 % 64 = m2 at *
  have lm2 : m2 < 64 := by omega
  have im2 : (m2 : Int) < 64 := by omega
  have g2 := HF.out.below HW1.out.below m2 lm2
  have z2 := HW1.out.frozen (4 * i + 2)
  have hi2 : 4 * i + 2 < ((cs1.set (4 * i) (.int .u8 ((fgc m0).toNat : Int))).set (4 * i + 1) (.int .u8 ((fgc m1).toNat : Int))).length := by rw [HX1.out]; omega
  have d2 := HW1.out.cell (4 * i + 2)
  rw [List.getElem?_eq_getElem hi2] at d2
  generalize ((cs1.set (4 * i) (.int .u8 ((fgc m0).toNat : Int))).set (4 * i + 1) (.int .u8 ((fgc m1).toNat : Int)))[4 * i + 2] = y2 at *
  clear hi2
  have HM2 := Lib.hid hm2
  clear hm2
  go_upto_region 8 with fail
  have hO2 := HW1.out.setCell (4 * i + 2) (.int .u8 ((fgc m2).toNat : Int))
  have hL2 : (((cs1.set (4 * i) (.int .u8 ((fgc m0).toNat : Int))).set (4 * i + 1) (.int .u8 ((fgc m1).toNat : Int))).set (4 * i + 2) (.int .u8 ((fgc m2).toNat : Int))).length = cs.length := by rw [List.length_set]; exact HX1.out
  generalize W1.setCell ⟨gd, 4 * i + 2, none⟩ (.int .u8 ((fgc m2).toNat : Int)) = W2 at *
  have HW2 := Lib.hid hO2
  have HX2 := Lib.hid hL2
  clear hO2 hL2 e2 im2 g2 z2 d2
  have e3 : bits .and .u64 ((v : Int)) 63 = ((v % 64 : Nat) : Int) := by exact mask63 _ (by omega)
  generalize hm3 : v % 64 = m3 at *
  have lm3 : m3 < 64 := by omega
  have im3 : (m3 : Int) < 64 := by omega
  have g3 := HF.out.below HW2.out.below m3 lm3
  have z3 := HW2.out.frozen (4 * i + 3)
  have hi3 : 4 * i + 3 < (((cs1.set (4 * i) (.int .u8 ((fgc m0).toNat : Int))).set (4 * i + 1) (.int .u8 ((fgc m1).toNat : Int))).set (4 * i + 2) (.int .u8 ((fgc m2).toNat : Int))).length := by rw [HX2.out]; omega
  have d3 := HW2.out.cell (4 * i + 3)
  rw [List.getElem?_eq_getElem hi3] at d3
  generalize (((cs1.set (4 * i) (.int .u8 ((fgc m0).toNat : Int))).set (4 * i + 1) (.int .u8 ((fgc m1).toNat : Int))).set (4 * i + 2) (.int .u8 ((fgc m2).toNat : Int)))[4 * i + 3] = y3 at *
  clear hi3
  have HM3 := Lib.hid hm3
  clear hm3
  go_upto_region 9 with fail
  have hO3 := HW2.out.setCell (4 * i + 3) (.int .u8 ((fgc m3).toNat : Int))
  have hL3 : ((((cs1.set (4 * i) (.int .u8 ((fgc m0).toNat : Int))).set (4 * i + 1) (.int .u8 ((fgc m1).toNat : Int))).set (4 * i + 2) (.int .u8 ((fgc m2).toNat : Int))).set (4 * i + 3) (.int .u8 ((fgc m3).toNat : Int))).length = cs.length := by rw [List.length_set]; exact HX2.out
  generalize W2.setCell ⟨gd, 4 * i + 3, none⟩ (.int .u8 ((fgc m3).toNat : Int)) = W3 at *
  have HW3 := Lib.hid hO3
  have HX3 := Lib.hid hL3
  clear hO3 hL3 e3 im3 g3 z3 d3
  have hOB : OB w0 W3 gd (byteCells (encL (l.take (3 * (i + 1)))) ++ cs.drop (4 * (i + 1))) 5 := by
   obtain ⟨a, b, c', d, hdr⟩ := drop_four cs (4 * i) hm
   have := HW3.out
   rw [← HCS1.out, hdr, set4 _ _ _ (by rw [byteCells_length, encL_len, List.length_take]; omega)] at this
   rw [take_three l i hlt, HY0.out, HY1.out, HY2.out, HV.out, Lib.byteCells_append, List.append_assoc]
   unfold f0 f1 f2 f3
   rw [HM0.out, HM1.out, HM2.out, HM3.out]
   exact this
  have HOB := Lib.hid hOB
  clear hOB
  go_wp2_with fail
  all_goals (
   refine ⟨⟨i + 1, _, _, by omega, ⟨rfl, rfl, by repeat (first | exact ks_nil _ | refine ks_cons rfl ?_)⟩, Tl.mk' (by omega) (by omega) ?_, Tl.mk' (by omega) (by omega) ?_, HOB.out⟩, ?_⟩
   ·first | exact fun _ => rfl | exact fun h => absurd h (by omega)
   ·first | exact fun _ => rfl | exact fun h => absurd h (by omega)
   ·show l.length - 3 * i - 3 < l.length - 3 * i
    omega)
 ·have h1 : decide ((3 : Int) ≤ ((l.length - 3 * i : Nat) : Int)) = false := decide_eq_false (by omega)
  have h2 : decide (3 ≤ l.length - 3 * i) = false := decide_eq_false (by omega)
  have hcl : (encL l).length = (l.length + 2) / 3 * 4 := encL_len l
  have hr3 : l.length - 3 * i = 0 ∨ l.length - 3 * i = 1 ∨ l.length - 3 * i = 2 := by omega
  rcases hr3 with hr | hr | hr
  ·have hOB := HO.out
   rw [List.take_of_length_le (by omega), List.drop_eq_nil_of_le (by rw [HCS.out, hcl]; omega), List.append_nil] at hOB
   have HOB := Lib.hid hOB
   rw [hr] at h1 h2 ⊢
   clear hOB hcl
   go_wp2_with fail
   first | go_end0 | refine bodyPost_ret (results_none rfl _ _ _) rfl ?_
   exact ⟨rfl, HOB.out⟩
  ·have hm : cs.length = 4 * i + 4 := by rw [HCS.out, hcl]; omega
   obtain rfl := ha1 (by omega)
   obtain rfl := ha2 (by omega)
   have hqq : l = l.take (3 * i) ++ l.drop (3 * i) := (List.take_append_drop _ _).symm
   rw [List.drop_eq_getElem_cons (show 3 * i < l.length by omega), List.drop_eq_nil_of_le (by omega)] at hqq
   have HQ := Lib.hid hqq
   clear hqq
   have s0 := cell_keep HO.out.below (HS.out (3 * i) l[3 * i] (List.getElem?_eq_getElem (by omega)))
   generalize l[3 * i] = x0 at *
   have HLEN : Hid ((byteCells (encL (l.take (3 * i))) ++ cs.drop (4 * i)).length = cs.length) := Lib.hid (by rw [List.length_append, byteCells_length, encL_len, List.length_take, List.length_drop]; omega)
   have hid3 : 3 * i ≤ l.length := hi
   have HT := Lib.hid (fun a b c d h1 h2 => enc_tail l cs i _ a b c d HQ.out hi HCS.out h1 h2)
   generalize byteCells (encL (l.take (3 * i))) ++ cs.drop (4 * i) = cs1 at *
   rw [hr] at h1 h2 ⊢
   clear hcl hr
   go_upto_region 15 with fail
   simp only [vbits1]
   have hv16 : v3 x0 0 0 < 16777216 := v3_lt _ _ _
   generalize hv : v3 x0 0 0 = v at *
   have HV := Lib.hid hv
   clear hv s0 h1 h2
   have e0 : bits .and .u64 ((v : Int) / 262144) 63 = ((v / 262144 % 64 : Nat) : Int) := fig63 v 262144 hv16
   have lm0 : v / 262144 % 64 < 64 := Nat.mod_lt _ (by decide)
   generalize hm0 : v / 262144 % 64 = m0 at *
   have im0 : (m0 : Int) < 64 := by omega
   have g0 := HF.out.below HO.out.below m0 lm0
   obtain ⟨y0, t0, U0, z0, d0, hW, hc, hl', hO'⟩ := HO.out.st (4 * i) (by rw [HLEN.out]; omega) (.int .u8 ((fgc m0).toNat : Int))
   have HM0 := Lib.hid hm0
   have HC0 := Lib.hid hc
   have HL0 := Lib.hid (hl'.trans HLEN.out)
   have HO0 := Lib.hid hO'
   have HW0 := Lib.hid hW
   clear hm0 hc hl' hO' hW
   go_upto_region 16 with fail
   rw [HW0.out]
   clear e0 lm0 im0 g0 z0 d0
   have e1 : bits .and .u64 ((v : Int) / 4096) 63 = ((v / 4096 % 64 : Nat) : Int) := fig63 v 4096 hv16
   have lm1 : v / 4096 % 64 < 64 := Nat.mod_lt _ (by decide)
   generalize hm1 : v / 4096 % 64 = m1 at *
   have im1 : (m1 : Int) < 64 := by omega
   have g1 := HF.out.below HO0.out.below m1 lm1
   obtain ⟨y1, t1, U1, z1, d1, hW, hc, hl', hO'⟩ := HO0.out.st (4 * i + 1) (by rw [HL0.out]; omega) (.int .u8 ((fgc m1).toNat : Int))
   have HM1 := Lib.hid hm1
   have HC1 := Lib.hid hc
   have HL1 := Lib.hid (hl'.trans HL0.out)
   have HO1 := Lib.hid hO'
   have HW1 := Lib.hid hW
   clear hm1 hc hl' hO' hW
   go_upto_region 17 with fail
   rw [HW1.out]
   clear e1 lm1 im1 g1 z1 d1
   have pp := (HE.out.below HO1.out.below).pad
   go_upto_region 18 with fail
   clear pp
   have p2 := (HE.out.below HO1.out.below).pad
   obtain ⟨y2, t2, U2, z2, d2, hW, hc, hl', hO'⟩ := HO1.out.st (4 * i + 2) (by rw [HL1.out]; omega) (.int .u8 61)
   have HC2 := Lib.hid hc
   have HL2 := Lib.hid (hl'.trans HL1.out)
   have HO2 := Lib.hid hO'
   have HW2 := Lib.hid hW
   clear hc hl' hO' hW
   go_upto_region 19 with fail
   rw [HW2.out]
   clear p2 z2 d2
   have p3 := (HE.out.below HO2.out.below).pad
   obtain ⟨y3, t3, U3, z3, d3, hW, hc, hl', hO'⟩ := HO2.out.st (4 * i + 3) (by rw [HL2.out]; omega) (.int .u8 61)
   have HC3 := Lib.hid hc
   have HL3 := Lib.hid (hl'.trans HL2.out)
   have HO3 := Lib.hid hO'
   have HW3 := Lib.hid hW
   clear hc hl' hO' hW
   go_wp2_with fail
   first | go_end0 | refine bodyPost_ret (results_none rfl _ _ _) rfl ?_
   rw [HW3.out]
   refine ⟨rfl, ?_⟩
   have h := HO3.out
   rw [← HC3.out, ← HC2.out, ← HC1.out, ← HC0.out, HT.out _ _ _ _ rfl (by rw [← HM0.out, ← HM1.out, ← HV.out]; rfl)] at h
   exact h
  ·have hm : cs.length = 4 * i + 4 := by rw [HCS.out, hcl]; omega
   obtain rfl := ha1 (by omega)
   obtain rfl := ha2 (by omega)
   have hqq : l = l.take (3 * i) ++ l.drop (3 * i) := (List.take_append_drop _ _).symm
   rw [List.drop_eq_getElem_cons (show 3 * i < l.length by omega), List.drop_eq_getElem_cons (show 3 * i + 1 < l.length by omega), List.drop_eq_nil_of_le (by omega)] at hqq
   have HQ := Lib.hid hqq
   clear hqq
   have s0 := cell_keep HO.out.below (HS.out (3 * i) l[3 * i] (List.getElem?_eq_getElem (by omega)))
   have s1 := cell_keep HO.out.below (HS.out (3 * i + 1) l[3 * i + 1] (List.getElem?_eq_getElem (by omega)))
   generalize l[3 * i] = x0 at *
   generalize l[3 * i + 1] = x1 at *
   have HLEN : Hid ((byteCells (encL (l.take (3 * i))) ++ cs.drop (4 * i)).length = cs.length) := Lib.hid (by rw [List.length_append, byteCells_length, encL_len, List.length_take, List.length_drop]; omega)
   have hid3 : 3 * i ≤ l.length := hi
   have HT := Lib.hid (fun a b c d h1 h2 => enc_tail l cs i _ a b c d HQ.out hi HCS.out h1 h2)
   generalize byteCells (encL (l.take (3 * i))) ++ cs.drop (4 * i) = cs1 at *
   rw [hr] at h1 h2 ⊢
   clear hcl hr
   go_upto_region 21 with fail
   go_quiet (fail)
   go_upto_region 22 with fail
   have HO := Lib.hid (HO.out.drewN nq)
   replace s0 : True := trivial
   replace s1 : True := trivial
   generalize wr.drewN nq = wq at *
   simp only [vbits2]
   have hv16 : v3 x0 x1 0 < 16777216 := v3_lt _ _ _
   generalize hv : v3 x0 x1 0 = v at *
   have HV := Lib.hid hv
   clear hv s0 s1 h1 h2
   have e0 : bits .and .u64 ((v : Int) / 262144) 63 = ((v / 262144 % 64 : Nat) : Int) := fig63 v 262144 hv16
   have lm0 : v / 262144 % 64 < 64 := Nat.mod_lt _ (by decide)
   generalize hm0 : v / 262144 % 64 = m0 at *
   have im0 : (m0 : Int) < 64 := by omega
   have g0 := HF.out.below HO.out.below m0 lm0
   obtain ⟨y0, t0, U0, z0, d0, hW, hc, hl', hO'⟩ := HO.out.st (4 * i) (by rw [HLEN.out]; omega) (.int .u8 ((fgc m0).toNat : Int))
   have HM0 := Lib.hid hm0
   have HC0 := Lib.hid hc
   have HL0 := Lib.hid (hl'.trans HLEN.out)
   have HO0 := Lib.hid hO'
   have HW0 := Lib.hid hW
   clear hm0 hc hl' hO' hW
   go_upto_region 23 with fail
   rw [HW0.out]
   clear e0 lm0 im0 g0 z0 d0
   have e1 : bits .and .u64 ((v : Int) / 4096) 63 = ((v / 4096 % 64 : Nat) : Int) := fig63 v 4096 hv16
   have lm1 : v / 4096 % 64 < 64 := Nat.mod_lt _ (by decide)
   generalize hm1 : v / 4096 % 64 = m1 at *
   have im1 : (m1 : Int) < 64 := by omega
   have g1 := HF.out.below HO0.out.below m1 lm1
   obtain ⟨y1, t1, U1, z1, d1, hW, hc, hl', hO'⟩ := HO0.out.st (4 * i + 1) (by rw [HL0.out]; omega) (.int .u8 ((fgc m1).toNat : Int))
   have HM1 := Lib.hid hm1
   have HC1 := Lib.hid hc
   have HL1 := Lib.hid (hl'.trans HL0.out)
   have HO1 := Lib.hid hO'
   have HW1 := Lib.hid hW
   clear hm1 hc hl' hO' hW
   go_upto_region 24 with fail
   rw [HW1.out]
   clear e1 lm1 im1 g1 z1 d1
   have e2 : bits .and .u64 ((v : Int) / 64) 63 = ((v / 64 % 64 : Nat) : Int) := fig63 v 64 hv16
   have lm2 : v / 64 % 64 < 64 := Nat.mod_lt _ (by decide)
   generalize hm2 : v / 64 % 64 = m2 at *
   have im2 : (m2 : Int) < 64 := by omega
   have g2 := HF.out.below HO1.out.below m2 lm2
   obtain ⟨y2, t2, U2, z2, d2, hW, hc, hl', hO'⟩ := HO1.out.st (4 * i + 2) (by rw [HL1.out]; omega) (.int .u8 ((fgc m2).toNat : Int))
   have HM2 := Lib.hid hm2
   have HC2 := Lib.hid hc
   have HL2 := Lib.hid (hl'.trans HL1.out)
   have HO2 := Lib.hid hO'
   have HW2 := Lib.hid hW
   clear hm2 hc hl' hO' hW
   go_upto_region 25 with fail
   rw [HW2.out]
   clear e2 lm2 im2 g2 z2 d2
   have pp := (HE.out.below HO2.out.below).pad
   go_upto_region 26 with fail
   clear pp
   have p3 := (HE.out.below HO2.out.below).pad
   obtain ⟨y3, t3, U3, z3, d3, hW, hc, hl', hO'⟩ := HO2.out.st (4 * i + 3) (by rw [HL2.out]; omega) (.int .u8 61)
   have HC3 := Lib.hid hc
   have HL3 := Lib.hid (hl'.trans HL2.out)
   have HO3 := Lib.hid hO'
   have HW3 := Lib.hid hW
   clear hc hl' hO' hW
   go_wp2_with fail
   first | go_end0 | refine bodyPost_ret (results_none rfl _ _ _) rfl ?_
   rw [HW3.out]
   refine ⟨rfl, ?_⟩
   have h := HO3.out
   rw [← HC3.out, ← HC2.out, ← HC1.out, ← HC0.out, HT.out _ _ _ _ rfl (by rw [← HM0.out, ← HM1.out, ← HM2.out, ← HV.out]; rfl)] at h
   exact h
theorem rb_cells {w : World} {g : Nat} {l : List UInt8} (hn : l.length ≤ 1000000) (h : ∀ j, w.cell? ⟨g, j, none⟩ = (byteCells l)[j]?) : RB w (some ⟨g, 0, none⟩) l :=
 ⟨ints_length l, by omega, fun _ => ⟨_, rfl, fun j hj => by
  rw [add_plain, h j]
  unfold byteCells ints
  rw [List.getElem?_map, List.getD_eq_getElem?_getD, List.getElem?_map, List.getElem?_eq_getElem hj]
  rfl⟩⟩
set_option maxRecDepth 100000 in
set_option maxHeartbeats 2000000 in
theorem encStr (w : World) (ge gs c : Nat) (l : List UInt8) (he : EncR w ge) (hf : EncF w ge) (hs : SrcR w gs l) (hl : 1 ≤ l.length) (hl2 : l.length ≤ 100000) (hc : l.length ≤ c) (hc2 : c ≤ 9223372036854775807) :
  Calls Tryz.prog 51 #[.pointer (some ⟨ge, 0, none⟩), .slice (some ⟨gs, 0, none⟩) l.length c] w fun e w' => e = .returned (.string (S (encL l))) ∧ Below w.heap.size w w' := by
 obtain ⟨D, hD⟩ : ∃ D, D = (l.length + 2) / 3 * 4 := ⟨_, rfl⟩
 have hEl := encodedLen w ge l.length he (by omega)
 rw [← hD] at hEl
 have hmk := print_make (P := Tryz.prog) 72 5 .u8 1 Tryz.underlying72 infoU8 (by decide) D (by omega)
 have hen : (encL l).length = D := by rw [encL_len, hD]
 have ho1 : OB w (w.alloc (.cells (madeCells #[.int .u8 0] D) 5)) w.heap.size (madeCells #[.int .u8 0] D).toList 5 := OB.new (w0 := w) (Below.refl _ _) _ _
 have hlc : (madeCells #[.int .u8 0] D).toList.length = D := by simp [madeCells]
 have hec := encodeW w _ ge w.heap.size gs c l _ he hf hs ho1 (by rw [hlc, hen]) hl hl2 hc hc2
 rw [hlc] at hec
 have HEC := Lib.hid hec
 have HEN := Lib.hid hen
 have hDs : D ≤ 200000 := by omega
 clear hec ho1 hlc he hf hs hen hD
 go_enter Tryz.func51, Tryz.ntmps51
 go_upto_region 3 with (first
  | (go_at_call 70; refine hEl.mono ?_; rintro e w1 ⟨rfl, rfl⟩)
  | (go_at_call 71; refine HEC.out.mono ?_; rintro e w2 ⟨rfl, hO⟩; have HO := Lib.hid hO; clear hO)
  | fail)
 have hrb : RB w2 (some ⟨w.heap.size, 0, none⟩) (encL l) := rb_cells (by rw [HEN.out]; omega) HO.out.cell
 have cv := hrb.str D
 rw [HEN.out] at cv
 go_wp2_with fail
 go_ret
 exact ⟨rfl, HO.out.below⟩
def makC (n : ByteArray) (h : Int) (s : ByteArray) : Value := .agg #[.string n, .int .u32 h, .string s, .bool false]
set_option maxRecDepth 100000 in
theorem mak_name (n : ByteArray) (h : Int) (s : ByteArray) (w : World) :
  Calls Tryz.prog 106 #[makC n h s] w fun e w' => e = .returned (.string n) ∧ Below w.heap.size w w' := by
 unfold makC
 go_enter Tryz.func106, Tryz.ntmps106
 go_wp2
 go_ret
 exact ⟨rfl, (Below.refl _ _).alloc (Nat.le_refl _) _⟩
set_option maxRecDepth 100000 in
theorem mak_hash (n : ByteArray) (h : Int) (s : ByteArray) (w : World) :
  Calls Tryz.prog 105 #[makC n h s] w fun e w' => e = .returned (.int .u32 h) ∧ Below w.heap.size w w' := by
 unfold makC
 go_enter Tryz.func105, Tryz.ntmps105
 go_wp2
 go_ret
 exact ⟨rfl, (Below.refl _ _).alloc (Nat.le_refl _) _⟩
set_option maxRecDepth 100000 in
theorem mak_sign (n : ByteArray) (h : Int) (s : ByteArray) (v : Value) (w : World) :
  Calls Tryz.prog 107 #[makC n h s, v] w fun e w' => ∃ g c, e = .returned (.tuple #[.slice (some ⟨g, 0, none⟩) s.size c, .nilIface]) ∧ s.size ≤ c ∧ w.heap.size ≤ g ∧ (∀ j, j < s.size → w'.cell? ⟨g, j, none⟩ = some (.int .u8 ((s.data.toList.getD j 0).toNat : Int))) ∧ Below w.heap.size w w' := by
 have kb := fun W => print_bytes (P := Tryz.prog) 9 72 5 Tryz.underlying9 Tryz.underlying72 Tryz.underlying5 s W
 have hc := fun W : World => bytesWorld_cell W 5 s
 have HC := Lib.hid hc
 clear hc
 unfold makC
 go_enter Tryz.func107, Tryz.ntmps107
 go_wp2
 go_ret2
 refine ⟨_, _, rfl, grownCap_ge _ _ _ _, ?_, ?_, ?_⟩
 ·simp
 ·have h := HC.out (w.alloc (.cells #[.string n, .int .u32 h, .string s, .bool false] 88))
  rw [show ∀ o, (w.alloc o).heap.size = w.heap.size + 1 from fun o => by simp] at h
  exact h
 ·exact bytes_below ((Below.refl _ _).alloc (Nat.le_refl _) _) (by simp) _ _
set_option maxRecDepth 100000 in
theorem mak_mname (n : ByteArray) (h : Int) (s : ByteArray) (w : World) : (method 320 88 (makC n h s) "Name").run Tryz.prog w = .ok (106, makC n h s) w := by kernel_rfl
set_option maxRecDepth 100000 in
theorem mak_mhash (n : ByteArray) (h : Int) (s : ByteArray) (w : World) : (method 320 88 (makC n h s) "KeyHash").run Tryz.prog w = .ok (105, makC n h s) w := by kernel_rfl
set_option maxRecDepth 100000 in
theorem mak_msign (n : ByteArray) (h : Int) (s : ByteArray) (w : World) : (method 320 88 (makC n h s) "Sign").run Tryz.prog w = .ok (107, makC n h s) w := by kernel_rfl
set_option maxRecDepth 100000 in
theorem mak_nil (n : ByteArray) (h : Int) (s : ByteArray) (w : World) : (nilAhead 320 88 (makC n h s) "Sign").run Tryz.prog w = .ok (some false) w := by kernel_rfl
def beL (h : Nat) : List UInt8 := [UInt8.ofNat (h / 16777216), UInt8.ofNat (h / 65536), UInt8.ofNat (h / 256), UInt8.ofNat h]
theorem be_cells (h : Nat) : byteCells (beL h) = [.int .u8 ((h : Int) / 16777216 % 256), .int .u8 ((h : Int) / 65536 % 256), .int .u8 ((h : Int) / 256 % 256), .int .u8 ((h : Int) % 256)] := by
 unfold byteCells beL
 simp only [List.map_cons, List.map_nil, UInt8.toNat_ofNat']
 rfl
set_option maxRecDepth 100000 in
set_option maxHeartbeats 1000000 in
theorem bePut (w0 w : World) (g : Nat) (y0 y1 y2 y3 : Value) (t : TypeId) (ho : OB w0 w g [y0, y1, y2, y3] t) (h : Nat) (hh : h < 4294967296) :
  Calls Tryz.prog 50 #[.slice (some ⟨g, 0, none⟩) 4 4, .int .u32 (h : Int)] w fun e w' => e = .returned (.tuple #[]) ∧ OB w0 w' g (byteCells (beL h)) t := by
 have d0 : w.cell? ⟨g, 0, none⟩ = some y0 := ho.cell 0
 have d1 : w.cell? ⟨g, 1, none⟩ = some y1 := ho.cell 1
 have d2 : w.cell? ⟨g, 2, none⟩ = some y2 := ho.cell 2
 have d3 : w.cell? ⟨g, 3, none⟩ = some y3 := ho.cell 3
 have z0 := ho.frozen 0
 have z1 := ho.frozen 1
 have z2 := ho.frozen 2
 have z3 := ho.frozen 3
 have HO := Lib.hid ho
 clear ho
 go_enter Tryz.func50, Tryz.ntmps50
 go_wp2
 first | go_end0 | refine bodyPost_ret (results_none rfl _ _ _) rfl ?_
 refine ⟨rfl, ?_⟩
 have := (((HO.out.setCell 0 (.int .u8 ((h : Int) / 16777216 % 256))).setCell 1 (.int .u8 ((h : Int) / 65536 % 256))).setCell 2 (.int .u8 ((h : Int) / 256 % 256))).setCell 3 (.int .u8 ((h : Int) % 256))
 rw [be_cells]
 rw [show (h : Int) / 16777216 % 256 = (h : Int) / 16777216 by omega] at this ⊢
 exact this
theorem wf32 (h : Nat) (hh : h < 4294967296) : (Lit.int .u32 (h : Int)).wf = true := by
 have h0 : IntKind.u32.min = 0 := rfl
 have h1 : IntKind.u32.max = 4294967295 := rfl
 simp [Lit.wf, h0, h1]
 omega
theorem src_own {w : World} {B : Nat} {v : Value} {l : List UInt8} (h : w.ownsRow B 5 1 v l.length (Lib.byteCells l)) (hl : 1 ≤ l.length) : ∃ g c, v = .slice (some ⟨g, 0, none⟩) l.length c ∧ l.length ≤ c ∧ c ≤ maxLen ∧ SrcR w g l ∧ ∃ cur, w.heap[g]? = some (.cells cur 5 (0, 0)) := by
 rcases h.2 with ⟨_, h0⟩ | ⟨g, c, cur, rfl, hB, hg, hnc, hcm, hcs, htk⟩
 ·omega
 ·refine ⟨g, c, rfl, hnc, hcm, fun i b hi => ?_, cur, hg⟩
  have hil := (List.getElem?_eq_some_iff.1 hi).1
  rw [cell_of_row w g i cur _ _ hg, ← Array.getElem?_toList, ← List.getElem?_take_of_lt (show i < l.length * 1 by omega), htk]
  unfold Lib.byteCells
  rw [List.getElem?_map, hi]
  rfl
theorem src_cells {w : World} {g : Nat} {l : List UInt8} (h : SrcR w g l) (j : Nat) (u : Value) (hj : (byteCells l)[j]? = some u) : w.cell? ((⟨g, 0, none⟩ : Addr).add j) = some u := by
 unfold byteCells at hj
 rw [List.getElem?_map] at hj
 obtain ⟨b, hb, rfl⟩ := Option.map_eq_some_iff.1 hj
 rw [add_plain]; exact h j b hb
theorem br_of {B b : Nat} {o : List UInt8} {w : World} (h : Lib.IsBuffer 135 5 B b (Lib.byteCells o) w) (ho : o ≠ []) : ∃ g cap lr cur, BR b g cap o w lr cur ∧ B ≤ g := by
 obtain ⟨-, lr, hc⟩ := Lib.IsBuffer.cases h
 rcases hc with ⟨hn, -⟩ | ⟨g, cap, cur, hbk, hBg, hg, hnc, hcm, hcs, htk, hgb⟩
 ·exact absurd (List.map_eq_nil_iff.1 hn) ho
 ·rw [Lib.byteCells_length] at hbk hnc htk
  exact ⟨g, cap, lr, cur, ⟨hbk, hg, hgb, hnc, hcm, hcs, htk⟩, hBg⟩
structure SLs (W5 w : World) (b7 b8 : Nat) (f : Value → Option Value) : Prop where
 below : Below b7 W5 w
 emp : KP7 b7 w
 map : MapR Tryz.prog 126 w b8 f
theorem SLs.step {W5 w w' : World} {b7 b8 : Nat} {f : Value → Option Value} (h : SLs W5 w b7 b8 f) (hb : Below w.heap.size w w') : SLs W5 w' b7 b8 f :=
 ⟨h.below.trans (hb.mono (Nat.le_of_lt (blk_lt h.emp))), (hb.block _ (blk_lt h.emp)).trans h.emp, h.map.below hb⟩
theorem SLs.put {W5 w w' : World} {b7 b8 : Nat} {f f' : Value → Option Value} (h : SLs W5 w b7 b8 f) (h8 : b7 < b8) (hm : MapR Tryz.prog 126 w' b8 f') (hg : w.grownBy w' (some b8)) : SLs W5 w' b7 b8 f' :=
 ⟨h.below.grown hg (Nat.le_of_lt (blk_lt h.emp)) (fun k hk => by injection hk with hk; omega), (hg.block b7 (blk_lt h.emp) (fun e => by injection e with e; omega)).trans h.emp, hm⟩
theorem BR.keep {b g cap B : Nat} {o : List UInt8} {w w' : World} {lr : Int} {cur : Array Value} (h : BR b g cap o w lr cur) (hb : Below B w w') (h1 : b < B) (h2 : g < B) : BR b g cap o w' lr cur :=
 {h with hd := (hb.block b h1).trans h.hd, row := (hb.block g h2).trans h.row }
structure SLe (W5 w : World) (b7 b8 : Nat) (f : Value → Option Value) (o : List UInt8) : Prop where
 below : Below b7 W5 w
 buf : Lib.IsBuffer 135 5 b7 b7 (Lib.byteCells o) w
 map : MapR Tryz.prog 126 w b8 f
theorem SLe.wr {W5 w : World} {b7 b8 : Nat} {f : Value → Option Value} {o : List UInt8} (h : SLe W5 w b7 b8 f o) (h8 : b8 ≠ b7) (s : ByteArray) (hl : o.length + s.size ≤ 140737488355328) :
  Calls Tryz.prog 48 #[.pointer (some ⟨b7, 0, none⟩), .string s] w fun e w' => e = .returned (.tuple #[.int .i64 s.size, .nilIface]) ∧ SLe W5 w' b7 b8 f (o ++ s.data.toList) := by
 have hlt := h.buf.lt
 refine (Tryz.Buffer_WriteString_k b7 b7 (Lib.byteCells o) s w h.buf (Nat.le_of_lt hlt) (Lib.byteCells_one o) (by rw [Lib.byteCells_length]; exact hl)).mono ?_
 rintro e w' ⟨rfl, h1, h2, h3⟩
 refine ⟨rfl, h.below.trans h2, by rw [← Lib.byteCells_append] at h1; exact h1, ?_⟩
 obtain ⟨es, clock, hb, _⟩ := id h.map
 exact h.map.keep ((h3 b8 _ hb (fun e => h8 (Option.some.inj e)) (fun c f e => by cases e)).trans hb.symm)
theorem SLs.start {W5 w : World} {b7 b8 : Nat} {f : Value → Option Value} (h : SLs W5 w b7 b8 f) : SLe W5 w b7 b8 f [] :=
 ⟨h.below, ⟨Nat.le_refl _, _, _, h.emp, World.ownsRow_nil w _ _ _, by simp [Value.ownBlock]⟩, h.map⟩
abbrev FrY (gN b6 b7 b8 gl cl : Nat) (j : Int) : List (Nat × Value) :=
 [(0, .pointer (some ⟨gN, 0, none⟩)), (6, .pointer (some ⟨b6, 0, none⟩)), (7, .pointer (some ⟨b7, 0, none⟩)), (8, .map (some b8)), (38, .slice (some ⟨gl, 0, none⟩) 1 cl), (39, .int .i64 1), (40, .int .i64 j)]
abbrev FrZ (gN b6 b7 b8 : Nat) : List (Nat × Value) := [(0, .pointer (some ⟨gN, 0, none⟩)), (6, .pointer (some ⟨b6, 0, none⟩)), (7, .pointer (some ⟨b7, 0, none⟩)), (8, .map (some b8))]
def newL (n : ByteArray) (h : Nat) (s : ByteArray) : List UInt8 := dashL ++ n.data.toList ++ [32] ++ encL (beL h ++ s.data.toList) ++ [10]
def YI (W5 : World) (gN b6 b7 b8 gl cl : Nat) (n : ByteArray) (h : Nat) (s : ByteArray) (a : Act) (w : World) : Prop :=
 ∃ j : Nat, FrN 153 (FrY gN b6 b7 b8 gl cl (j : Int)) a ∧ ((j = 0 ∧ w = W5) ∨ (j = 1 ∧ SLe W5 w b7 b8 (upd (fun _ => none) (keyV n h) (.bool true)) (newL n h s)))
def Ymu (a : Act) (_ : World) : Nat := 1 - (intOf (a.tmps.getD 40 undef)).toNat
set_option maxRecDepth 100000 in
set_option maxHeartbeats 4000000 in
theorem yloop (w0 W5 : World) (t : List UInt8) (gN b6 b7 b8 gl cl g6 c6 : Nat) (lr6 : Int) (cur6 : Array Value) (n : ByteArray) (h : Nat) (s : ByteArray)
  (hU : Utf8Tabs 3 4 w0) (hW : WhiteTab 6 w0) (hB5 : Below w0.heap.size w0 W5) (hb7 : w0.heap.size ≤ b7)
  (hS : SLs W5 W5 b7 b8 (fun _ => none)) (hBR : BR b6 g6 c6 t W5 lr6 cur6) (h6 : b6 < b7) (hg6 : g6 < b7) (h8 : b7 < b8) (ht : t ≠ [])
  (hl : W5.cell? ⟨gl, 0, none⟩ = some (.iface 88 (makC n h s))) (hn : nameD n.data.toList = true) (hn2 : n.size ≤ 1000) (hs1 : 1 ≤ s.size) (hs2 : s.size ≤ 1000) (hh : h < 4294967296)
  (a : Act) (hI : FrN 153 (FrY gN b6 b7 b8 gl cl 0) a) (Q : Exit → Act → World → Prop)
  (hE : ∀ a' w', FrN 153 (FrZ gN b6 b7 b8) a' → SLe W5 w' b7 b8 (upd (fun _ => none) (keyV n h) (.bool true)) (newL n h s) → Q .normal a' w') : (nBlk 0).wp Tryz.prog Q a W5 := by
 conv => arg 2; whnf
 have HE := Lib.hid hE
 have HU := Lib.hid hU
 have HW := Lib.hid hW
 have HB5 := Lib.hid hB5
 have HS := Lib.hid hS
 have HBR := Lib.hid hBR
 have HN := Lib.hid hn
 have HT := Lib.hid ht
 clear hE hU hW hB5 hS hBR hn ht
 refine wp_block ?_
 refine wp_loop (YI W5 gN b6 b7 b8 gl cl n h s) Ymu ⟨0, hI, .inl ⟨rfl, rfl⟩⟩ ?_
 clear hI
 rintro a wr ⟨j, hF, hJ⟩
 obtain ⟨g, rfl, hg⟩ := hF.lit range153
 clear hF
 simp only [List.forall_mem_cons] at hg
 obtain ⟨k0, k6, k7, k8, k38, k39, k40, -⟩ := hg
 unfold litE
 simp only [k0, k6, k7, k8, k38, k39, k40]
 clear k0 k6 k7 k8 k38 k39 k40
 rcases hJ with ⟨rfl, rfl⟩ | ⟨rfl, hS⟩
 ·have HKS := Lib.hid (keyOfK n (h : Int) (by simp only [maxLen]; omega) (wf32 h hh))
  have hmN := mak_mname n h s
  have hmH := mak_mhash n h s
  have hmS := mak_msign n h s
  have hmZ := mak_nil n h s
  go_upto_region 12 with (first
   | (go_at_call 106; refine (mak_name n h s _).mono ?_; rintro e w1 ⟨rfl, hb1⟩; have HS1 := Lib.hid (HS.out.step hb1); clear hb1)
   | (go_at_call 105; refine (mak_hash n h s _).mono ?_; rintro e w2 ⟨rfl, hb2⟩; have HS2 := Lib.hid (HS1.out.step hb2); clear hb2)
   | fail)
  go_wp2_with fail
  obtain ⟨w4, hrun4, hm4, hg4⟩ := HS2.out.map.store lawK Tryz.underlying106 (val := .bool true) HKS.out.choose_spec
  have HS4 := Lib.hid (HS2.out.put h8 hm4 hg4)
  unfold keyV at hrun4
  rw [hrun4]
  clear hrun4 hm4 hg4
  simp only [Result.andThen_ok, Oper.upon]
  have hB4 := HB5.out.trans (HS4.out.below.mono hb7)
  have hv := valid_any n w4 (Nat.le_trans hn2 (by decide)) (Utf8Tabs.below' HU.out hB4) (WhiteTab.below' HW.out hB4)
  rw [HN.out] at hv
  have HV := Lib.hid hv
  clear hv hB4
  go_upto_region 15 with (go_at_call 44; refine HV.out.mono ?_; rintro e w5 ⟨rfl, hb5⟩; have HS5 := Lib.hid (HS4.out.step hb5); clear hb5)
  clear HS1 HS2 HS4 HV
  have hb6 := HBR.out.keep HS5.out.below h6 hg6
  have HBY := Lib.hid (Tryz.Buffer_Bytes 0 b6 _ w5.drew (Lib.IsBuffer.drew (hb6.buf (Nat.zero_le _) (Nat.zero_le _))))
  clear hb6
  refine wp_cut (fun a' w' => ∃ gs cs, FrN 153 ((11, .string n) :: (12, .int .u32 (h : Int)) :: (13, .slice (some ⟨gs, 0, none⟩) s.size cs) :: (14, .nilIface) :: FrY gN b6 b7 b8 gl cl 0) a' ∧ s.size ≤ cs ∧ (∀ j, j < s.size → w'.cell? ⟨gs, j, none⟩ = some (.int .u8 ((s.data.toList.getD j 0).toNat : Int))) ∧ Below w5.heap.size w5 w') ?_ ?_
  rotate_left
  ·intro J K' hJ hK'
   go_region_held3 (fun W => Below w5.heap.size w5 W)
    (first | exact below_drew1 (Below.refl _ _) | exact hq1 | exact hq2 | fail)
    (first
     | (go_at_call 49; refine HBY.out.mono ?_; rintro e w6 ⟨v6, rfl, -, ⟨m6, rfl⟩⟩; have hq1 := pw_below_drewN (Below.refl w5.heap.size w5) (1 + m6))
     | (go_at_call 107; with_reducible refine (mak_sign n h s _ _).mono ?_; rintro e w7 ⟨gs, cs, rfl, hcs, hgs, hcell, hb7'⟩; have hq2 := hq1.trans (hb7'.mono hq1.size)))
   all_goals exact hK' _ _ (Met.intro (hJ _ _ ⟨gs, cs, ⟨rfl, rfl, by repeat (first | exact ks_nil _ | refine ks_cons rfl ?_)⟩, hcs, hcell, hq2⟩))
  clear hmN hmH hmS hmZ HBY
  rintro a7 w7 ⟨gs, cs, hF, hcs, hcell, hb7⟩
  have HS7 := Lib.hid (HS5.out.step hb7)
  have HC7 := Lib.hid hcell
  clear hb7 HS5 hcell
  obtain ⟨g, rfl, hg⟩ := hF.lit range153
  clear hF
  simp only [List.forall_mem_cons] at hg
  obtain ⟨k11, k12, k13, k14, k0, k6, k7, k8, k38, k39, k40, -⟩ := hg
  unfold litE
  simp only [k11, k12, k13, k14, k0, k6, k7, k8, k38, k39, k40]
  clear k11 k12 k13 k14 k0 k6 k7 k8 k38 k39 k40
  go_upto_region 19 with fail
  have ho8 := bePut w7 _ w7.heap.size _ _ _ _ 143 (OB.new (Below.refl _ _) #[.int .u8 0, .int .u8 0, .int .u8 0, .int .u8 0] _) h hh
  have HO8 := Lib.hid ho8
  clear ho8
  go_upto_region 20 with (go_at_call 50; refine HO8.out.mono ?_; rintro e w8 ⟨rfl, hO⟩; have HOB := Lib.hid hO; clear hO)
  clear HO8
  have HC8 := Lib.hid (fun j hj => cell_keep HOB.out.below (HC7.out j hj))
  have HS8 := Lib.hid (HS7.out.step HOB.out.below)
  generalize w7.heap.size = gh at *
  clear HC7 HS7
  obtain ⟨i0, hi, hz0, hz1, hz2⟩ := info_parts infoU8
  obtain ⟨raw, hraw⟩ : ∃ raw, raw = beL h ++ s.data.toList := ⟨_, rfl⟩
  have hrl : raw.length = 4 + s.size := by rw [hraw, List.length_append]; rfl
  have HRB := Lib.hid (show byteCells (beL h) ++ byteCells s.data.toList = Lib.byteCells raw by rw [hraw, Lib.byteCells_append])
  have HNL := Lib.hid (show newL n h s = dashL ++ n.data.toList ++ [32] ++ (S (encL raw)).data.toList ++ [10] by rw [hraw]; rfl)
  have hel := encL_len raw
  have hrl1 : 1 ≤ raw.length := by omega
  have hrl2 : raw.length ≤ 100000 := by omega
  clear hraw
  have hol : ∀ b, (some ⟨gh, 0, none⟩ : Option Addr) = some b → ∀ W, Below w8.heap.size w8 W → ∀ j u, (byteCells (beL h))[j]? = some u → W.cell? (b.add j) = some u := fun b hb W hW j u hj => by
   injection hb with hb; subst hb
   rw [add_plain, (HOB.out.later hW).cell j]; exact hj
  have hnl : ∀ W, Below w8.heap.size w8 W → ∀ j u, (byteCells s.data.toList)[j]? = some u → W.cell? ((⟨gs, 0, none⟩ : Addr).add j) = some u := fun W hW j u hj => by
   have hj' : j < s.size := by have := (List.getElem?_eq_some_iff.1 hj).1; rwa [byteCells_length] at this
   rw [add_plain, cell_keep hW (HC8.out j hj'), ← hj]
   unfold byteCells
   rw [List.getElem?_map, List.getElem?_eq_getElem hj', List.getD_eq_getElem?_getD, List.getElem?_eq_getElem hj']; rfl
  have HOL := Lib.hid hol
  have HNW := Lib.hid hnl
  clear hol hnl
  go_region_held3 (fun W => Below w8.heap.size w8 W)
   (first | exact below_drew1 (Below.refl _ _) | exact hq1 | exact hq2 | exact hq3 | fail)
   (first
    | (go_at_call 42; with_reducible refine (stdenc _).mono ?_; rintro e w9 ⟨ge, rfl, hO⟩; have hq1 := (below_drew1 (Below.refl w8.heap.size w8)).trans (hO.below.mono (below_drew1 (Below.refl w8.heap.size w8)).size); have hEn := EncR.of hO; have hEf := EncF.of hO)
    | (refine step_append_grows rfl _ _ 72 rfl 5 i0 (.int .u8 0) 1 1 Tryz.underlying72 hi hz0 hz1 hz2 rfl (by decide) (some ⟨gh, 0, none⟩) 4 4 (byteCells (beL h)) rfl (fun e => by cases e) (by rfl) (fun b hb => HOL.out b hb _ hq1) ⟨gs, 0, none⟩ s.size cs (byteCells s.data.toList) rfl (by rw [byteCells_length, Nat.mul_one]; rfl) (HNW.out _ hq1) (Lib.byteCells_one _) (by omega) (by simp only [maxLen]; omega) (by omega) ?_; intro v' w10 hown hgrow; rw [HRB.out, ← hrl] at hown; obtain ⟨ga, ca, rfl, hca, hcm, hsrc, -⟩ := src_own hown (by omega); have hq2 := hq1.grown hgrow hq1.size (fun k hk => by cases hk); have hq9 := (Below.refl w9.heap.size w9).grown hgrow (Nat.le_refl _) (fun k hk => by cases hk))
    | (go_at_call 51; have h5 := encStr _ ge ga ca raw (hEn.below hq9) (hEf.below hq9) hsrc hrl1 hrl2 hca hcm; rw [hrl] at h5; with_reducible refine h5.mono ?_; clear h5; rintro e w11 ⟨rfl, hb11⟩; have hq3 := hq2.trans (hb11.mono hq2.size)))
  have HE0 := Lib.hid ((HS8.out.step hq3).start)
  have S0 : n.data.toList.length = n.size := rfl
  have S1 : (S (encL raw)).data.toList.length = (encL raw).length := rfl
  have S2 : (S (encL raw)).size = (encL raw).length := S_sz _
  have HLN := Lib.hid (show ∀ (o : List UInt8) (k : Nat), o.length ≤ 1000000 → k ≤ 1000000 → o.length + k ≤ 140737488355328 from fun o k h1 h2 => by omega)
  clear HS8 HOB HC8 HOL HNW hq1 hq2 hq3 hq9 hEn hEf hsrc hca hcm hcs
  go_upto_region 22 with (go_at_call 48; refine (HE0.out.wr (Nat.ne_of_gt h8) ⟨#[226, 128, 148, 32]⟩ (HLN.out _ _ (by simp [S0, S1, dashL]; try omega) (by decide))).mono ?_; rintro e w12 ⟨rfl, hx⟩; have HE1 := Lib.hid hx; clear hx)
  go_upto_region 23 with (go_at_call 48; refine (HE1.out.wr (Nat.ne_of_gt h8) n (HLN.out _ _ (by simp [S0, S1, dashL]; try omega) (by omega))).mono ?_; rintro e w13 ⟨rfl, hx⟩; have HE2 := Lib.hid hx; clear hx)
  go_upto_region 24 with (go_at_call 48; refine (HE2.out.wr (Nat.ne_of_gt h8) ⟨#[32]⟩ (HLN.out _ _ (by simp [S0, S1, dashL]; try omega) (by decide))).mono ?_; rintro e w14 ⟨rfl, hx⟩; have HE3 := Lib.hid hx; clear hx)
  go_upto_region 25 with (go_at_call 48; refine (HE3.out.wr (Nat.ne_of_gt h8) (S (encL raw)) (HLN.out _ _ (by simp [S0, S1, dashL]; try omega) (by rw [S2]; omega))).mono ?_; rintro e w15 ⟨rfl, hx⟩; have HE4 := Lib.hid hx; clear hx)
  go_wp2_with (go_at_call 48; refine (HE4.out.wr (Nat.ne_of_gt h8) ⟨#[10]⟩ (HLN.out _ _ (by simp [S0, S1, dashL]; try omega) (by decide))).mono ?_; rintro e w16 ⟨rfl, hx⟩; have HE5 := Lib.hid hx; clear hx)
  have hfin := HE5.out
  rw [show ([] : List UInt8) ++ (⟨#[226, 128, 148, 32]⟩ : ByteArray).data.toList ++ n.data.toList ++ (⟨#[32]⟩ : ByteArray).data.toList ++ (S (encL raw)).data.toList ++ (⟨#[10]⟩ : ByteArray).data.toList = newL n h s from HNL.out.symm] at hfin
  exact ⟨⟨1, ⟨rfl, rfl, by repeat (first | exact ks_nil _ | refine ks_cons rfl ?_)⟩, .inr ⟨rfl, hfin⟩⟩, by show 1 - (1 : Int).toNat < 1 - (0 : Int).toNat; decide⟩
 ·have HS := Lib.hid hS
  clear hS
  go_wp2_with fail
  exact HE.out _ _ ⟨rfl, rfl, by repeat (first | exact ks_nil _ | refine ks_cons rfl ?_)⟩ HS.out
end Go.Proofs.YtkbegfihdpiacaaGreatDoor.PX
