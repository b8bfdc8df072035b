/- Part 8 of the proof: what the theorem reaches of the texts KR12. -/
import Derived.BigQuiet
import Derived.Deep.QuietTactic
import Derived.StillTailTactics
import Derived.Deep.RegionWith
import Derived.Deep.CutBlock
import Derived.Deep.DeepCutAuto
import Derived.Test.YtkbegfihdpiacaaGreatDoorKT1
import Derived.Test.YtkbegfihdpiacaaGreatDoorKT4
import Derived.Test.YtkbegfihdpiacaaGreatDoorKT5
import Derived.Test.YtkbegfihdpiacaaGreatDoorKT6
import Derived.Test.YtkbegfihdpiacaaGreatDoorKT7
set_option linter.unusedVariables false
set_option linter.unusedSimpArgs false
namespace Go.Proofs.YtkbegfihdpiacaaGreatDoor.PX
open Go.RowKit Nt Go.Lib Go.Proofs.YtkbegfihdpiacaaGreatDoorW.PrintWords Go.Proofs.YtkbegfihdpiacaaGreatDoorW.PrintLast
def alph : List UInt8 := [65, 66, 67, 68, 69, 70, 71, 72, 73, 74, 75, 76, 77, 78, 79, 80, 81, 82, 83, 84, 85, 86, 87, 88, 89, 90, 97, 98, 99, 100, 101, 102, 103, 104, 105, 106, 107, 108, 109, 110, 111, 112, 113, 114, 115, 116, 117, 118, 119, 120, 121, 122, 48, 49, 50, 51, 52, 53, 54, 55, 56, 57, 43, 47]
def decL : Nat → List Nat
 | 0 => List.replicate 256 255
 | i + 1 => (decL i).set (alph.getD i 0).toNat i
theorem decL_length : ∀ i, (decL i).length = 256
 | 0 => by rw [decL, List.length_replicate]
 | i + 1 => by rw [decL, List.length_set]; exact decL_length i
def nums8 (l : List Nat) : List Value := l.map (fun (n : Nat) => Value.int .u8 (n : Int))
def encCells (i : Nat) : List Value := byteCells alph ++ nums8 (decL i) ++ [.int .i32 61, .bool false]
theorem byteCells_alph : (byteCells alph).length = 64 := rfl
theorem encCells_set (i : Nat) (c : Nat) (hc : c < 256) : (encCells i).set (64 + c) (.int .u8 (i : Int)) = byteCells alph ++ nums8 ((decL i).set c i) ++ [.int .i32 61, .bool false] := by
 unfold encCells nums8
 rw [List.append_assoc, List.set_append_right _ _ (by rw [byteCells_alph]; omega), List.set_append_left _ _ (by rw [List.length_map, decL_length, byteCells_alph]; omega), byteCells_alph, List.map_set, List.append_assoc]
 congr 3
 omega
theorem encCells_get (i c : Nat) (hc : c < 256) : (encCells i)[64 + c]? = some (.int .u8 (((decL i).getD c 0 : Nat) : Int)) := by
 unfold encCells nums8
 rw [List.append_assoc, List.getElem?_append_right (by rw [byteCells_alph]; omega), List.getElem?_append_left (by rw [List.length_map, decL_length, byteCells_alph]; omega), byteCells_alph]
 rw [show 64 + c - 64 = c by omega, List.getElem?_map, List.getElem?_eq_getElem (by rw [decL_length]; exact hc)]
 simp [List.getD_eq_getElem?_getD, List.getElem?_eq_getElem (show c < (decL i).length by rw [decL_length]; exact hc)]
theorem fresh_all : (List.range 64).all (fun k => (decL k).getD (alph.getD k 0).toNat 0 == 255 && alph.getD k 0 != 10 && alph.getD k 0 != 13) = true := by decide +kernel
theorem fresh (k : Nat) (hk : k < 64) : (decL k).getD (alph.getD k 0).toNat 0 = 255 ∧ alph.getD k 0 ≠ 10 ∧ alph.getD k 0 ≠ 13 := by
 have := List.all_eq_true.1 fresh_all k (List.mem_range.2 hk)
 simp only [Bool.and_eq_true, beq_iff_eq, bne_iff_ne] at this
 exact ⟨this.1.1, this.1.2, this.2⟩
theorem zero_tail : List.drop 256 (List.drop 64 (Tryz.zeroCells167.toList.set 320 (Value.int IntKind.i32 61))) = [.int .i32 61, .bool false] := by kernel_rfl
theorem zero_len : (List.drop 64 (Tryz.zeroCells167.toList.set 320 (Value.int IntKind.i32 61))).length = 258 := by decide +kernel
theorem copy2 {w W2 : World} {g : Nat} (h : OB w W2 g (byteCells alph ++ List.drop 64 (Tryz.zeroCells167.toList.set 320 (Value.int IntKind.i32 61))) 167) (s2 : ByteArray) (hz : s2.size = 256) (hb : byteCells s2.data.toList = nums8 (decL 0)) :
  (Builtin.copy_ #[72, 9] 3 #[.slice (some ⟨g, 64, none⟩) 256 256, .string s2]).run Tryz.prog W2 = .ok (goInt 256) (W2.setRow g (encCells 0).toArray) := by
 rw [Lib.run_copy_row_string (P := Tryz.prog) W2 72 9 3 5 g 64 256 256 s2 _ 167 Tryz.underlying72 (by kernel_rfl) h.blk (by omega) (by rw [List.size_toArray, List.length_append, byteCells_alph, zero_len, hz]; decide)]
 rw [hz, hb]
 simp only [List.toList_toArray]
 rw [List.take_left' byteCells_alph, ← List.drop_drop, List.drop_left' byteCells_alph, zero_tail]
 rfl
set_option maxRecDepth 100000 in
set_option maxHeartbeats 1000000 in
theorem newenc (w : World) :
  Calls Tryz.prog 60 #[.string ⟨alph.toArray⟩] w fun e w' => ∃ g, e = .returned (.pointer (some ⟨g, 0, none⟩)) ∧ OB w w' g (encCells 64) 167 := by
 generalize hs : (⟨alph.toArray⟩ : ByteArray) = s
 have hz : s.size = 64 := by rw [← hs]; rfl
 have hd : s.data.toList = alph := by rw [← hs]
 have HS := Lib.hid hd
 clear hs hd
 go_enter Tryz.func60, Tryz.ntmps60
 go_upto_region 5 with fail
 have O1 := OB.new (Below.refl w.heap.size w) (Tryz.zeroCells167.setIfInBounds 320 (Value.int IntKind.i32 61)) 167
 have HO := Lib.hid O1
 clear O1
 generalize (w.alloc (Obj.cells (Tryz.zeroCells167.setIfInBounds 320 (Value.int IntKind.i32 61)) 167)) = W1 at *
 generalize w.heap.size = g at *
 have hcp := Lib.run_copy_row_string (P := Tryz.prog) W1 72 9 3 5 g 0 64 64 s _ 167 Tryz.underlying72 (by kernel_rfl) HO.out.blk (by omega) (by rw [hz]; decide)
 go_upto_region 6 with fail
 have O2 := HO.out.setRow (byteCells s.data.toList ++ List.drop 64 (Tryz.zeroCells167.toList.set 320 (Value.int IntKind.i32 61))).toArray
 rw [HS.out] at O2 ⊢
 clear hcp
 have HO2 := Lib.hid O2
 clear O2
 generalize W1.setRow g (byteCells alph ++ List.drop 64 (Tryz.zeroCells167.toList.set 320 (Value.int IntKind.i32 61))).toArray = W2 at *
 clear HO
 go_upto_region 7 with fail
 rw [copy2 HO2.out _ (by decide +kernel) (by kernel_rfl)]
 have HO3 := Lib.hid (HO2.out.setRow (encCells 0).toArray)
 generalize W2.setRow g (encCells 0).toArray = W3 at *
 clear HO2
 go_wp2
 go_loopw [4] (fun i wr => ∃ k : Nat, k ≤ 64 ∧ i = .int .i64 k ∧ OB w wr g (encCells k) 167) (fun i _ => 64 - (intOf i).toNat)
 case atStart => exact ⟨0, by omega, rfl, HO3.out⟩
 case round =>
  obtain ⟨k, hk, rfl, hO⟩ := hrel
  have HO := Lib.hid hO
  clear hO
  by_cases hlt : k < 64
  ·have h1 : decide ((k : Int) < 64) = true := decide_eq_true (by omega)
   obtain ⟨f1, f2, f3⟩ := fresh k hlt
   have hb : s[k]'(by omega) = alph.getD k 0 := by
    have e : s.data.toList[k]? = alph[k]? := by rw [HS.out]
    have e2 : s.data.toList[k]? = some (s[k]'(by omega)) := by
     rw [List.getElem?_eq_getElem (by rw [data_length]; omega)]; rfl
    rw [List.getD_eq_getElem?_getD, ← e, e2]; rfl
   have hcell := HO.out.cell (64 + (alph.getD k 0).toNat)
   rw [encCells_get k _ (alph.getD k 0).toNat_lt, f1] at hcell
   have hfro := HO.out.frozen (64 + (alph.getD k 0).toNat)
   have hset := encCells_set k _ (alph.getD k 0).toNat_lt
   have hd1 : decL (k + 1) = (decL k).set (alph.getD k 0).toNat k := rfl
   generalize alph.getD k 0 = b at *
   have hbl := b.toNat_lt
   have g1 : ((b.toNat : Int) == 10) = false := beq_eq_false_iff_ne.2 (fun e => f2 (UInt8.toNat_inj.1 (by have : (10 : UInt8).toNat = 10 := rfl; omega)))
   have g2 : ((b.toNat : Int) == 13) = false := beq_eq_false_iff_ne.2 (fun e => f3 (UInt8.toNat_inj.1 (by have : (13 : UInt8).toNat = 13 := rfl; omega)))
   have hks : (k : Int) < (s.size : Int) := by omega
   have hks2 : k < s.size := by omega
   clear f1 f2 f3
   go_wp2
   go_quiet (fail)
   go_wp2
   go_region
   have O3 := (HO.out.drewN (nq + 1)).setCell (64 + b.toNat) (.int .u8 (k : Int))
   rw [hset, ← hd1] at O3
   have HO4 := Lib.hid (show OB w _ g (encCells (k + 1)) 167 from O3)
   clear O3
   go_wp2
   go_roundw
   case rel => exact ⟨k + 1, by omega, by go_num, HO4.out⟩
   case measure => simp [intOf]; omega
  ·obtain rfl : k = 64 := by omega
   go_wp2
   go_ret
   exact ⟨g, rfl, HO.out⟩
set_option maxRecDepth 100000 in
theorem stdenc (w : World) :
  Calls Tryz.prog 42 #[] w fun e w' => ∃ g, e = .returned (.pointer (some ⟨g, 0, none⟩)) ∧ OB w w' g (encCells 64) 167 := by
 go_enter Tryz.func42, Tryz.ntmps42
 go_wp2_with (go_at_call 60; refine (newenc _).mono ?_; rintro e w1 ⟨g, rfl, hO⟩)
 go_ret
 exact ⟨g, rfl, hO⟩
theorem decL_fg_all : (List.range 256).all (fun c => (decL 64).getD c 0 == fg (UInt8.ofNat c)) = true := by decide +kernel
theorem decL_fg (b : UInt8) : (decL 64).getD b.toNat 0 = fg b := by
 have := List.all_eq_true.1 decL_fg_all b.toNat (List.mem_range.2 b.toNat_lt)
 simpa using this
theorem enc_fig {w0 w : World} {g : Nat} (h : OB w0 w g (encCells 64) 167) (b : UInt8) : w.cell? ⟨g, 64 + b.toNat, none⟩ = some (.int .u8 (fg b : Int)) := by
 rw [h.cell, encCells_get 64 _ b.toNat_lt, decL_fg]
theorem enc_pad {w0 w : World} {g : Nat} (h : OB w0 w g (encCells 64) 167) : w.cell? ⟨g, 320, none⟩ = some (.int .i32 61) := by
 rw [h.cell]; unfold encCells nums8
 rw [List.getElem?_append_right (by rw [List.length_append, byteCells_alph, List.length_map, decL_length]; decide)]
 rw [List.length_append, byteCells_alph, List.length_map, decL_length]; rfl
theorem enc_strict {w0 w : World} {g : Nat} (h : OB w0 w g (encCells 64) 167) : w.cell? ⟨g, 321, none⟩ = some (.bool false) := by
 rw [h.cell]; unfold encCells nums8
 rw [List.getElem?_append_right (by rw [List.length_append, byteCells_alph, List.length_map, decL_length]; decide)]
 rw [List.length_append, byteCells_alph, List.length_map, decL_length]; rfl
structure EncR (w : World) (g : Nat) : Prop where
 fig : ∀ b : UInt8, w.cell? ⟨g, 64 + b.toNat, none⟩ = some (.int .u8 (fg b : Int))
 pad : w.cell? ⟨g, 320, none⟩ = some (.int .i32 61)
 strict : w.cell? ⟨g, 321, none⟩ = some (.bool false)
theorem EncR.of {w0 w : World} {g : Nat} (h : OB w0 w g (encCells 64) 167) : EncR w g := ⟨enc_fig h, enc_pad h, enc_strict h⟩
theorem EncR.lt {w : World} {g : Nat} (h : EncR w g) : g < w.heap.size := World.block_lt_of_cell? w _ h.pad
theorem EncR.keep {w W : World} {g : Nat} (h : EncR w g) (hb : W.heap[g]? = w.heap[g]?) : EncR W g := by
 have e : ∀ j, W.cell? ⟨g, j, none⟩ = w.cell? ⟨g, j, none⟩ := fun j => World.cell?_of_block (w := w) (a := ⟨g, j, none⟩) hb
 exact ⟨fun b => (e _).trans (h.fig b), (e _).trans h.pad, (e _).trans h.strict⟩
theorem EncR.below {w W : World} {g : Nat} (h : EncR w g) (hb : Below w.heap.size w W) : EncR W g := h.keep (hb.block g h.lt)
def SrcR (w : World) (g : Nat) (l : List UInt8) : Prop := ∀ i b, l[i]? = some b → w.cell? ⟨g, i, none⟩ = some (.int .u8 (b.toNat : Int))
theorem SrcR.below {w W : World} {g : Nat} {l : List UInt8} (h : SrcR w g l) (hb : Below w.heap.size w W) : SrcR W g l := fun i b hi => cell_keep hb (h i b hi)
theorem SrcR.keep {w W : World} {g : Nat} {l : List UInt8} (h : SrcR w g l) (hb : W.heap[g]? = w.heap[g]?) : SrcR W g l := fun i b hi =>
 (World.cell?_of_block (w := w) (a := ⟨g, i, none⟩) hb).trans (h i b hi)
theorem enc_whole {w : World} {g : Nat} (h : EncR w g) : ∃ X, (loadVar 159 ⟨g, 64, none⟩).run Tryz.prog w = .ok (.agg X) w := by
 refine ⟨((List.range 256).map (fun c => Value.int .u8 (fg (UInt8.ofNat c) : Int))).toArray, ?_⟩
 have hl := run_loadCells_list (P := Tryz.prog) w ⟨g, 64, none⟩ ((List.range 256).map (fun c => Value.int .u8 (fg (UInt8.ofNat c) : Int))) (fun j v hv => by
  have hadd : (⟨g, 64, none⟩ : Addr).add j = ⟨g, 64 + j, none⟩ := by unfold Addr.add; split <;> simp_all
  rw [hadd]
  rw [List.getElem?_map] at hv
  by_cases hj : j < 256
  ·rw [List.getElem?_range hj] at hv
   simp only [Option.map_some, Option.some.injEq] at hv
   have := h.fig (UInt8.ofNat j)
   rw [show (UInt8.ofNat j).toNat = j by simp; omega] at this
   rw [this, hv]
  ·rw [List.getElem?_eq_none (by simpa using hj)] at hv
   simp at hv)
 rw [List.length_map, List.length_range] at hl
 have hu : Tryz.prog.underlying 159 = _ := Tryz.underlying159
 have hq : (Tryz.prog.info? 159).map (·.size) = some 256 := by kernel_rfl
 cases hi : Tryz.prog.info? 159 with
 | none => rw [hi] at hq; simp at hq
 | some i =>
  have hs : i.size = 256 := by rw [hi] at hq; simpa using hq
  have hagg : (isAgg 159).run Tryz.prog w = .ok true w := by
   unfold isAgg
   rw [Sem.run_bind, run_underlying hu w]
   rfl
  simp [loadVar, Sem.run_bind, hagg, sizeOf, typeInfo, hi, hs, hl]
theorem wp_load_of {P : Program} {o : Oper} {a : Act} {w : World} {K : Act → World → Prop} {Q : Exit → Act → World → Prop} (ty : TypeId) (x : Operand) (ho : o.op = .load ty x) (p : Addr)
  (hx : a.eval x = .pointer (some p)) (v : Value) (hl : (loadVar ty p).run P w = .ok v w) (h : K (a.put o.dst v) w) : o.wp P a w K Q := by
 unfold Oper.wp execOp
 simp only [ho, hx, Instr.loadAt, Instr.sureAddr, Sem.run_bind, Sem.run_pure, Result.andThen_ok, hl]
 exact h
def QBad (r : List UInt8) (n' : Nat) (err : Value) (cs cs' : List Value) : Prop :=
 (∃ x : Int, err = .iface 183 (.int .i64 x)) ∧ n' ≤ 2 ∧ (n' ≠ 0 → 4 ≤ r.length) ∧ cs'.length = cs.length
def QSpec (r : List UInt8) (si n : Nat) (cs : List Value) (si' n' : Nat) (err : Value) (cs' : List Value) : Prop :=
 match r with
 | a :: b :: c :: d :: t =>
  if fg a = 255 ∨ fg b = 255 then QBad r n' err cs cs'
  else if fg c = 255 then
   if c.toNat = 61 ∧ d.toNat = 61 ∧ t = [] then si' = si + 4 ∧ n' = 1 ∧ err = .nilIface ∧ cs' = cs.set n (.int .u8 ((by0 (q4 (fg a) (fg b) 0 0)).toNat : Int)) else QBad r n' err cs cs'
  else if fg d = 255 then
   if d.toNat = 61 ∧ t = [] then si' = si + 4 ∧ n' = 2 ∧ err = .nilIface ∧ cs' = (cs.set (n + 1) (.int .u8 ((by1 (q4 (fg a) (fg b) (fg c) 0)).toNat : Int))).set n (.int .u8 ((by0 (q4 (fg a) (fg b) (fg c) 0)).toNat : Int)) else QBad r n' err cs cs'
  else si' = si + 4 ∧ n' = 3 ∧ err = .nilIface ∧ cs' = ((cs.set (n + 2) (.int .u8 ((by2 (q4 (fg a) (fg b) (fg c) (fg d))).toNat : Int))).set (n + 1) (.int .u8 ((by1 (q4 (fg a) (fg b) (fg c) (fg d))).toNat : Int))).set n (.int .u8 ((by0 (q4 (fg a) (fg b) (fg c) (fg d))).toNat : Int))
 | _ => QBad r n' err cs cs'
structure But (w w' : World) (gd : Nat) : Prop where
 size : w.heap.size ≤ w'.heap.size
 block : ∀ k, k < w.heap.size → k ≠ gd → w'.heap[k]? = w.heap[k]?
def dl (r : List UInt8) (j : Nat) : List Nat := (r.take j).map fg ++ List.replicate (4 - j) 0
def Brk (r : List UInt8) (si p dn x y z t : Nat) (err : Value) : Prop :=
 match r with
 | a :: b :: c :: d :: tl => fg a ≠ 255 ∧ fg b ≠ 255 ∧ x = fg a ∧ y = fg b ∧
  ((dn = 4 ∧ p = si + 4 ∧ fg c ≠ 255 ∧ fg d ≠ 255 ∧ z = fg c ∧ t = fg d ∧ err = .nilIface) ∨
   (dn = 2 ∧ fg c = 255 ∧ c.toNat = 61 ∧ d.toNat = 61 ∧ z = 0 ∧ t = 0 ∧ ((tl = [] ∧ p = si + 4 ∧ err = .nilIface) ∨ (tl ≠ [] ∧ ∃ e : Int, err = .iface 183 (.int .i64 e)))) ∨
   (dn = 3 ∧ fg c ≠ 255 ∧ fg d = 255 ∧ d.toNat = 61 ∧ z = fg c ∧ t = 0 ∧ ((tl = [] ∧ p = si + 4 ∧ err = .nilIface) ∨ (tl ≠ [] ∧ ∃ e : Int, err = .iface 183 (.int .i64 e)))))
 | _ => False
theorem dl_length (r : List UInt8) (j : Nat) (hj : j ≤ 4) (hr : j ≤ r.length) : (dl r j).length = 4 := by
 unfold dl; rw [List.length_append, List.length_map, List.length_take, List.length_replicate]; omega
theorem dl_set (r : List UInt8) (j : Nat) (hj : j < 4) (x : UInt8) (hx : r[j]? = some x) : (dl r j).set j (fg x) = dl r (j + 1) := by
 have hl : j < r.length := (List.getElem?_eq_some_iff.1 hx).1
 unfold dl
 rw [List.set_append_right _ _ (by rw [List.length_map, List.length_take]; omega), List.length_map, List.length_take, Nat.min_eq_left (by omega), Nat.sub_self]
 obtain ⟨m, hm⟩ : ∃ m, 4 - j = m + 1 := ⟨3 - j, by omega⟩
 rw [hm, List.replicate_succ, List.set_cons_zero, show 4 - (j + 1) = m by omega, List.take_add_one, hx]
 simp
theorem nums8_set (l : List Nat) (j n : Nat) : (nums8 l).set j (.int .u8 (n : Int)) = nums8 (l.set j n) := by
 unfold nums8; rw [List.map_set]
theorem QSpec_cons (a b c d : UInt8) (t : List UInt8) (si n : Nat) (cs : List Value) (si' n' : Nat) (err : Value) (cs' : List Value) : QSpec (a :: b :: c :: d :: t) si n cs si' n' err cs' =
  if fg a = 255 ∨ fg b = 255 then QBad (a :: b :: c :: d :: t) n' err cs cs'
  else if fg c = 255 then
   if c.toNat = 61 ∧ d.toNat = 61 ∧ t = [] then si' = si + 4 ∧ n' = 1 ∧ err = .nilIface ∧ cs' = cs.set n (.int .u8 ((by0 (q4 (fg a) (fg b) 0 0)).toNat : Int)) else QBad (a :: b :: c :: d :: t) n' err cs cs'
  else if fg d = 255 then
   if d.toNat = 61 ∧ t = [] then si' = si + 4 ∧ n' = 2 ∧ err = .nilIface ∧ cs' = (cs.set (n + 1) (.int .u8 ((by1 (q4 (fg a) (fg b) (fg c) 0)).toNat : Int))).set n (.int .u8 ((by0 (q4 (fg a) (fg b) (fg c) 0)).toNat : Int)) else QBad (a :: b :: c :: d :: t) n' err cs cs'
  else si' = si + 4 ∧ n' = 3 ∧ err = .nilIface ∧ cs' = ((cs.set (n + 2) (.int .u8 ((by2 (q4 (fg a) (fg b) (fg c) (fg d))).toNat : Int))).set (n + 1) (.int .u8 ((by1 (q4 (fg a) (fg b) (fg c) (fg d))).toNat : Int))).set n (.int .u8 ((by0 (q4 (fg a) (fg b) (fg c) (fg d))).toNat : Int)) := rfl
theorem QSpec_short {r : List UInt8} {si n si' n' : Nat} {cs cs' : List Value} {err : Value} (hr : r.length < 4) (h : QBad r n' err cs cs') : QSpec r si n cs si' n' err cs' := by
 match r, hr with
 | [], _ => exact h
 | [_], _ => exact h
 | [_, _], _ => exact h
 | [_, _, _], _ => exact h
 | _ :: _ :: _ :: _ :: _, hr => simp at hr; omega
theorem QSpec_bad {r : List UInt8} {si n si' n' j : Nat} {cs cs' : List Value} {err : Value} {x : UInt8} (hx : r[j]? = some x) (hj : j < 4) (hf : fg x = 255) (hp : x.toNat = 61 → j < 2)
  (h : QBad r n' err cs cs') : QSpec r si n cs si' n' err cs' := by
 match r, hx with
 | [], hx => exact h
 | [_], _ => exact h
 | [_, _], _ => exact h
 | [_, _, _], _ => exact h
 | a :: b :: c :: d :: tl, hx =>
  rw [QSpec_cons]
  by_cases h1 : fg a = 255 ∨ fg b = 255
  ·rw [if_pos h1]; exact h
  rw [if_neg h1]
  obtain rfl | rfl | rfl | rfl : j = 0 ∨ j = 1 ∨ j = 2 ∨ j = 3 := by omega
  ·simp at hx; subst hx; exact absurd (.inl hf) h1
  ·simp at hx; subst hx; exact absurd (.inr hf) h1
  ·simp at hx; subst hx
   rw [if_pos hf, if_neg (fun e => by have := hp e.1; omega)]; exact h
  ·simp at hx; subst hx
   by_cases h2 : fg c = 255
   ·rw [if_pos h2, if_neg (fun e => by have := hp e.2.1; omega)]; exact h
   ·rw [if_neg h2, if_pos hf, if_neg (fun e => by have := hp e.1; omega)]; exact h
theorem QSpec_pad2 {r : List UInt8} {si n si' n' : Nat} {cs cs' : List Value} {err : Value} {x : UInt8} (hx : r[2]? = some x) (hf : fg x = 255) (hp : ∀ y, r[3]? = some y → y.toNat = 61 → r.length ≠ 4)
  (h : QBad r n' err cs cs') : QSpec r si n cs si' n' err cs' := by
 match r, hx with
 | [], hx => exact h
 | [_], _ => exact h
 | [_, _], _ => exact h
 | [_, _, _], _ => exact h
 | a :: b :: c :: d :: tl, hx =>
  rw [QSpec_cons]
  by_cases h1 : fg a = 255 ∨ fg b = 255
  ·rw [if_pos h1]; exact h
  rw [if_neg h1]
  simp at hx; subst hx
  rw [if_pos hf, if_neg (fun e => hp d (by simp) e.2.1 (by rw [e.2.2]; rfl))]; exact h
theorem brk4 {r : List UInt8} (si : Nat) (h : ∀ b, b ∈ r.take 4 → fg b ≠ 255) (hl : 4 ≤ r.length) : ∃ x y z t, dl r 4 = [x, y, z, t] ∧ Brk r si (si + 4) 4 x y z t .nilIface := by
 match r, hl with
 | a :: b :: c :: d :: tl, _ =>
  exact ⟨fg a, fg b, fg c, fg d, rfl, h a (by simp), h b (by simp), rfl, rfl, .inl ⟨rfl, rfl, h c (by simp), h d (by simp), rfl, rfl, rfl⟩⟩
 | [], hl => simp at hl
 | [_], hl => simp at hl
 | [_, _], hl => simp at hl
 | [_, _, _], hl => simp at hl
theorem brk2 {r : List UInt8} {x y : UInt8} (si p : Nat) (err : Value) (hx : r[2]? = some x) (hf : fg x = 255) (h61 : x.toNat = 61) (hy : r[3]? = some y) (hy61 : y.toNat = 61) (h : ∀ b, b ∈ r.take 2 → fg b ≠ 255)
  (he : (r.length = 4 ∧ p = si + 4 ∧ err = .nilIface) ∨ (r.length ≠ 4 ∧ ∃ e : Int, err = .iface 183 (.int .i64 e))) : ∃ u v, dl r 2 = [u, v, 0, 0] ∧ Brk r si p 2 u v 0 0 err := by
 match r, hy with
 | a :: b :: c :: d :: tl, hy =>
  simp at hx hy
  subst hx hy
  refine ⟨fg a, fg b, rfl, h a (by simp), h b (by simp), rfl, rfl, .inr (.inl ⟨rfl, hf, h61, hy61, rfl, rfl, ?_⟩)⟩
  rcases he with ⟨e1, e2, e3⟩ | ⟨e1, e2⟩
  ·exact .inl ⟨by simpa using e1, e2, e3⟩
  ·exact .inr ⟨fun e => e1 (by rw [e]; rfl), e2⟩
 | [], hy => simp at hy
 | [_], hy => simp at hy
 | [_, _], hy => simp at hy
 | [_, _, _], hy => simp at hy
theorem brk3 {r : List UInt8} {y : UInt8} (si p : Nat) (err : Value) (hy : r[3]? = some y) (hf : fg y = 255) (hy61 : y.toNat = 61) (h : ∀ b, b ∈ r.take 3 → fg b ≠ 255)
  (he : (r.length = 4 ∧ p = si + 4 ∧ err = .nilIface) ∨ (r.length ≠ 4 ∧ ∃ e : Int, err = .iface 183 (.int .i64 e))) : ∃ u v z, dl r 3 = [u, v, z, 0] ∧ Brk r si p 3 u v z 0 err := by
 match r, hy with
 | a :: b :: c :: d :: tl, hy =>
  simp at hy
  subst hy
  refine ⟨fg a, fg b, fg c, rfl, h a (by simp), h b (by simp), rfl, rfl, .inr (.inr ⟨rfl, h c (by simp), hf, hy61, rfl, rfl, ?_⟩)⟩
  rcases he with ⟨e1, e2, e3⟩ | ⟨e1, e2⟩
  ·exact .inl ⟨by simpa using e1, e2, e3⟩
  ·exact .inr ⟨fun e => e1 (by rw [e]; rfl), e2⟩
 | [], hy => simp at hy
 | [_], hy => simp at hy
 | [_, _], hy => simp at hy
 | [_, _, _], hy => simp at hy
theorem Brk_lt {r : List UInt8} {si p dn x y z t : Nat} {err : Value} (h : Brk r si p dn x y z t err) : x < 64 ∧ y < 64 ∧ z < 64 ∧ t < 64 := by
 match r, h with
 | a :: b :: c :: d :: tl, h =>
  obtain ⟨h1, h2, rfl, rfl, h3⟩ := h
  have ha := fg_lt a
  have hb := fg_lt b
  have hc := fg_lt c
  have hd := fg_lt d
  rcases h3 with ⟨_, _, h4, h5, rfl, rfl, _⟩ | ⟨_, _, _, _, rfl, rfl, _⟩ | ⟨_, h4, _, _, rfl, rfl, _⟩ <;> omega
 | [], h => exact h.elim
 | [_], h => exact h.elim
 | [_, _], h => exact h.elim
 | [_, _, _], h => exact h.elim
theorem or_q (x y z t : Nat) (hx : x < 64) (hy : y < 64) (hz : z < 64) (ht : t < 64) :
  bits .or .u64 (bits .or .u64 (bits .or .u64 ((x : Int) * 262144) ((y : Int) * 4096)) ((z : Int) * 64)) (t : Int) = ((q4 x y z t : Nat) : Int) := by
 have w : ∀ n : Int, 0 ≤ n → n < 2 ^ 62 → IntKind.u64.wrap n = n := fun n h₀ h₁ => IntWalk.u64_in n ⟨h₀, by omega⟩
 rw [bits_join .u64 62 (by decide) w 18 ((x : Int) * 262144) ((y : Int) * 4096) (by omega) (by omega) (by omega) (by omega) (by omega) (by omega)]
 rw [bits_join .u64 62 (by decide) w 12 ((x : Int) * 262144 + (y : Int) * 4096) ((z : Int) * 64) (by omega) (by omega) (by omega) (by omega) (by omega) (by omega)]
 rw [bits_join .u64 62 (by decide) w 6 ((x : Int) * 262144 + (y : Int) * 4096 + (z : Int) * 64) (t : Int) (by omega) (by omega) (by omega) (by omega) (by omega) (by omega)]
 unfold q4
 omega
theorem Brk_len {r : List UInt8} {si p dn x y z t : Nat} {err : Value} (h : Brk r si p dn x y z t err) : 4 ≤ r.length := by
 match r, h with
 | a :: b :: c :: d :: tl, h => simp
 | [], h => exact h.elim
 | [_], h => exact h.elim
 | [_, _], h => exact h.elim
 | [_, _, _], h => exact h.elim
theorem Brk_cases {r : List UInt8} {si p dn x y z t : Nat} {err : Value} (h : Brk r si p dn x y z t err) : dn = 4 ∨ dn = 2 ∨ dn = 3 := by
 match r, h with
 | a :: b :: c :: d :: tl, h =>
  obtain ⟨_, _, _, _, h3⟩ := h
  rcases h3 with h3 | h3 | h3
  ·exact .inl h3.1
  ·exact .inr (.inl h3.1)
  ·exact .inr (.inr h3.1)
 | [], h => exact h.elim
 | [_], h => exact h.elim
 | [_, _], h => exact h.elim
 | [_, _, _], h => exact h.elim
structure Two (w0 w W : World) (gd gb : Nat) (cs ds : List Value) : Prop where
 d : OB w0 W gd cs 5
 b : OB w0 W gb ds 143
 ne : gb ≠ gd
 ge : w.heap.size ≤ gb
 but : But w W gd
theorem Two.setD {w0 w W : World} {gd gb : Nat} {cs ds : List Value} (h : Two w0 w W gd gb cs ds) (j : Nat) (v : Value) : Two w0 w (W.setCell ⟨gd, j, none⟩ v) gd gb (cs.set j v) ds :=
 ⟨h.d.setCell j v, h.b.setOther (p := ⟨gd, j, none⟩) h.d.ge (fun e => h.ne e.symm) v, h.ne, h.ge,
  ⟨by rw [World.size_setCell]; exact h.but.size, fun k hk hkd => (Below.heap_setCell W ⟨gd, j, none⟩ v k hkd).trans (h.but.block k hk hkd)⟩⟩
theorem Two.setB {w0 w W : World} {gd gb : Nat} {cs ds : List Value} (h : Two w0 w W gd gb cs ds) (j : Nat) (v : Value) : Two w0 w (W.setCell ⟨gb, j, none⟩ v) gd gb cs (ds.set j v) :=
 ⟨h.d.setOther (p := ⟨gb, j, none⟩) h.b.ge h.ne v, h.b.setCell j v, h.ne, h.ge,
  ⟨by rw [World.size_setCell]; exact h.but.size, fun k hk hkd => (Below.heap_setCell W ⟨gb, j, none⟩ v k (fun e => by have e' : k = gb := e; have := h.ge; omega)).trans (h.but.block k hk hkd)⟩⟩
theorem Two.drewN {w0 w W : World} {gd gb : Nat} {cs ds : List Value} (h : Two w0 w W gd gb cs ds) (n : Nat) : Two w0 w (W.drewN n) gd gb cs ds :=
 ⟨h.d.drewN n, h.b.drewN n, h.ne, h.ge, ⟨h.but.size, h.but.block⟩⟩
theorem Two.first {w0 w W : World} {gd gb : Nat} {cs ds : List Value} (ho : OB w0 w gd cs 5) (hb : OB w W gb ds 143) : Two w0 w W gd gb cs ds :=
 ⟨ho.later hb.below, hb.base ho.below, fun e => by have := hb.ge; have := ho.lt; omega, hb.ge, ⟨hb.below.size, fun k hk _ => hb.below.block k hk⟩⟩
theorem cell_set {w0 w : World} {g : Nat} {cs : List Value} {t : TypeId} (h : OB w0 w g cs t) (j : Nat) (hj : j < cs.length) : ∃ v, w.cell? ⟨g, j, none⟩ = some v := ⟨_, (h.cell j).trans (List.getElem?_eq_getElem hj)⟩
theorem by0_int (n : Nat) : (((by0 n).toNat : Nat) : Int) = (n : Int) / 65536 % 256 := by unfold by0; rw [UInt8.toNat_ofNat']; omega
theorem by1_int (n : Nat) : (((by1 n).toNat : Nat) : Int) = (n : Int) / 256 % 256 := by unfold by1; rw [UInt8.toNat_ofNat']; omega
theorem by2_int (n : Nat) : (((by2 n).toNat : Nat) : Int) = (n : Int) % 256 := by unfold by2; rw [UInt8.toNat_ofNat']; omega
theorem spec4 {r : List UInt8} {si n p x y z t N : Nat} {err : Value} {cs : List Value} (h : Brk r si p 4 x y z t err) (hN : q4 x y z t = N) :
  QSpec r si n cs p 3 err (((cs.set (n + 2) (.int .u8 ((N : Int) % 256))).set (n + 1) (.int .u8 ((N : Int) / 256 % 256))).set n (.int .u8 ((N : Int) / 65536 % 256))) := by
 match r, h with
 | a :: b :: c :: d :: tl, h =>
  obtain ⟨h1, h2, rfl, rfl, h3⟩ := h
  rw [QSpec_cons, if_neg (fun e => e.elim h1 h2)]
  rcases h3 with ⟨_, hp, h4, h5, rfl, rfl, he⟩ | ⟨e, _⟩ | ⟨e, _⟩
  ·rw [if_neg h4, if_neg h5, by0_int, by1_int, by2_int, hN]
   exact ⟨hp, rfl, he, rfl⟩
  ·omega
  ·omega
 | [], h => exact h.elim
 | [_], h => exact h.elim
 | [_, _], h => exact h.elim
 | [_, _, _], h => exact h.elim
theorem spec3 {r : List UInt8} {si n p x y z t N : Nat} {err : Value} {cs : List Value} (h : Brk r si p 3 x y z t err) (hN : q4 x y z t = N) :
  QSpec r si n cs p 2 err ((cs.set (n + 1) (.int .u8 ((N : Int) / 256 % 256))).set n (.int .u8 ((N : Int) / 65536 % 256))) := by
 match r, h with
 | a :: b :: c :: d :: tl, h =>
  obtain ⟨h1, h2, rfl, rfl, h3⟩ := h
  rw [QSpec_cons, if_neg (fun e => e.elim h1 h2)]
  rcases h3 with ⟨e, _⟩ | ⟨e, _⟩ | ⟨_, h4, h5, h6, rfl, rfl, h7⟩
  ·omega
  ·omega
  ·rw [if_neg h4, if_pos h5]
   rcases h7 with ⟨h8, h9, h10⟩ | ⟨h8, h9⟩
   ·rw [if_pos ⟨h6, h8⟩, by0_int, by1_int, hN]
    exact ⟨h9, rfl, h10, rfl⟩
   ·rw [if_neg (fun e => h8 e.2)]
    exact ⟨h9, by omega, fun _ => by simp, by simp⟩
 | [], h => exact h.elim
 | [_], h => exact h.elim
 | [_, _], h => exact h.elim
 | [_, _, _], h => exact h.elim
theorem spec2 {r : List UInt8} {si n p x y z t N : Nat} {err : Value} {cs : List Value} (h : Brk r si p 2 x y z t err) (hN : q4 x y z t = N) :
  QSpec r si n cs p 1 err (cs.set n (.int .u8 ((N : Int) / 65536 % 256))) := by
 match r, h with
 | a :: b :: c :: d :: tl, h =>
  obtain ⟨h1, h2, rfl, rfl, h3⟩ := h
  rw [QSpec_cons, if_neg (fun e => e.elim h1 h2)]
  rcases h3 with ⟨e, _⟩ | ⟨_, h4, h5, h6, rfl, rfl, h7⟩ | ⟨e, _⟩
  ·omega
  ·rw [if_pos h4]
   rcases h7 with ⟨h8, h9, h10⟩ | ⟨h8, h9⟩
   ·rw [if_pos ⟨h5, h6, h8⟩, by0_int, hN]
    exact ⟨h9, rfl, h10, rfl⟩
   ·rw [if_neg (fun e => h8 e.2.2)]
    exact ⟨h9, by omega, fun _ => by simp, by simp⟩
  ·omega
 | [], h => exact h.elim
 | [_], h => exact h.elim
 | [_, _], h => exact h.elim
 | [_, _, _], h => exact h.elim
set_option maxRecDepth 100000 in
set_option maxHeartbeats 4000000 in
theorem quant (w0 w : World) (ge gs gd : Nat) (l : List UInt8) (cs : List Value) (si n off len capS capD : Nat) (he : EncR w ge) (hs : SrcR w gs l) (ho : OB w0 w gd cs 5) (hge : ge ≠ gd) (hgs : gs ≠ gd)
  (hL : l.length ≤ 2147483647) (hsi : si < l.length) (hnl : ∀ b ∈ l, b ≠ 10 ∧ b ≠ 13) (hroom : 4 ≤ l.length - si → n + 3 ≤ cs.length) (hoff : 4 ≤ l.length - si → n = off ∧ cs.length - n = len) :
  Calls Tryz.prog 76 #[.pointer (some ⟨ge, 0, none⟩), .slice (some ⟨gd, off, none⟩) len capD, .slice (some ⟨gs, 0, none⟩) l.length capS, .int .i64 (si : Int)] w
   fun e w' => ∃ (si' n' : Nat) (err : Value) (cs' : List Value), e = .returned (.tuple #[.int .i64 (si' : Int), .int .i64 (n' : Int), err]) ∧ OB w0 w' gd cs' 5 ∧ But w w' gd ∧ QSpec (l.drop si) si n cs si' n' err cs' := by
 have HE := Lib.hid he
 have HS := Lib.hid hs
 have HO := Lib.hid ho
 have HN := Lib.hid hnl
 have HR := Lib.hid hroom
 have HOFF := Lib.hid hoff
 clear he hs ho hnl hroom hoff
 obtain ⟨X, hX⟩ := enc_whole (HE.out.below ((Below.refl w.heap.size w).alloc (Nat.le_refl _) (.cells #[.int .u8 0, .int .u8 0, .int .u8 0, .int .u8 0] 143)))
 go_enter Tryz.func76, Tryz.ntmps76
 go_upto_region 4 with fail
 refine wp_load_of 159 _ rfl ⟨ge, 64, none⟩ rfl _ hX ?_
 clear hX
 generalize Value.agg X = XV
 clear X
 have HB := Lib.hid (OB.new (Below.refl w.heap.size w) #[.int .u8 0, .int .u8 0, .int .u8 0, .int .u8 0] 143)
 generalize w.alloc (.cells #[.int .u8 0, .int .u8 0, .int .u8 0, .int .u8 0] 143) = W1 at *
 generalize hgb : w.heap.size = gb at *
 have HGB := Lib.hid hgb
 clear hgb
 go_upto_block 0 with fail
 go_cut [3, 10, 12] (fun s3 s10 s12 wc => ∃ (p dn x y z t : Nat) (err : Value), s3 = .int .i64 (p : Int) ∧ s10 = err ∧ s12 = .int .i64 (dn : Int) ∧ OB w wc gb (nums8 [x, y, z, t]) 143 ∧ Hid (Brk (l.drop si) si p dn x y z t err))
 case first =>
  go_wp2_with fail
  go_loopw [3, 10, 12, 13] (fun s3 s10 s12 s13 wr => s10 = .nilIface ∧ s12 = .int .i64 4 ∧ ∃ p j : Nat, s3 = .int .i64 (p : Int) ∧ s13 = .int .i64 (j : Int) ∧ p = si + j ∧ j ≤ 4 ∧ p ≤ l.length ∧ OB w wr gb (nums8 (dl (l.drop si) j)) 143 ∧ ∀ b, b ∈ (l.drop si).take j → fg b ≠ 255) (fun _ _ _ s13 _ => 4 - (intOf s13).toNat)
  case atStart => exact ⟨rfl, rfl, si, 0, rfl, rfl, rfl, by omega, by omega, HB.out, fun b hb => by simp at hb⟩
  case round =>
   obtain ⟨rfl, rfl, p, j, rfl, rfl, hp, hj, hpl, hO, hall⟩ := hrel
   have HW := Lib.hid hO
   have HP := Lib.hid hp
   have HALL := Lib.hid hall
   have HRL : (l.drop si).length = l.length - si := List.length_drop
   have HRL' := Lib.hid HRL
   have cpad := (HE.out.below HW.out.below).pad
   clear hO hp hall HRL
   by_cases hj4 : j < 4
   ·have b1 : decide ((j : Int) < 4) = true := decide_eq_true (by omega)
    by_cases hend : p = l.length
    ·have e1 : ((l.length : Int) == (p : Int)) = true := beq_iff_eq.2 (by omega)
     have hj0 : ((j : Int) == 0) = false := beq_eq_false_iff_ne.2 (by have := HP.out; omega)
     have HEND := Lib.hid hend
     have HJ4 := Lib.hid hj4
     clear hj4 hend hpl
     by_cases hj1 : j = 1
     ·have hj1' : ((j : Int) == 1) = true := beq_iff_eq.2 (by omega)
      have HJ := Lib.hid hj1
      clear hj1
      go_wp2
      go_ret3
      exact ⟨p, 0, _, cs, rfl, HO.out.later HW.out.below, ⟨HW.out.below.size, fun k hk _ => HW.out.below.block k hk⟩, QSpec_short (by have := HRL'.out; have := HP.out; have := HEND.out; have := HJ4.out; omega) ⟨⟨_, rfl⟩, by omega, fun h => absurd rfl h, rfl⟩⟩
     ·have hj1' : ((j : Int) == 1) = false := beq_eq_false_iff_ne.2 (by omega)
      clear hj1
      go_wp2
      go_ret3
      exact ⟨p, 0, _, cs, rfl, HO.out.later HW.out.below, ⟨HW.out.below.size, fun k hk _ => HW.out.below.block k hk⟩, QSpec_short (by have := HRL'.out; have := HP.out; have := HEND.out; have := HJ4.out; omega) ⟨⟨_, rfl⟩, by omega, fun h => absurd rfl h, rfl⟩⟩
    ·have hpl2 : (p : Int) < (l.length : Int) := by omega
     have hpl3 : p < l.length := by omega
     have e1 : ((l.length : Int) == (p : Int)) = false := beq_eq_false_iff_ne.2 (by omega)
     obtain ⟨x, hx⟩ : ∃ x, l[p]? = some x := ⟨_, List.getElem?_eq_getElem hpl3⟩
     have hxr : (l.drop si)[j]? = some x := by rw [List.getElem?_drop, ← HP.out]; exact hx
     have cx := (HS.out.below HW.out.below) p x hx
     have cf := (HE.out.below HW.out.below).fig x
     have hx8 := x.toNat_lt
     obtain ⟨n10, n13⟩ := HN.out x (List.mem_of_getElem? hx)
     have x10 : ((x.toNat : Int) == 10) = false := beq_eq_false_iff_ne.2 (fun e => n10 (UInt8.toNat_inj.1 (by have : (10 : UInt8).toNat = 10 := rfl; omega)))
     have x13 : ((x.toNat : Int) == 13) = false := beq_eq_false_iff_ne.2 (fun e => n13 (UInt8.toNat_inj.1 (by have : (13 : UInt8).toNat = 13 := rfl; omega)))
     have HX := Lib.hid hxr
     clear n10 n13 hend hpl hx hxr
     by_cases hf : fg x = 255
     ·rw [hf] at cf
      have HF := Lib.hid hf
      clear hf
      by_cases h61 : x.toNat = 61
      ·have x61 : (x.toNat : Int) = 61 := by omega
       rw [x61] at cx x10 x13
       rw [h61] at cf
       have H61 := Lib.hid h61
       clear h61 x61 hx8
       by_cases j0 : j = 0
       ·subst j0
        go_wp2
        go_ret3
        exact ⟨p + 1, 0, _, cs, rfl, HO.out.later HW.out.below, ⟨HW.out.below.size, fun k hk _ => HW.out.below.block k hk⟩, QSpec_bad HX.out hj4 HF.out (fun _ => by omega) ⟨⟨_, rfl⟩, by omega, fun h => absurd rfl h, rfl⟩⟩
       by_cases j1 : j = 1
       ·subst j1
        go_wp2
        go_ret3
        exact ⟨p + 1, 0, _, cs, rfl, HO.out.later HW.out.below, ⟨HW.out.below.size, fun k hk _ => HW.out.below.block k hk⟩, QSpec_bad HX.out hj4 HF.out (fun _ => by omega) ⟨⟨_, rfl⟩, by omega, fun h => absurd rfl h, rfl⟩⟩
       by_cases j2 : j = 2
       ·subst j2
        clear j0 j1
        obtain ⟨q, hq⟩ : ∃ q, q = p + 1 := ⟨_, rfl⟩
        have HQq := Lib.hid hq
        have qw : wrap64 ((p : Int) + 1) = (q : Int) := by rw [hq]; exact (IntWalk.wrap64_in _ ⟨by omega, by omega⟩).trans (by omega)
        by_cases hqe : q = l.length
        ·have ltq : decide ((q : Int) < (l.length : Int)) = false := decide_eq_false (by omega)
         have ltqn : decide (q < l.length) = false := decide_eq_false (by omega)
         have eqq : ((q : Int) == (l.length : Int)) = true := beq_iff_eq.2 (by omega)
         have eqqn : (q == l.length) = true := beq_iff_eq.2 (by omega)
         have HQE := Lib.hid hqe
         clear hqe hq
         go_wp2
         go_loop [3] (fun s3 => s3 = .int .i64 (q : Int)) (fun _ => 0)
         case atStart => first | rfl | (have := HQq.out; subst this; go_num)
         case round =>
          obtain rfl := hrel
          go_wp2
          go_ret3
          exact ⟨q, 0, _, rfl, cs, HO.out.later HW.out.below, ⟨HW.out.below.size, fun k hk _ => HW.out.below.block k hk⟩, QSpec_short (by have := HRL'.out; have := HP.out; have := HQq.out; have := HQE.out; omega) ⟨⟨_, rfl⟩, by omega, fun h => absurd rfl h, rfl⟩⟩
        ·have ltq : decide ((q : Int) < (l.length : Int)) = true := decide_eq_true (by omega)
         have ltqn : decide (q < l.length) = true := decide_eq_true (by omega)
         have ltq' : (q : Int) < (l.length : Int) := by omega
         have ltq'' : q < l.length := by omega
         have eqq : ((q : Int) == (l.length : Int)) = false := beq_eq_false_iff_ne.2 (by omega)
         have eqqn : (q == l.length) = false := beq_eq_false_iff_ne.2 (by omega)
         obtain ⟨y, hy⟩ : ∃ y, l[q]? = some y := ⟨_, List.getElem?_eq_getElem ltq''⟩
         have hyr : (l.drop si)[3]? = some y := by rw [List.getElem?_drop]; rw [← hy]; congr 1; have := HP.out; have := HQq.out; omega
         have cy := (HS.out.below HW.out.below) q y hy
         have y8 := y.toNat_lt
         obtain ⟨n10, n13⟩ := HN.out y (List.mem_of_getElem? hy)
         have y10 : ((y.toNat : Int) == 10) = false := beq_eq_false_iff_ne.2 (fun e => n10 (UInt8.toNat_inj.1 (by have : (10 : UInt8).toNat = 10 := rfl; omega)))
         have y13 : ((y.toNat : Int) == 13) = false := beq_eq_false_iff_ne.2 (fun e => n13 (UInt8.toNat_inj.1 (by have : (13 : UInt8).toNat = 13 := rfl; omega)))
         have Hy := Lib.hid hyr
         clear n10 n13 hy hyr
         clear hqe hq
         go_wp2
         go_loop [3] (fun s3 => s3 = .int .i64 (q : Int)) (fun _ => 0)
         case atStart => first | rfl | (have := HQq.out; subst this; go_num)
         case round =>
          obtain rfl := hrel
          by_cases hy61 : y.toNat = 61
          ·have y61 : (y.toNat : Int) = 61 := by omega
           rw [y61] at cy y10 y13
           have HY61 := Lib.hid hy61
           obtain ⟨r0, hr0⟩ : ∃ r0, r0 = q + 1 := ⟨_, rfl⟩
           have HQr0 := Lib.hid (show r0 = p + 2 by have := HQq.out; omega)
           have rw0 : wrap64 ((q : Int) + 1) = (r0 : Int) := by rw [hr0]; exact (IntWalk.wrap64_in _ ⟨by omega, by omega⟩).trans (by omega)
           clear hy61 y61 y8
           go_wp2
           go_quiet (fail)
           go_wp2
           have hr0le : r0 ≤ l.length := by omega
           clear hr0
           by_cases hqr0 : r0 = l.length
           ·have ltr0 : decide ((r0 : Int) < (l.length : Int)) = false := decide_eq_false (by omega)
            have ltr0n : decide (r0 < l.length) = false := decide_eq_false (by omega)
            have HLr0 := Lib.hid hqr0
            clear hqr0
            go_loop [3] (fun s3 => s3 = .int .i64 (r0 : Int)) (fun _ => 0)
            case atStart => (try have h0 := HQq.out); have h1 := HQr0.out; first | rfl | (refine congrArg (Value.int .i64) ?_; omega) | go_num | (go_show; fail)
            case round =>
             obtain rfl := hrel
             go_wp2
             go_meet
             case rel =>
              obtain ⟨u, v, eD, eB⟩ := brk2 si r0 .nilIface HX.out HF.out H61.out Hy.out HY61.out HALL.out (.inl ⟨by have := HRL'.out; have := HP.out; have := HQr0.out; have := HLr0.out; omega, by have := HP.out; have := HQr0.out; omega, rfl⟩)
              have O2 := HW.out
              rw [eD] at O2
              first | exact ⟨r0, _, _, _, _, _, _, rfl, rfl, rfl, O2, Lib.hid eB⟩ | exact ⟨r0, _, _, _, _, _, _, rfl, rfl, rfl, O2.drewN _, Lib.hid eB⟩
           ·have ltr0 : decide ((r0 : Int) < (l.length : Int)) = true := decide_eq_true (by omega)
            have ltr0n : decide (r0 < l.length) = true := decide_eq_true (by omega)
            have ltr0' : (r0 : Int) < (l.length : Int) := by omega
            have ltr0'' : r0 < l.length := by omega
            obtain ⟨g, hg⟩ : ∃ g, l[r0]? = some g := ⟨_, List.getElem?_eq_getElem ltr0''⟩
            have hgr : (l.drop si)[4]? = some g := by rw [List.getElem?_drop]; rw [← hg]; congr 1; have := HP.out; have := HQr0.out; omega
            have cg := (HS.out.below HW.out.below) r0 g hg
            have g8 := g.toNat_lt
            obtain ⟨n10, n13⟩ := HN.out g (List.mem_of_getElem? hg)
            have g10 : ((g.toNat : Int) == 10) = false := beq_eq_false_iff_ne.2 (fun e => n10 (UInt8.toNat_inj.1 (by have : (10 : UInt8).toNat = 10 := rfl; omega)))
            have g13 : ((g.toNat : Int) == 13) = false := beq_eq_false_iff_ne.2 (fun e => n13 (UInt8.toNat_inj.1 (by have : (13 : UInt8).toNat = 13 := rfl; omega)))
            have Hg := Lib.hid hgr
            clear n10 n13 hg hgr
            go_loop [3] (fun s3 => s3 = .int .i64 (r0 : Int)) (fun _ => 0)
            case atStart => (try have h0 := HQq.out); have h1 := HQr0.out; first | rfl | (refine congrArg (Value.int .i64) ?_; omega) | go_num | (go_show; fail)
            case round =>
             obtain rfl := hrel
             go_wp2
             go_meet
             case rel =>
              obtain ⟨u, v, eD, eB⟩ := brk2 si r0 (.iface 183 (.int .i64 (r0 : Int))) HX.out HF.out H61.out Hy.out HY61.out HALL.out (.inr ⟨by have := HRL'.out; have := HP.out; have := HQr0.out; omega, _, rfl⟩)
              have O2 := HW.out
              rw [eD] at O2
              first | exact ⟨r0, _, _, _, _, _, _, rfl, rfl, rfl, O2, Lib.hid eB⟩ | exact ⟨r0, _, _, _, _, _, _, rfl, rfl, rfl, O2.drewN _, Lib.hid eB⟩
          ·have y61 : ((y.toNat : Int) == 61) = false := beq_eq_false_iff_ne.2 (by omega)
           have HY61 := Lib.hid hy61
           clear hy61
           go_wp2
           go_quiet (fail)
           go_wp2
           go_ret3
           refine ⟨q, 0, _, cs, rfl, (HO.out.later HW.out.below).drewN _, ⟨HW.out.below.size, fun k hk _ => HW.out.below.block k hk⟩, QSpec_pad2 HX.out HF.out (fun y' hy' h => ?_) ⟨⟨_, rfl⟩, by omega, fun h => absurd rfl h, rfl⟩⟩
           rw [Hy.out] at hy'
           injection hy' with hy'
           subst hy'
           exact absurd h HY61.out
       ·obtain rfl : j = 3 := by omega
        clear j0 j1 j2
        obtain ⟨r0, hr0⟩ : ∃ r0, r0 = p + 1 := ⟨_, rfl⟩
        have HQr0 := Lib.hid hr0
        have rw0 : wrap64 ((p : Int) + 1) = (r0 : Int) := by rw [hr0]; exact (IntWalk.wrap64_in _ ⟨by omega, by omega⟩).trans (by omega)
        go_wp2
        have hr0le : r0 ≤ l.length := by omega
        clear hr0
        by_cases hqr0 : r0 = l.length
        ·have ltr0 : decide ((r0 : Int) < (l.length : Int)) = false := decide_eq_false (by omega)
         have ltr0n : decide (r0 < l.length) = false := decide_eq_false (by omega)
         have HLr0 := Lib.hid hqr0
         clear hqr0
         go_loop [3] (fun s3 => s3 = .int .i64 (r0 : Int)) (fun _ => 0)
         case atStart => (try have h0 := HQq.out); have h1 := HQr0.out; first | rfl | (refine congrArg (Value.int .i64) ?_; omega) | go_num | (go_show; fail)
         case round =>
          obtain rfl := hrel
          go_wp2
          go_meet
          case rel =>
           obtain ⟨u, v, z, eD, eB⟩ := brk3 si r0 .nilIface HX.out HF.out H61.out HALL.out (.inl ⟨by have := HRL'.out; have := HP.out; have := HQr0.out; have := HLr0.out; omega, by have := HP.out; have := HQr0.out; omega, rfl⟩)
           have O2 := HW.out
           rw [eD] at O2
           first | exact ⟨r0, _, _, _, _, _, _, rfl, rfl, rfl, O2, Lib.hid eB⟩ | exact ⟨r0, _, _, _, _, _, _, rfl, rfl, rfl, O2.drewN _, Lib.hid eB⟩
        ·have ltr0 : decide ((r0 : Int) < (l.length : Int)) = true := decide_eq_true (by omega)
         have ltr0n : decide (r0 < l.length) = true := decide_eq_true (by omega)
         have ltr0' : (r0 : Int) < (l.length : Int) := by omega
         have ltr0'' : r0 < l.length := by omega
         obtain ⟨g, hg⟩ : ∃ g, l[r0]? = some g := ⟨_, List.getElem?_eq_getElem ltr0''⟩
         have hgr : (l.drop si)[4]? = some g := by rw [List.getElem?_drop]; rw [← hg]; congr 1; have := HP.out; have := HQr0.out; omega
         have cg := (HS.out.below HW.out.below) r0 g hg
         have g8 := g.toNat_lt
         obtain ⟨n10, n13⟩ := HN.out g (List.mem_of_getElem? hg)
         have g10 : ((g.toNat : Int) == 10) = false := beq_eq_false_iff_ne.2 (fun e => n10 (UInt8.toNat_inj.1 (by have : (10 : UInt8).toNat = 10 := rfl; omega)))
         have g13 : ((g.toNat : Int) == 13) = false := beq_eq_false_iff_ne.2 (fun e => n13 (UInt8.toNat_inj.1 (by have : (13 : UInt8).toNat = 13 := rfl; omega)))
         have Hg := Lib.hid hgr
         clear n10 n13 hg hgr
         go_loop [3] (fun s3 => s3 = .int .i64 (r0 : Int)) (fun _ => 0)
         case atStart => (try have h0 := HQq.out); have h1 := HQr0.out; first | rfl | (refine congrArg (Value.int .i64) ?_; omega) | go_num | (go_show; fail)
         case round =>
          obtain rfl := hrel
          go_wp2
          go_meet
          case rel =>
           obtain ⟨u, v, z, eD, eB⟩ := brk3 si r0 (.iface 183 (.int .i64 (r0 : Int))) HX.out HF.out H61.out HALL.out (.inr ⟨by have := HRL'.out; have := HP.out; have := HQr0.out; omega, _, rfl⟩)
           have O2 := HW.out
           rw [eD] at O2
           first | exact ⟨r0, _, _, _, _, _, _, rfl, rfl, rfl, O2, Lib.hid eB⟩ | exact ⟨r0, _, _, _, _, _, _, rfl, rfl, rfl, O2.drewN _, Lib.hid eB⟩
      ·have x61 : ((x.toNat : Int) == 61) = false := beq_eq_false_iff_ne.2 (by omega)
       have H61 := Lib.hid h61
       clear h61
       go_wp2
       go_ret3
       exact ⟨p + 1, 0, _, cs, rfl, HO.out.later HW.out.below, ⟨HW.out.below.size, fun k hk _ => HW.out.below.block k hk⟩, QSpec_bad HX.out hj4 HF.out (fun e => absurd e H61.out) ⟨⟨_, rfl⟩, by omega, fun h => absurd rfl h, rfl⟩⟩
     ·have ff : ((fg x : Int) == 255) = false := beq_eq_false_iff_ne.2 (by omega)
      have HF := Lib.hid hf
      have O2 := HW.out.setCell j (.int .u8 (fg x : Int))
      rw [nums8_set, dl_set _ _ hj4 _ HX.out] at O2
      have HW2 := Lib.hid O2
      have cj := HW.out.cell j
      rw [show (nums8 (dl (l.drop si) j))[j]? = some ((nums8 (dl (l.drop si) j))[j]'(by unfold nums8; rw [List.length_map, dl_length _ _ hj (by have := HRL'.out; have := HP.out; omega)]; exact hj4)) from List.getElem?_eq_getElem _] at cj
      have fj := HW.out.frozen j
      generalize (nums8 (dl (l.drop si) j))[j]'_ = vj at cj
      clear hf O2
      go_wp2
      go_roundw
      case rel => exact ⟨rfl, rfl, p + 1, j + 1, by go_num, by go_num, by have := HP.out; omega, by omega, by omega, HW2.out, fun b hb => by
       rw [List.take_add_one, HX.out, List.mem_append] at hb
       rcases hb with hb | hb
       ·exact HALL.out b hb
       ·simp at hb; rw [hb]; exact HF.out⟩
      case measure => simp [intOf]; omega
   ·obtain rfl : j = 4 := by omega
    go_wp2
    go_meet
    case rel =>
     obtain ⟨x, y, z, t, eD, eB⟩ := brk4 si HALL.out (by have := HRL'.out; have := HP.out; omega)
     have O2 := HW.out
     rw [eD] at O2
     exact ⟨p, 4, x, y, z, t, _, rfl, rfl, rfl, O2, Lib.hid (by rw [HP.out]; exact eB)⟩
 case rest =>
  obtain ⟨p, dn, x, y, z, t, err, rfl, rfl, rfl, hO, HBr⟩ := hcut
  obtain ⟨hx, hy, hz, ht⟩ := Brk_lt HBr.out
  obtain ⟨rfl, rfl⟩ := HOFF.out (by have := Brk_len HBr.out; rw [List.length_drop] at this; exact this)
  clear HOFF
  have HC := Lib.hid hO
  have c0 := HC.out.cell 0
  have c1 := HC.out.cell 1
  have c2 := HC.out.cell 2
  have c3 := HC.out.cell 3
  simp only [nums8, List.map_cons, List.map_nil, List.getElem?_cons_zero, List.getElem?_cons_succ] at c0 c1 c2 c3
  clear hO
  have hor := or_q x y z t hx hy hz ht
  have HN4 := Lib.hid (show q4 x y z t < 16777216 by unfold q4; omega)
  generalize hNN : q4 x y z t = N at *
  have HNN := Lib.hid hNN
  clear hNN
  have f0 := HC.out.frozen 0
  have f1 := HC.out.frozen 1
  have f2 := HC.out.frozen 2
  go_upto_region 42 with fail
  have HT := Lib.hid ((((Two.first HO.out HC.out).setB 2 (.int .u8 ((N : Int) % 256))).setB 1 (.int .u8 ((N : Int) / 256 % 256))).setB 0 (.int .u8 ((N : Int) / 65536 % 256)))
  generalize (((wc.setCell { block := gb, off := 2 } (Value.int IntKind.u8 ((N : Int) % 256))).setCell { block := gb, off := 1 } (Value.int IntKind.u8 ((N : Int) / 256 % 256))).setCell { block := gb, off := 0 } (Value.int IntKind.u8 ((N : Int) / 65536 % 256))) = W4 at *
  have k0 := HT.out.b.cell 0
  have k1 := HT.out.b.cell 1
  have k2 := HT.out.b.cell 2
  simp only [nums8, List.map_cons, List.map_nil, List.set_cons_zero, List.set_cons_succ, List.getElem?_cons_zero, List.getElem?_cons_succ] at k0 k1 k2
  have q0 := HT.out.b.frozen 0
  have q1 := HT.out.b.frozen 1
  have q2 := HT.out.b.frozen 2
  have m0 := HT.out.d.frozen n
  have m1 := HT.out.d.frozen (n + 1)
  have m2 := HT.out.d.frozen (n + 2)
  have ne1 := HT.out.ne
  have ne2 : gd ≠ gb := fun e => HT.out.ne e.symm
  have es := (HE.out.keep (HT.out.but.block ge HE.out.lt hge)).strict
  clear c0 c1 c2 c3 f0 f1 f2
  have HRL : (l.drop si).length = l.length - si := List.length_drop
  have HRL' := Lib.hid HRL
  clear HRL
  have hl4 : 4 ≤ (l.drop si).length := Brk_len HBr.out
  have hr3 : n + 3 ≤ cs.length := HR.out (by rw [← HRL'.out]; exact hl4)
  obtain ⟨v0, d0⟩ := cell_set HT.out.d n (by omega)
  obtain ⟨v1, d1⟩ := cell_set HT.out.d (n + 1) (by omega)
  obtain ⟨v2, d2⟩ := cell_set HT.out.d (n + 2) (by omega)
  have r0 : (0 : Int) < ((cs.length - n : Nat) : Int) := by omega
  have r1 : (1 : Int) < ((cs.length - n : Nat) : Int) := by omega
  have r2 : (2 : Int) < ((cs.length - n : Nat) : Int) := by omega
  have r0n : 0 < cs.length - n := by omega
  have r1n : 1 < cs.length - n := by omega
  have r2n : 2 < cs.length - n := by omega
  clear hl4 hr3
  rcases Brk_cases HBr.out with h4 | h2 | h3
  ·subst h4
   go_wp2
   go_ret3
   have T := ((((HT.out.setD (n + 2) (.int .u8 ((N : Int) % 256))).setB 2 (.int .u8 0)).setD (n + 1) (.int .u8 ((N : Int) / 256 % 256))).setB 1 (.int .u8 0)).setD n (.int .u8 ((N : Int) / 65536 % 256))
   first | exact ⟨p, 3, _, rfl, _, T.d, T.but, spec4 HBr.out HNN.out⟩ | exact ⟨p, 3, _, _, rfl, T.d, T.but, spec4 HBr.out HNN.out⟩
  ·subst h2
   go_wp2
   go_ret3
   have T := HT.out.setD n (.int .u8 ((N : Int) / 65536 % 256))
   first | exact ⟨p, 1, _, rfl, _, T.d, T.but, spec2 HBr.out HNN.out⟩ | exact ⟨p, 1, _, _, rfl, T.d, T.but, spec2 HBr.out HNN.out⟩
  ·subst h3
   go_wp2
   go_ret3
   have T := ((HT.out.setD (n + 1) (.int .u8 ((N : Int) / 256 % 256))).setB 1 (.int .u8 0)).setD n (.int .u8 ((N : Int) / 65536 % 256))
   first | exact ⟨p, 2, _, rfl, _, T.d, T.but, spec3 HBr.out HNN.out⟩ | exact ⟨p, 2, _, _, rfl, T.d, T.but, spec3 HBr.out HNN.out⟩
def put (cs : List Value) (n : Nat) (xs : List Value) : List Value := cs.take n ++ xs ++ cs.drop (n + xs.length)
theorem put_nil (cs : List Value) (n : Nat) : put cs n [] = cs := by unfold put; simp
theorem put_snoc (cs : List Value) (n : Nat) (xs : List Value) (v : Value) (h : n + xs.length < cs.length) : (put cs n xs).set (n + xs.length) v = put cs n (xs ++ [v]) := by
 unfold put
 rw [List.append_assoc, List.set_append_right _ _ (by rw [List.length_take]; omega), List.length_take, Nat.min_eq_left (by omega), show n + xs.length - n = xs.length by omega,
  List.set_append_right _ _ (Nat.le_refl _), Nat.sub_self, List.drop_eq_getElem_cons h, List.set_cons_zero, List.length_append, List.length_singleton]
 simp [Nat.add_assoc]
theorem put_length (cs : List Value) (n : Nat) (xs : List Value) (h : n + xs.length ≤ cs.length) : (put cs n xs).length = cs.length := by
 unfold put; rw [List.length_append, List.length_append, List.length_take, List.length_drop]; omega
theorem put_take (cs : List Value) (n : Nat) (xs : List Value) (m : Nat) (h : n + xs.length ≤ cs.length) (hm : m ≤ xs.length) : (put cs n xs).take (n + m) = cs.take n ++ xs.take m := by
 unfold put
 rw [List.append_assoc, List.take_append, List.length_take, Nat.min_eq_left (by omega), List.take_of_length_le (by rw [List.length_take]; omega), show n + m - n = m by omega, List.take_append_of_le_length hm]
theorem set_take (cs : List Value) (n : Nat) (v : Value) (h : n < cs.length) : (cs.set n v).take (n + 1) = cs.take n ++ [v] := by
 have := put_snoc cs n [] v (by simpa using h)
 rw [put_nil] at this
 simp only [List.length_nil, Nat.add_zero, List.nil_append] at this
 rw [this, put_take cs n [v] 1 (by simp; omega) (Nat.le_refl _)]
 rfl
theorem set2_take (cs : List Value) (n : Nat) (u v : Value) (h : n + 1 < cs.length) : ((cs.set (n + 1) v).set n u).take (n + 2) = cs.take n ++ [u, v] := by
 rw [List.set_comm _ _ (by omega)]
 rw [show n + 2 = (n + 1) + 1 by omega, set_take _ (n + 1) v (by rw [List.length_set]; exact h), set_take _ n u (by omega), List.append_assoc]
 rfl
theorem set3_take (cs : List Value) (n : Nat) (u v x : Value) (h : n + 2 < cs.length) : (((cs.set (n + 2) x).set (n + 1) v).set n u).take (n + 3) = cs.take n ++ [u, v, x] := by
 rw [List.set_comm _ _ (show n + 1 ≠ n by omega), List.set_comm _ _ (show n + 2 ≠ n by omega), List.set_comm _ _ (show n + 2 ≠ n + 1 by omega)]
 rw [show n + 3 = (n + 2) + 1 by omega, set_take _ (n + 2) x (by rw [List.length_set, List.length_set]; exact h), show n + 2 = (n + 1) + 1 by omega, set_take _ (n + 1) v (by rw [List.length_set]; omega), set_take _ n u (by omega), List.append_assoc, List.append_assoc]
 rfl
theorem std_cons4 (a b c d : UInt8) (r : List UInt8) : std (a :: b :: c :: d :: r) =
  if fg a = 255 ∨ fg b = 255 then none
  else if fg c = 255 then
   if c.toNat = 61 ∧ d.toNat = 61 ∧ r = [] then some [by0 (q4 (fg a) (fg b) 0 0)] else none
  else if fg d = 255 then
   if d.toNat = 61 ∧ r = [] then some [by0 (q4 (fg a) (fg b) (fg c) 0), by1 (q4 (fg a) (fg b) (fg c) 0)] else none
  else (std r).map fun l => by0 (q4 (fg a) (fg b) (fg c) (fg d)) :: by1 (q4 (fg a) (fg b) (fg c) (fg d)) :: by2 (q4 (fg a) (fg b) (fg c) (fg d)) :: l := by rw [std]
theorem QSpec_std {r : List UInt8} {si n si' n' : Nat} {cs cs' : List Value} {err : Value} (hr : r ≠ []) (hroom : 4 ≤ r.length → n + 3 ≤ cs.length) (h : QSpec r si n cs si' n' err cs') :
  (std r = none ∧ QBad r n' err cs cs') ∨
  (∃ bs : List UInt8, bs.length = n' ∧ err = .nilIface ∧ si' = si + 4 ∧ 4 ≤ r.length ∧ std r = (std (r.drop 4)).map (bs ++ ·) ∧ cs'.length = cs.length ∧ cs'.take (n + n') = cs.take n ++ byteCells bs ∧ (n' = 3 ∨ r.drop 4 = []) ∧ n' ≤ 3) := by
 match r, hr with
 | [x], _ => exact .inl ⟨by simp [std], h⟩
 | [x, y], _ => exact .inl ⟨by simp [std], h⟩
 | [x, y, z], _ => exact .inl ⟨by simp [std], h⟩
 | a :: b :: c :: d :: t, _ =>
  have hlen : n + 3 ≤ cs.length := hroom (by simp)
  rw [QSpec_cons] at h
  rw [std_cons4]
  by_cases h1 : fg a = 255 ∨ fg b = 255
  ·rw [if_pos h1] at h ⊢
   exact .inl ⟨rfl, h⟩
  rw [if_neg h1] at h ⊢
  by_cases h2 : fg c = 255
  ·rw [if_pos h2] at h ⊢
   by_cases h3 : c.toNat = 61 ∧ d.toNat = 61 ∧ t = []
   ·rw [if_pos h3] at h ⊢
    obtain ⟨e1, rfl, e3, rfl⟩ := h
    refine .inr ⟨[by0 (q4 (fg a) (fg b) 0 0)], rfl, e3, e1, by simp, ?_, by rw [List.length_set], ?_, .inr h3.2.2, by omega⟩
    ·rw [h3.2.2]; simp [std]
    ·exact set_take cs n _ (by omega)
   ·rw [if_neg h3] at h ⊢
    exact .inl ⟨rfl, h⟩
  rw [if_neg h2] at h ⊢
  by_cases h4 : fg d = 255
  ·rw [if_pos h4] at h ⊢
   by_cases h3 : d.toNat = 61 ∧ t = []
   ·rw [if_pos h3] at h ⊢
    obtain ⟨e1, rfl, e3, rfl⟩ := h
    refine .inr ⟨[by0 (q4 (fg a) (fg b) (fg c) 0), by1 (q4 (fg a) (fg b) (fg c) 0)], rfl, e3, e1, by simp, ?_, by rw [List.length_set, List.length_set], ?_, .inr h3.2, by omega⟩
    ·rw [h3.2]; simp [std]
    ·exact set2_take cs n _ _ (by omega)
   ·rw [if_neg h3] at h ⊢
    exact .inl ⟨rfl, h⟩
  rw [if_neg h4] at h ⊢
  obtain ⟨e1, rfl, e3, rfl⟩ := h
  refine .inr ⟨[by0 (q4 (fg a) (fg b) (fg c) (fg d)), by1 (q4 (fg a) (fg b) (fg c) (fg d)), by2 (q4 (fg a) (fg b) (fg c) (fg d))], rfl, e3, e1, by simp, by simp, by rw [List.length_set, List.length_set, List.length_set], ?_, .inl rfl, by omega⟩
  exact set3_take cs n _ _ _ (by omega)
structure DI (w0 w wr : World) (gd D : Nat) (l : List UInt8) (si n : Nat) (cs : List Value) (acc : List UInt8) : Prop where
 own : OB w0 wr gd cs 5
 but : But w wr gd
 len : cs.length = D
 alen : acc.length = n
 row : cs.take n = byteCells acc
 std : Nt.std l = (Nt.std (l.drop si)).map (acc ++ ·)
 le : si ≤ l.length
 at_ : si = l.length ∨ (si % 4 = 0 ∧ n = 3 * (si / 4))
theorem But.refl (w : World) (g : Nat) : But w w g := ⟨Nat.le_refl _, fun _ _ _ => rfl⟩
theorem But.trans {a b c : World} {g : Nat} (h : But a b g) (k : But b c g) : But a c g :=
 ⟨Nat.le_trans h.size k.size, fun j hj hg => (k.block j (Nat.lt_of_lt_of_le hj h.size) hg).trans (h.block j hj hg)⟩
theorem quantI (w0 w wr : World) (ge gs gd D : Nat) (l : List UInt8) (si n off capS capD : Nat) (cs : List Value) (acc : List UInt8) (he : EncR w ge) (hs : SrcR w gs l) (hge : ge ≠ gd) (hgs : gs ≠ gd) (hsl : l ≠ [] → gs < w.heap.size)
  (hL : l.length ≤ 2147483647) (hnl : ∀ b ∈ l, b ≠ 10 ∧ b ≠ 13) (hD : D = l.length / 4 * 3) (hsi : si < l.length) (hoff : 4 ≤ l.length - si → off = n) (h : DI w0 w wr gd D l si n cs acc) :
  Calls Tryz.prog 76 #[.pointer (some ⟨ge, 0, none⟩), .slice (some ⟨gd, off, none⟩) (D - n) capD, .slice (some ⟨gs, 0, none⟩) l.length capS, .int .i64 (si : Int)] wr
   fun e w' => ∃ (si' n' : Nat) (err : Value), e = .returned (.tuple #[.int .i64 (si' : Int), .int .i64 (n' : Int), err]) ∧ n' ≤ 3 ∧
    ((err = .nilIface ∧ si < si' ∧ ∃ cs' acc', DI w0 w w' gd D l si' (n + n') cs' acc') ∨ ((∃ x : Int, err = .iface 183 (.int .i64 x)) ∧ Nt.std l = none ∧ n + n' ≤ D ∧ ∃ cs', cs'.length = D ∧ OB w0 w' gd cs' 5 ∧ But w w' gd)) := by
 have hat : si % 4 = 0 ∧ n = 3 * (si / 4) := h.at_.resolve_left (by omega)
 have hlen := h.len
 have hroom : 4 ≤ l.length - si → n + 3 ≤ cs.length := fun h4 => by omega
 have q := quant w0 wr ge gs gd l cs si n off (D - n) capS capD (he.keep (h.but.block ge he.lt hge)) (hs.keep (h.but.block gs (hsl (fun e => by rw [e] at hsi; simp at hsi)) hgs)) h.own hge hgs hL hsi hnl hroom (fun h4 => ⟨(hoff h4).symm, by rw [hlen]⟩)
 refine q.mono ?_
 rintro e w' ⟨si', n', err, cs', rfl, ho, hb, hq⟩
 have hne : l.drop si ≠ [] := fun e => by have := congrArg List.length e; rw [List.length_drop] at this; simp at this; omega
 have hdl : (l.drop si).length = l.length - si := List.length_drop
 rcases QSpec_std hne (fun h4 => hroom (by omega)) hq with ⟨e1, he1, he2, he3, he4⟩ | ⟨bs, b1, b2, b3, b4, b5, b6, b7, b8, b9⟩
 ·refine ⟨si', n', err, rfl, by omega, .inr ⟨he1, ?_, ?_, cs', by omega, ho, h.but.trans hb⟩⟩
  ·rw [h.std, e1]; rfl
  ·by_cases hn : n' = 0
   ·omega
   ·have := he3 hn; have := hroom (by omega); omega
 ·refine ⟨si', n', err, rfl, b9, .inl ⟨b2, by omega, cs', acc ++ bs, ho, h.but.trans hb, by omega, by rw [List.length_append, h.alen, b1], ?_, ?_, by omega, ?_⟩⟩
  ·rw [b7, h.row]; unfold byteCells; rw [List.map_append]
  ·rw [h.std, b5, List.drop_drop, b3]
   cases Nt.std (l.drop (si + 4)) <;> simp
  ·rcases b8 with b8 | b8
   ·right; omega
   ·left
    have := congrArg List.length b8
    rw [List.drop_drop, List.length_drop] at this
    simp at this
    omega
def b64s (v : Nat) : List Value := [.int .u8 ((v : Int) / 72057594037927936 % 256), .int .u8 ((v : Int) / 281474976710656 % 256), .int .u8 ((v : Int) / 1099511627776 % 256), .int .u8 ((v : Int) / 4294967296 % 256), .int .u8 ((v : Int) / 16777216 % 256), .int .u8 ((v : Int) / 65536 % 256), .int .u8 ((v : Int) / 256 % 256), .int .u8 ((v : Int) % 256)]
def b32s (v : Nat) : List Value := [.int .u8 ((v : Int) / 16777216 % 256), .int .u8 ((v : Int) / 65536 % 256), .int .u8 ((v : Int) / 256 % 256), .int .u8 ((v : Int) % 256)]
theorem But.setCell {a w : World} {g : Nat} (h : But a w g) (j : Nat) (v : Value) : But a (w.setCell ⟨g, j, none⟩ v) g :=
 ⟨by rw [World.size_setCell]; exact h.size, fun k hk hne => (Below.heap_setCell w ⟨g, j, none⟩ v k hne).trans (h.block k hk hne)⟩
theorem OB.put {w0 w : World} {g : Nat} {cs : List Value} {t : TypeId} {n : Nat} {xs : List Value} (h : OB w0 w g (put cs n xs) t) (v : Value) (hl : n + xs.length < cs.length) : OB w0 (w.setCell ⟨g, n + xs.length, none⟩ v) g (PX.put cs n (xs ++ [v])) t := by
 have := h.setCell (n + xs.length) v
 rwa [put_snoc cs n xs v hl] at this
set_option maxRecDepth 100000 in
set_option maxHeartbeats 1000000 in
theorem put64 (w0 w : World) (gd n v capD : Nat) (cs : List Value) (ho : OB w0 w gd cs 5) (hl : n + 8 ≤ cs.length) :
  Calls Tryz.prog 75 #[.slice (some ⟨gd, n, none⟩) (cs.length - n) capD, .int .u64 (v : Int)] w
   fun e w' => e = .returned (.tuple #[]) ∧ OB w0 w' gd (put cs n (b64s v)) 5 ∧ But w w' gd := by
 have HO := Lib.hid ho
 obtain ⟨v0, d0⟩ := cell_set ho n (by omega)
 obtain ⟨v1, d1⟩ := cell_set ho (n + 1) (by omega)
 obtain ⟨v2, d2⟩ := cell_set ho (n + 2) (by omega)
 obtain ⟨v3, d3⟩ := cell_set ho (n + 3) (by omega)
 obtain ⟨v4, d4⟩ := cell_set ho (n + 4) (by omega)
 obtain ⟨v5, d5⟩ := cell_set ho (n + 5) (by omega)
 obtain ⟨v6, d6⟩ := cell_set ho (n + 6) (by omega)
 obtain ⟨v7, d7⟩ := cell_set ho (n + 7) (by omega)
 have f0 := ho.frozen n
 have f1 := ho.frozen (n + 1)
 have f2 := ho.frozen (n + 2)
 have f3 := ho.frozen (n + 3)
 have f4 := ho.frozen (n + 4)
 have f5 := ho.frozen (n + 5)
 have f6 := ho.frozen (n + 6)
 have f7 := ho.frozen (n + 7)
 have r0 : 0 < cs.length - n := by omega
 have r1 : 1 < cs.length - n := by omega
 have r2 : 2 < cs.length - n := by omega
 have r3 : 3 < cs.length - n := by omega
 have r4 : 4 < cs.length - n := by omega
 have r5 : 5 < cs.length - n := by omega
 have r6 : 6 < cs.length - n := by omega
 have r7 : 7 < cs.length - n := by omega
 have s0 : (0 : Int) < ((cs.length - n : Nat) : Int) := by omega
 have s1 : (1 : Int) < ((cs.length - n : Nat) : Int) := by omega
 have s2 : (2 : Int) < ((cs.length - n : Nat) : Int) := by omega
 have s3 : (3 : Int) < ((cs.length - n : Nat) : Int) := by omega
 have s4 : (4 : Int) < ((cs.length - n : Nat) : Int) := by omega
 have s5 : (5 : Int) < ((cs.length - n : Nat) : Int) := by omega
 have s6 : (6 : Int) < ((cs.length - n : Nat) : Int) := by omega
 have s7 : (7 : Int) < ((cs.length - n : Nat) : Int) := by omega
 have HL := Lib.hid hl
 clear ho hl
 go_enter Tryz.func75, Tryz.ntmps75
 go_wp2
 (try simp only [Exit.inBlock, Exit.then])
 refine bodyPost_end (results_none rfl _ _ _) rfl ⟨rfl, ?_, ?_⟩
 ·have P0 : OB w0 w gd (put cs n []) 5 := by rw [put_nil]; exact HO.out
  exact (((((((P0.put _ (by have := HL.out; simp; omega)).put _ (by have := HL.out; simp; omega)).put _ (by have := HL.out; simp; omega)).put _ (by have := HL.out; simp; omega)).put _ (by have := HL.out; simp; omega)).put _ (by have := HL.out; simp; omega)).put _ (by have := HL.out; simp; omega)).put _ (by have := HL.out; simp; omega)
 ·exact ((((((((But.refl w gd).setCell _ _).setCell _ _).setCell _ _).setCell _ _).setCell _ _).setCell _ _).setCell _ _).setCell _ _
set_option maxRecDepth 100000 in
set_option maxHeartbeats 1000000 in
theorem put32 (w0 w : World) (gd n v capD : Nat) (cs : List Value) (ho : OB w0 w gd cs 5) (hl : n + 4 ≤ cs.length) :
  Calls Tryz.prog 78 #[.slice (some ⟨gd, n, none⟩) (cs.length - n) capD, .int .u32 (v : Int)] w
   fun e w' => e = .returned (.tuple #[]) ∧ OB w0 w' gd (put cs n (b32s v)) 5 ∧ But w w' gd := by
 have HO := Lib.hid ho
 obtain ⟨v0, d0⟩ := cell_set ho n (by omega)
 obtain ⟨v1, d1⟩ := cell_set ho (n + 1) (by omega)
 obtain ⟨v2, d2⟩ := cell_set ho (n + 2) (by omega)
 obtain ⟨v3, d3⟩ := cell_set ho (n + 3) (by omega)
 have f0 := ho.frozen n
 have f1 := ho.frozen (n + 1)
 have f2 := ho.frozen (n + 2)
 have f3 := ho.frozen (n + 3)
 have r0 : 0 < cs.length - n := by omega
 have r1 : 1 < cs.length - n := by omega
 have r2 : 2 < cs.length - n := by omega
 have r3 : 3 < cs.length - n := by omega
 have s0 : (0 : Int) < ((cs.length - n : Nat) : Int) := by omega
 have s1 : (1 : Int) < ((cs.length - n : Nat) : Int) := by omega
 have s2 : (2 : Int) < ((cs.length - n : Nat) : Int) := by omega
 have s3 : (3 : Int) < ((cs.length - n : Nat) : Int) := by omega
 have HL := Lib.hid hl
 clear ho hl
 go_enter Tryz.func78, Tryz.ntmps78
 go_wp2
 (try simp only [Exit.inBlock, Exit.then])
 refine bodyPost_end (results_none rfl _ _ _) rfl ⟨rfl, ?_, ?_⟩
 ·have P0 : OB w0 w gd (put cs n []) 5 := by rw [put_nil]; exact HO.out
  exact (((P0.put _ (by have := HL.out; simp; omega)).put _ (by have := HL.out; simp; omega)).put _ (by have := HL.out; simp; omega)).put _ (by have := HL.out; simp; omega)
 ·exact ((((But.refl w gd).setCell _ _).setCell _ _).setCell _ _).setCell _ _
theorem or255 (a b : Nat) (ha : a < 64 ∨ a = 255) (hb : b < 64 ∨ b = 255) : ∃ c : Nat, bits .or .u8 (a : Int) (b : Int) = (c : Int) ∧ (c < 64 ∨ c = 255) ∧ (c = 255 ↔ a = 255 ∨ b = 255) := by
 refine ⟨a ||| b, (bits_nat .u8 8 (by decide) wraps_u8 a b (by omega) (by omega)).2, ?_⟩
 have t1 : ∀ x, x < 256 → 255 ||| x = 255 := by decide +kernel
 have t2 : ∀ x, x < 256 → x ||| 255 = 255 := by decide +kernel
 rcases ha with ha | ha
 ·rcases hb with hb | hb
  ·have : a ||| b < 2 ^ 6 := Nat.or_lt_two_pow (by omega) (by omega)
   exact ⟨.inl (by omega), by constructor <;> intro h <;> omega⟩
  ·subst hb
   rw [t2 a (by omega)]
   exact ⟨.inr rfl, by simp⟩
 ·subst ha
  rw [t1 b (by omega)]
  exact ⟨.inr rfl, by simp⟩
theorem asm32_bad (a b c d : Nat) (ha : a < 64 ∨ a = 255) (hb : b < 64 ∨ b = 255) (hc : c < 64 ∨ c = 255) (hd : d < 64 ∨ d = 255) (h : a = 255 ∨ b = 255 ∨ c = 255 ∨ d = 255) :
  base64_assemble32.f (a : Int) (b : Int) (c : Int) (d : Int) = some (0, false) := by
 obtain ⟨x, hx, hx1, hx2⟩ := or255 a b ha hb
 obtain ⟨y, hy, hy1, hy2⟩ := or255 x c hx1 hc
 obtain ⟨z, hz, hz1, hz2⟩ := or255 y d hy1 hd
 unfold base64_assemble32.f
 rw [hx, hy, hz, if_pos]
 have : z = 255 := by rw [hz2, hy2, hx2]; rcases h with h | h | h | h <;> simp [h]
 omega
theorem asm32_good (a b c d : Nat) (ha : a < 64) (hb : b < 64) (hc : c < 64) (hd : d < 64) :
  base64_assemble32.f (a : Int) (b : Int) (c : Int) (d : Int) = some (((q4 a b c d * 256 : Nat) : Int), true) := by
 obtain ⟨x, hx, hx1, hx2⟩ := or255 a b (.inl ha) (.inl hb)
 obtain ⟨y, hy, hy1, hy2⟩ := or255 x c hx1 (.inl hc)
 obtain ⟨z, hz, hz1, hz2⟩ := or255 y d hy1 (.inl hd)
 unfold base64_assemble32.f
 rw [hx, hy, hz, if_neg (by have : ¬ z = 255 := (by (rw [hz2, hy2, hx2]; omega)); omega)]
 have w : ∀ n : Int, 0 ≤ n → n < 2 ^ 32 → IntKind.u32.wrap n = n := fun n h₀ h₁ => by rw [IntKind.wrap_u32]; omega
 congr 2
 rw [show ((((a : Int) % 4294967296) * 67108864) % 4294967296) = (a : Int) * 67108864 by omega, show ((((b : Int) % 4294967296) * 1048576) % 4294967296) = (b : Int) * 1048576 by omega,
  show ((((c : Int) % 4294967296) * 16384) % 4294967296) = (c : Int) * 16384 by omega, show ((((d : Int) % 4294967296) * 256) % 4294967296) = (d : Int) * 256 by omega]
 rw [bits_join .u32 32 (by decide) w 26 ((a : Int) * 67108864) ((b : Int) * 1048576) (by omega) (by omega) (by omega) (by omega) (by omega) (by omega)]
 rw [bits_join .u32 32 (by decide) w 20 ((a : Int) * 67108864 + (b : Int) * 1048576) ((c : Int) * 16384) (by omega) (by omega) (by omega) (by omega) (by omega) (by omega)]
 rw [bits_join .u32 32 (by decide) w 14 ((a : Int) * 67108864 + (b : Int) * 1048576 + (c : Int) * 16384) ((d : Int) * 256) (by omega) (by omega) (by omega) (by omega) (by omega) (by omega)]
 unfold q4
 omega
theorem asm64_bad (a b c d a' b' c' d' : Nat) (ha : a < 64 ∨ a = 255) (hb : b < 64 ∨ b = 255) (hc : c < 64 ∨ c = 255) (hd : d < 64 ∨ d = 255) (ha' : a' < 64 ∨ a' = 255) (hb' : b' < 64 ∨ b' = 255) (hc' : c' < 64 ∨ c' = 255) (hd' : d' < 64 ∨ d' = 255)
  (h : a = 255 ∨ b = 255 ∨ c = 255 ∨ d = 255 ∨ a' = 255 ∨ b' = 255 ∨ c' = 255 ∨ d' = 255) :
  base64_assemble64.f (a : Int) (b : Int) (c : Int) (d : Int) (a' : Int) (b' : Int) (c' : Int) (d' : Int) = some (0, false) := by
 obtain ⟨x, hx, hx1, hx2⟩ := or255 a b ha hb
 obtain ⟨y, hy, hy1, hy2⟩ := or255 x c hx1 hc
 obtain ⟨z, hz, hz1, hz2⟩ := or255 y d hy1 hd
 obtain ⟨t, ht, ht1, ht2⟩ := or255 z a' hz1 ha'
 obtain ⟨u, hu, hu1, hu2⟩ := or255 t b' ht1 hb'
 obtain ⟨v, hv, hv1, hv2⟩ := or255 u c' hu1 hc'
 obtain ⟨s, hs, hs1, hs2⟩ := or255 v d' hv1 hd'
 unfold base64_assemble64.f
 rw [hx, hy, hz, ht, hu, hv, hs, if_pos]
 have : s = 255 := by rw [hs2, hv2, hu2, ht2, hz2, hy2, hx2]; rcases h with h | h | h | h | h | h | h | h <;> simp [h]
 omega
theorem asm64_good (a b c d a' b' c' d' : Nat) (ha : a < 64) (hb : b < 64) (hc : c < 64) (hd : d < 64) (ha' : a' < 64) (hb' : b' < 64) (hc' : c' < 64) (hd' : d' < 64) :
  base64_assemble64.f (a : Int) (b : Int) (c : Int) (d : Int) (a' : Int) (b' : Int) (c' : Int) (d' : Int) = some ((((q4 a b c d * 16777216 + q4 a' b' c' d') * 65536 : Nat) : Int), true) := by
 obtain ⟨x, hx, hx1, hx2⟩ := or255 a b (.inl ha) (.inl hb)
 obtain ⟨y, hy, hy1, hy2⟩ := or255 x c hx1 (.inl hc)
 obtain ⟨z, hz, hz1, hz2⟩ := or255 y d hy1 (.inl hd)
 obtain ⟨t, ht, ht1, ht2⟩ := or255 z a' hz1 (.inl ha')
 obtain ⟨u, hu, hu1, hu2⟩ := or255 t b' ht1 (.inl hb')
 obtain ⟨v, hv, hv1, hv2⟩ := or255 u c' hu1 (.inl hc')
 obtain ⟨s, hs, hs1, hs2⟩ := or255 v d' hv1 (.inl hd')
 unfold base64_assemble64.f
 rw [hx, hy, hz, ht, hu, hv, hs, if_neg (by have : ¬ s = 255 := (by (rw [hs2, hv2, hu2, ht2, hz2, hy2, hx2]; omega)); omega)]
 have w : ∀ n : Int, 0 ≤ n → n < 2 ^ 64 → IntKind.u64.wrap n = n := fun n h₀ h₁ => IntWalk.u64_in n ⟨h₀, by omega⟩
 congr 2
 rw [w (a : Int) (by omega) (by omega), w (b : Int) (by omega) (by omega), w (c : Int) (by omega) (by omega), w (d : Int) (by omega) (by omega), w (a' : Int) (by omega) (by omega), w (b' : Int) (by omega) (by omega), w (c' : Int) (by omega) (by omega), w (d' : Int) (by omega) (by omega)]
 rw [w ((a : Int) * 288230376151711744) (by omega) (by omega), w ((b : Int) * 4503599627370496) (by omega) (by omega), w ((c : Int) * 70368744177664) (by omega) (by omega), w ((d : Int) * 1099511627776) (by omega) (by omega), w ((a' : Int) * 17179869184) (by omega) (by omega), w ((b' : Int) * 268435456) (by omega) (by omega), w ((c' : Int) * 4194304) (by omega) (by omega), w ((d' : Int) * 65536) (by omega) (by omega)]
 rw [bits_join .u64 64 (by decide) w 58 ((a : Int) * 288230376151711744) ((b : Int) * 4503599627370496) (by omega) (by omega) (by omega) (by omega) (by omega) (by omega)]
 rw [bits_join .u64 64 (by decide) w 52 ((a : Int) * 288230376151711744 + (b : Int) * 4503599627370496) ((c : Int) * 70368744177664) (by omega) (by omega) (by omega) (by omega) (by omega) (by omega)]
 rw [bits_join .u64 64 (by decide) w 46 ((a : Int) * 288230376151711744 + (b : Int) * 4503599627370496 + (c : Int) * 70368744177664) ((d : Int) * 1099511627776) (by omega) (by omega) (by omega) (by omega) (by omega) (by omega)]
 rw [bits_join .u64 64 (by decide) w 40 ((a : Int) * 288230376151711744 + (b : Int) * 4503599627370496 + (c : Int) * 70368744177664 + (d : Int) * 1099511627776) ((a' : Int) * 17179869184) (by omega) (by omega) (by omega) (by omega) (by omega) (by omega)]
 rw [bits_join .u64 64 (by decide) w 34 ((a : Int) * 288230376151711744 + (b : Int) * 4503599627370496 + (c : Int) * 70368744177664 + (d : Int) * 1099511627776 + (a' : Int) * 17179869184) ((b' : Int) * 268435456) (by omega) (by omega) (by omega) (by omega) (by omega) (by omega)]
 rw [bits_join .u64 64 (by decide) w 28 ((a : Int) * 288230376151711744 + (b : Int) * 4503599627370496 + (c : Int) * 70368744177664 + (d : Int) * 1099511627776 + (a' : Int) * 17179869184 + (b' : Int) * 268435456) ((c' : Int) * 4194304) (by omega) (by omega) (by omega) (by omega) (by omega) (by omega)]
 rw [bits_join .u64 64 (by decide) w 22 ((a : Int) * 288230376151711744 + (b : Int) * 4503599627370496 + (c : Int) * 70368744177664 + (d : Int) * 1099511627776 + (a' : Int) * 17179869184 + (b' : Int) * 268435456 + (c' : Int) * 4194304) ((d' : Int) * 65536) (by omega) (by omega) (by omega) (by omega) (by omega) (by omega)]
 unfold q4
 omega
theorem b32_q (n : Nat) (h : n < 16777216) : (b32s (n * 256)).take 3 = byteCells [by0 n, by1 n, by2 n] := by
 unfold b32s byteCells
 simp only [List.take_succ_cons, List.take_zero, List.map_cons, List.map_nil, by0_int, by1_int, by2_int]
 rw [show (((n * 256 : Nat) : Int) / 16777216 % 256) = (n : Int) / 65536 % 256 by omega, show (((n * 256 : Nat) : Int) / 65536 % 256) = (n : Int) / 256 % 256 by omega, show (((n * 256 : Nat) : Int) / 256 % 256) = (n : Int) % 256 by omega]
theorem b64_q (n m : Nat) (h : n < 16777216) (hm : m < 16777216) : (b64s ((n * 16777216 + m) * 65536)).take 6 = byteCells [by0 n, by1 n, by2 n, by0 m, by1 m, by2 m] := by
 unfold b64s byteCells
 simp only [List.take_succ_cons, List.take_zero, List.map_cons, List.map_nil, by0_int, by1_int, by2_int]
 rw [show ((((n * 16777216 + m) * 65536 : Nat) : Int) / 72057594037927936 % 256) = (n : Int) / 65536 % 256 by omega, show ((((n * 16777216 + m) * 65536 : Nat) : Int) / 281474976710656 % 256) = (n : Int) / 256 % 256 by omega,
  show ((((n * 16777216 + m) * 65536 : Nat) : Int) / 1099511627776 % 256) = (n : Int) % 256 by omega, show ((((n * 16777216 + m) * 65536 : Nat) : Int) / 4294967296 % 256) = (m : Int) / 65536 % 256 by omega,
  show ((((n * 16777216 + m) * 65536 : Nat) : Int) / 16777216 % 256) = (m : Int) / 256 % 256 by omega, show ((((n * 16777216 + m) * 65536 : Nat) : Int) / 65536 % 256) = (m : Int) % 256 by omega]
theorem std_fig4 (a b c d : UInt8) (r : List UInt8) (ha : fg a < 64) (hb : fg b < 64) (hc : fg c < 64) (hd : fg d < 64) :
  std (a :: b :: c :: d :: r) = (std r).map ([by0 (q4 (fg a) (fg b) (fg c) (fg d)), by1 (q4 (fg a) (fg b) (fg c) (fg d)), by2 (q4 (fg a) (fg b) (fg c) (fg d))] ++ ·) := by
 rw [std_cons4, if_neg (by omega), if_neg (by omega), if_neg (by omega)]
 rfl
theorem drop_cons4 {l : List UInt8} {p : Nat} {a b c d : UInt8} (ha : l[p]? = some a) (hb : l[p + 1]? = some b) (hc : l[p + 2]? = some c) (hd : l[p + 3]? = some d) : l.drop p = a :: b :: c :: d :: l.drop (p + 4) := by
 have e : ∀ (q : Nat) (x : UInt8), l[q]? = some x → l.drop q = x :: l.drop (q + 1) := fun q x h => by
  obtain ⟨hq, hx⟩ := List.getElem?_eq_some_iff.1 h
  rw [List.drop_eq_getElem_cons hq, hx]
 rw [e p a ha, e (p + 1) b hb, e (p + 2) c hc, e (p + 3) d hd]
theorem q4_lt (a b c d : Nat) (ha : a < 64) (hb : b < 64) (hc : c < 64) (hd : d < 64) : q4 a b c d < 16777216 := by unfold q4; omega
theorem DI.step4 {w0 w wr w' : World} {gd D si n : Nat} {l : List UInt8} {cs : List Value} {acc : List UInt8} (h : DI w0 w wr gd D l si n cs acc) {a b c d : UInt8} (ha : l[si]? = some a) (hb : l[si + 1]? = some b) (hc : l[si + 2]? = some c) (hd : l[si + 3]? = some d)
  (fa : fg a < 64) (fb : fg b < 64) (fc : fg c < 64) (fd : fg d < 64) (hroom : n + 4 ≤ D) (ho : OB w0 w' gd (put cs n (b32s (q4 (fg a) (fg b) (fg c) (fg d) * 256))) 5) (hbut : But wr w' gd) :
  ∃ cs' acc', DI w0 w w' gd D l (si + 4) (n + 3) cs' acc' := by
 have hlen := h.len
 have hs3 : si + 3 < l.length := (List.getElem?_eq_some_iff.1 hd).1
 have hq := q4_lt _ _ _ _ fa fb fc fd
 have h8 : (b32s (q4 (fg a) (fg b) (fg c) (fg d) * 256)).length = 4 := rfl
 refine ⟨_, acc ++ [by0 (q4 (fg a) (fg b) (fg c) (fg d)), by1 (q4 (fg a) (fg b) (fg c) (fg d)), by2 (q4 (fg a) (fg b) (fg c) (fg d))], ho, h.but.trans hbut, ?_, ?_, ?_, ?_, by omega, ?_⟩
 ·rw [put_length _ _ _ (by omega)]; exact hlen
 ·rw [List.length_append, h.alen]; rfl
 ·rw [put_take _ _ _ 3 (by omega) (by omega), b32_q _ hq, h.row]; unfold byteCells; rw [List.map_append]
 ·rw [h.std, drop_cons4 ha hb hc hd, std_fig4 a b c d _ fa fb fc fd]
  cases Nt.std (l.drop (si + 4)) <;> simp
 ·have hat := h.at_.resolve_left (by omega)
  exact .inr ⟨by omega, by omega⟩
theorem DI.step8 {w0 w wr w' : World} {gd D si n : Nat} {l : List UInt8} {cs : List Value} {acc : List UInt8} (h : DI w0 w wr gd D l si n cs acc) {a b c d a' b' c' d' : UInt8} (ha : l[si]? = some a) (hb : l[si + 1]? = some b) (hc : l[si + 2]? = some c) (hd : l[si + 3]? = some d)
  (ha' : l[si + 4]? = some a') (hb' : l[si + 5]? = some b') (hc' : l[si + 6]? = some c') (hd' : l[si + 7]? = some d') (fa : fg a < 64) (fb : fg b < 64) (fc : fg c < 64) (fd : fg d < 64) (fa' : fg a' < 64) (fb' : fg b' < 64) (fc' : fg c' < 64) (fd' : fg d' < 64) (hroom : n + 8 ≤ D)
  (ho : OB w0 w' gd (put cs n (b64s ((q4 (fg a) (fg b) (fg c) (fg d) * 16777216 + q4 (fg a') (fg b') (fg c') (fg d')) * 65536))) 5) (hbut : But wr w' gd) :
  ∃ cs' acc', DI w0 w w' gd D l (si + 8) (n + 6) cs' acc' := by
 have hlen := h.len
 have hs3 : si + 7 < l.length := (List.getElem?_eq_some_iff.1 hd').1
 have hq := q4_lt _ _ _ _ fa fb fc fd
 have hq' := q4_lt _ _ _ _ fa' fb' fc' fd'
 have h8 : (b64s ((q4 (fg a) (fg b) (fg c) (fg d) * 16777216 + q4 (fg a') (fg b') (fg c') (fg d')) * 65536)).length = 8 := rfl
 refine ⟨_, acc ++ [by0 (q4 (fg a) (fg b) (fg c) (fg d)), by1 (q4 (fg a) (fg b) (fg c) (fg d)), by2 (q4 (fg a) (fg b) (fg c) (fg d)), by0 (q4 (fg a') (fg b') (fg c') (fg d')), by1 (q4 (fg a') (fg b') (fg c') (fg d')), by2 (q4 (fg a') (fg b') (fg c') (fg d'))], ho, h.but.trans hbut, ?_, ?_, ?_, ?_, by omega, ?_⟩
 ·rw [put_length _ _ _ (by omega)]; exact hlen
 ·rw [List.length_append, h.alen]; rfl
 ·rw [put_take _ _ _ 6 (by omega) (by omega), b64_q _ _ hq hq', h.row]; unfold byteCells; rw [List.map_append]
 ·rw [h.std, drop_cons4 ha hb hc hd, std_fig4 a b c d _ fa fb fc fd, drop_cons4 ha' hb' hc' hd', std_fig4 a' b' c' d' _ fa' fb' fc' fd']
  cases Nt.std (l.drop (si + 8)) <;> simp
 ·have hat := h.at_.resolve_left (by omega)
  exact .inr ⟨by omega, by omega⟩
def Fast8 (l : List UInt8) (si v : Nat) : Prop := ∃ a b c d a' b' c' d' : UInt8, (l[si]? = some a ∧ l[si + 1]? = some b ∧ l[si + 2]? = some c ∧ l[si + 3]? = some d ∧ l[si + 4]? = some a' ∧ l[si + 5]? = some b' ∧ l[si + 6]? = some c' ∧ l[si + 7]? = some d') ∧
 (fg a < 64 ∧ fg b < 64 ∧ fg c < 64 ∧ fg d < 64 ∧ fg a' < 64 ∧ fg b' < 64 ∧ fg c' < 64 ∧ fg d' < 64) ∧ v = (q4 (fg a) (fg b) (fg c) (fg d) * 16777216 + q4 (fg a') (fg b') (fg c') (fg d')) * 65536
def Fast4 (l : List UInt8) (si v : Nat) : Prop := ∃ a b c d : UInt8, (l[si]? = some a ∧ l[si + 1]? = some b ∧ l[si + 2]? = some c ∧ l[si + 3]? = some d) ∧ (fg a < 64 ∧ fg b < 64 ∧ fg c < 64 ∧ fg d < 64) ∧ v = q4 (fg a) (fg b) (fg c) (fg d) * 256
theorem DI.fast8 {w0 w wr w' : World} {gd D si n v : Nat} {l : List UInt8} {cs : List Value} {acc : List UInt8} (h : DI w0 w wr gd D l si n cs acc) (hf : Fast8 l si v) (hroom : n + 8 ≤ D) (ho : OB w0 w' gd (put cs n (b64s v)) 5) (hbut : But wr w' gd) : ∃ cs' acc', DI w0 w w' gd D l (si + 8) (n + 6) cs' acc' := by
 obtain ⟨a, b, c, d, a', b', c', d', ⟨h1, h2, h3, h4, h5, h6, h7, h8⟩, ⟨f1, f2, f3, f4, f5, f6, f7, f8⟩, rfl⟩ := hf
 exact h.step8 h1 h2 h3 h4 h5 h6 h7 h8 f1 f2 f3 f4 f5 f6 f7 f8 hroom ho hbut
theorem DI.fast4 {w0 w wr w' : World} {gd D si n v : Nat} {l : List UInt8} {cs : List Value} {acc : List UInt8} (h : DI w0 w wr gd D l si n cs acc) (hf : Fast4 l si v) (hroom : n + 4 ≤ D) (ho : OB w0 w' gd (put cs n (b32s v)) 5) (hbut : But wr w' gd) : ∃ cs' acc', DI w0 w w' gd D l (si + 4) (n + 3) cs' acc' := by
 obtain ⟨a, b, c, d, ⟨h1, h2, h3, h4⟩, ⟨f1, f2, f3, f4⟩, rfl⟩ := hf
 exact h.step4 h1 h2 h3 h4 f1 f2 f3 f4 hroom ho hbut
theorem asm8 {l : List UInt8} {si : Nat} {a b c d a' b' c' d' : UInt8} (h1 : l[si]? = some a) (h2 : l[si + 1]? = some b) (h3 : l[si + 2]? = some c) (h4 : l[si + 3]? = some d) (h5 : l[si + 4]? = some a') (h6 : l[si + 5]? = some b') (h7 : l[si + 6]? = some c') (h8 : l[si + 7]? = some d') :
  ∃ (v : Nat) (ok : Bool), base64_assemble64.f (fg a : Int) (fg b : Int) (fg c : Int) (fg d : Int) (fg a' : Int) (fg b' : Int) (fg c' : Int) (fg d' : Int) = some ((v : Int), ok) ∧ (ok = true → Fast8 l si v) := by
 by_cases hall : fg a < 64 ∧ fg b < 64 ∧ fg c < 64 ∧ fg d < 64 ∧ fg a' < 64 ∧ fg b' < 64 ∧ fg c' < 64 ∧ fg d' < 64
 ·have f := hall
  obtain ⟨f1, f2, f3, f4, f5, f6, f7, f8⟩ := f
  exact ⟨_, true, asm64_good _ _ _ _ _ _ _ _ f1 f2 f3 f4 f5 f6 f7 f8, fun _ => ⟨a, b, c, d, a', b', c', d', ⟨h1, h2, h3, h4, h5, h6, h7, h8⟩, hall, rfl⟩⟩
 ·refine ⟨0, false, asm64_bad _ _ _ _ _ _ _ _ (fg_lt a) (fg_lt b) (fg_lt c) (fg_lt d) (fg_lt a') (fg_lt b') (fg_lt c') (fg_lt d') ?_, fun h => by cases h⟩
  apply Classical.byContradiction
  intro hn
  simp only [not_or] at hn
  obtain ⟨n1, n2, n3, n4, n5, n6, n7, n8⟩ := hn
  exact hall ⟨(fg_lt a).resolve_right n1, (fg_lt b).resolve_right n2, (fg_lt c).resolve_right n3, (fg_lt d).resolve_right n4, (fg_lt a').resolve_right n5, (fg_lt b').resolve_right n6, (fg_lt c').resolve_right n7, (fg_lt d').resolve_right n8⟩
theorem asm4 {l : List UInt8} {si : Nat} {a b c d : UInt8} (h1 : l[si]? = some a) (h2 : l[si + 1]? = some b) (h3 : l[si + 2]? = some c) (h4 : l[si + 3]? = some d) :
  ∃ (v : Nat) (ok : Bool), base64_assemble32.f (fg a : Int) (fg b : Int) (fg c : Int) (fg d : Int) = some ((v : Int), ok) ∧ (ok = true → Fast4 l si v) := by
 by_cases hall : fg a < 64 ∧ fg b < 64 ∧ fg c < 64 ∧ fg d < 64
 ·have f := hall
  obtain ⟨f1, f2, f3, f4⟩ := f
  exact ⟨_, true, asm32_good _ _ _ _ f1 f2 f3 f4, fun _ => ⟨a, b, c, d, ⟨h1, h2, h3, h4⟩, hall, rfl⟩⟩
 ·refine ⟨0, false, asm32_bad _ _ _ _ (fg_lt a) (fg_lt b) (fg_lt c) (fg_lt d) ?_, fun h => by cases h⟩
  apply Classical.byContradiction
  intro hn
  simp only [not_or] at hn
  obtain ⟨n1, n2, n3, n4⟩ := hn
  exact hall ⟨(fg_lt a).resolve_right n1, (fg_lt b).resolve_right n2, (fg_lt c).resolve_right n3, (fg_lt d).resolve_right n4⟩
end Go.Proofs.YtkbegfihdpiacaaGreatDoor.PX
