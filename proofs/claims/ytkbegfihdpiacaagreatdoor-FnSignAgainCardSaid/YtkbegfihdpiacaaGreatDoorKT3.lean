/- Part 3 of the proof: what the theorem reaches of the texts KR4. -/
import Derived.Test.YtkbegfihdpiacaaGreatDoorProg
import Derived.WalkKit
import Derived.WalkSpells
import Derived.WalkLawsBesides
import Derived.KernelRfl
import Derived.Lib.Hide
import Derived.Outline
import Derived.Deep.DeepFit
import Derived.Below
import Derived.Deep.Draws
import Derived.Deep.AppendLies
import Derived.Maps.AppendAt
import Derived.OwnWalk
import Derived.Laws.BytesArg
import Derived.Laws.MakeOwn
import Derived.Laws.OwnMore
import Derived.Deep.OwnRows
import Derived.Tactics
import Derived.Lib.ConvBytes
import Derived.Laws.Slices
import Derived.RowKit3
import Derived.Deep.LoopGhost
import Derived.Deep.QuietTactic
import Derived.BigQuiet
import Derived.WideLaws
import Derived.Deep.DeepCutAuto
import Derived.Deep.CutBlock
import Derived.Deep.RegionHeld3
import Derived.Laws.Rows
import Derived.Lib.AppendStr
import Derived.ArgAppend
import Derived.Laws.IdiomCopy
import Derived.OrdersHeld
import Derived.Laws.BitsLemmas
import Derived.RowKit
import Derived.Test.YtkbegfihdpiacaaGreatDoorKT0
import Derived.Test.YtkbegfihdpiacaaGreatDoorKT1
import Derived.Test.YtkbegfihdpiacaaGreatDoorKT2
set_option linter.unusedVariables false
set_option linter.unusedSimpArgs false
namespace Go.Proofs.YtkbegfihdpiacaaGreatDoor.PX
open Go.RowKit Nt Go.Lib
theorem retb {x b : Bool} (h : x = b) : Ending.returned (.bool x) = Ending.returned (.bool b) := by rw [h]
def cellsR (s : ByteArray) (m : Nat) : Array Value := ((runesD s.data.toList).map fun (r : Nat) => Value.int .i32 (r : Int)).toArray ++ Array.replicate m (.int .i32 0)
theorem runes_conv (w : World) (s : ByteArray) (hs : s.size ≤ 2147483647) :
  (convert 9 101 (.string s)).run Tryz.prog w = .ok (.slice (some ⟨w.heap.size, 0, none⟩) (runesD s.data.toList).length (grownCap w (runesD s.data.toList).length 0 21))
   (w.drew.alloc (.cells (cellsR s (grownCap w (runesD s.data.toList).length 0 21 - (runesD s.data.toList).length)) 21)) := by
 have hl := runesD_length s.data.toList
 have hz : s.data.toList.length = s.size := by rw [Array.length_toList]; rfl
 have := run_runes_of_string (P := Tryz.prog) w 9 101 21 s Tryz.underlying9 Tryz.underlying101 Tryz.underlying21 (by rw [runesFrom_top]; simp; omega)
 rw [runesFrom_top] at this
 unfold cellsR
 simpa using this
theorem cell_runes (w : World) (s : ByteArray) (m : Nat) (e : TypeId) (j : Nat) (hj : j < (runesD s.data.toList).length) :
  (w.alloc (.cells (cellsR s m) e)).cell? ((⟨w.heap.size, 0, none⟩ : Addr).add j) = some (.int .i32 (((runesD s.data.toList).map fun (n : Nat) => (n : Int)).getD j 0)) := by
 have hadd : (⟨w.heap.size, 0, none⟩ : Addr).add j = ⟨w.heap.size, j, none⟩ := by unfold Addr.add; split <;> simp_all
 rw [hadd]
 unfold World.cell? World.alloc cellsR
 simp only [Array.getElem?_push_size, Option.isSome_none, Bool.false_eq_true, if_false]
 rw [Array.getElem?_append_left (by simpa using hj)]
 simp [hj, List.getD]
def back (s : ByteArray) : ByteArray := runesBytes ((runesD s.data.toList).map fun (n : Nat) => (n : Int))
theorem back_eq (s : ByteArray) : ((back s).toList == s.toList) = validD s.data.toList := by
 rw [← encs_eq, ← runesBytes_data, ByteArray.toList_eq, ByteArray.toList_eq]
 rfl
theorem conv_back (w : World) (s : ByteArray) (c m : Nat) (e : TypeId) :
  (convert 101 9 (.slice (some ⟨w.heap.size, 0, none⟩) (runesD s.data.toList).length c)).run Tryz.prog (w.alloc (.cells (cellsR s m) e)).drew =
   .ok (.string (back s)) (w.alloc (.cells (cellsR s m) e)).drew := by
 have := run_convert_runes (P := Tryz.prog) (w.alloc (.cells (cellsR s m) e)).drew 101 9 21 ⟨w.heap.size, 0, none⟩ (runesD s.data.toList).length c ((runesD s.data.toList).map fun (n : Nat) => (n : Int)) (by simp) Tryz.underlying101 Tryz.underlying21 Tryz.underlying9
  (fun j hj => cell_runes w s m e j (by simpa using hj))
 rw [this]
 unfold back
 rw [List.take_of_length_le (by simp)]
set_option maxRecDepth 100000 in
theorem utf_any (s : ByteArray) (w : World) (hs : s.size ≤ 2147483647) :
  Calls Tryz.prog 33 #[.string s] w fun e w' => e = .returned (.bool (validD s.data.toList)) ∧ Below w.heap.size w w' := by
 have h1 := fun w => runes_conv w s hs
 have h2 := conv_back
 go_enter Tryz.func33, Tryz.ntmps33
 go_wp2
 go_ret
 refine ⟨retb (back_eq s), ?_⟩
 exact ((Below.refl _ _).alloc (Nat.le_refl _) _).drew
set_option maxRecDepth 100000 in
theorem space_any (r : Nat) (w : World) (hr : r ≤ 1114111) :
  Calls Tryz.prog 36 #[.int .i32 r] w fun e w' => e = .returned (.bool (isSpaceR r)) ∧ w = w' := by
 have e1 := isSpaceR_iff r
 unfold IsSpaceP at e1
 obtain ⟨b, hb⟩ : ∃ b, b = isSpaceR r := ⟨_, rfl⟩
 rw [← hb] at e1 ⊢
 have H := Lib.hid e1
 clear e1 hb
 go_enter Tryz.func36, Tryz.ntmps36
 go_wp2
 all_goals
  have h := H.out
  go_ret
  refine ⟨retb (Bool.eq_iff_iff.2 ?_), rfl⟩
  rw [h]
  simp only [beq_iff_eq, bne_iff_ne, beq_eq_false_iff_ne, Bool.or_eq_true, decide_eq_true_eq, true_iff] at *
  omega
theorem name_bad {l : List UInt8} {r : Nat} (h : r ∈ runesD l) (hr : (isSpaceR r || r == 43) = true) : nameD l = false := by
 unfold nameD
 rw [Bool.and_eq_false_iff]
 exact .inl (List.all_eq_false.2 ⟨r, h, by rw [hr]; simp⟩)
theorem name_good {l : List UInt8} (h : (runesD l).all (fun r => !(isSpaceR r || r == 43)) = true) : nameD l = (!l.isEmpty && validD l) := by
 unfold nameD
 rw [h, Bool.true_and]
theorem cellsR_at (s : ByteArray) (m k : Nat) (h : k < (runesD s.data.toList).length) : (cellsR s m)[k]? = some (.int .i32 (((runesD s.data.toList)[k] : Nat) : Int)) := by
 unfold cellsR
 rw [Array.getElem?_append_left (by simpa using h)]
 simp [h]
def okr (r : Nat) : Bool := !(isSpaceR r || r == 43)
set_option maxRecDepth 100000 in
theorem name_any (s : ByteArray) (w : World) (hs : s.size ≤ 2147483647) :
  Calls Tryz.prog 23 #[.string s] w fun e w' => e = .returned (.bool (nameD s.data.toList)) ∧ Below w.heap.size w w' := by
 have h1 := fun w => runes_conv w s hs
 have hl := runesD_length s.data.toList
 have hz : s.data.toList.length = s.size := by rw [Array.length_toList]; rfl
 have hn : (runesD s.data.toList).length ≤ 2147483647 := by omega
 have hle := runesN_le s.data.toList.length s.data.toList
 have HL := Lib.hid hle
 clear hl hz hle
 go_enter Tryz.func23, Tryz.ntmps23
 go_wp2
 go_loop [8] (fun i => ∃ k : Nat, k ≤ (runesD s.data.toList).length ∧ i = .int .i64 k ∧ ((runesD s.data.toList).take k).all okr = true) (fun i => (runesD s.data.toList).length - (intOf i).toNat)
 case atStart => exact ⟨0, Nat.zero_le _, rfl, by simp⟩
 case round =>
  obtain ⟨k, hk, rfl, hall⟩ := hrel
  have HA := Lib.hid hall
  clear hall
  by_cases hlt : k < (runesD s.data.toList).length
  ·obtain ⟨r, hr⟩ : ∃ r, (runesD s.data.toList)[k] = r := ⟨_, rfl⟩
   have hc := cellsR_at s (grownCap w (runesD s.data.toList).length 0 21 - (runesD s.data.toList).length) k hlt
   rw [hr] at hc
   have hrl : r ≤ 1114111 := HL.out r (by rw [← hr]; exact List.getElem_mem _)
   have HT : Hid ((runesD s.data.toList).take (k + 1) = (runesD s.data.toList).take k ++ [r]) := Lib.hid (by rw [List.take_succ_eq_append_getElem hlt, hr])
   have HR := Lib.hid hr
   clear hr
   obtain ⟨b1, hb1⟩ : ∃ b1, isSpaceR r = b1 := ⟨_, rfl⟩
   have sp := fun w => space_any r w hrl
   rw [hb1] at sp
   have HB := Lib.hid hb1
   clear hb1
   have hmem : r ∈ runesD s.data.toList := by rw [← HR.out]; exact List.getElem_mem _
   have HM := Lib.hid hmem
   clear hmem
   cases b1 with
   | true =>
    go_wp2_with (go_at_call 36; refine (sp _).mono ?_; rintro e w' ⟨rfl, rfl⟩)
    go_ret
    exact ⟨retb (name_bad HM.out (by rw [HB.out]; rfl)).symm, ((Below.refl _ _).alloc (Nat.le_refl _) _).drew⟩
   | false =>
    by_cases h43 : r = 43
    ·subst h43
     go_wp2_with (go_at_call 36; refine (sp _).mono ?_; rintro e w' ⟨rfl, rfl⟩)
     go_ret
     exact ⟨retb (name_bad HM.out (by simp)).symm, ((Below.refl _ _).alloc (Nat.le_refl _) _).drew⟩
    ·have h43b : ((r : Int) == 43) = false := beq_eq_false_iff_ne.2 (by omega)
     go_wp2_with (go_at_call 36; refine (sp _).mono ?_; rintro e w' ⟨rfl, rfl⟩)
     go_round
     case rel => exact ⟨k + 1, by omega, by go_num, by rw [HT.out, List.all_append, HA.out]; simp [okr, HB.out, h43]⟩
     case measure => simp [intOf]; omega
  ·have hk' : k = (runesD s.data.toList).length := by omega
   have hg : (runesD s.data.toList).all (fun r => !(isSpaceR r || r == 43)) = true := by
    have := HA.out
    rw [hk', List.take_length] at this
    exact this
   have HG := Lib.hid (name_good hg)
   clear hg hk'
   have hlt' : (runesD s.data.toList).length ≤ k := by omega
   cases he : s.toList with
   | nil =>
    have h0 : s.toList.isEmpty = true := by rw [he]; rfl
    have h0' : s.data.toList.isEmpty = true := by rw [← ByteArray.toList_eq]; exact h0
    have HE := Lib.hid h0'
    clear h0'
    go_wp2
    go_ret
    exact ⟨retb (by rw [HG.out, HE.out]; rfl), ((Below.refl _ _).alloc (Nat.le_refl _) _).drew⟩
   | cons x xs =>
    have h0 : s.toList.isEmpty = false := by rw [he]; rfl
    have h0' : s.data.toList.isEmpty = false := by rw [← ByteArray.toList_eq]; exact h0
    have HE := Lib.hid h0'
    clear h0' he
    go_wp2_with (go_at_call 33; refine (utf_any s _ hs).mono ?_; rintro e w' ⟨rfl, hb⟩)
    go_ret
    refine ⟨retb (by rw [HG.out, HE.out]; rfl), ?_⟩
    exact (((Below.refl _ _).alloc (Nat.le_refl _) _).drew).trans (hb.mono (by simp))
def spec_Utf.f (a0 : ByteArray) : Option Bool := if a0.size ≤ 2147483647 then some (validD a0.data.toList) else none
theorem spec_Utf.calls (a0 : ByteArray) (r : Bool) (w : World) (h : spec_Utf.f a0 = some r) :
  Calls Tryz.prog 33 #[.string a0] w fun e w' => e = .returned (.bool r) ∧ Below w.heap.size w w' := by
 unfold spec_Utf.f at h
 split at h
 ·obtain rfl := Option.some.inj h
  exact utf_any a0 w (by assumption)
 ·cases h
def spec_Name.f (a0 : ByteArray) : Option Bool := if a0.size ≤ 2147483647 then some (nameD a0.data.toList) else none
end Go.Proofs.YtkbegfihdpiacaaGreatDoor.PX
namespace Go.Proofs.YtkbegfihdpiacaaGreatDoor.PY
open Go.RowKit Go.Proofs.YtkbegfihdpiacaaGreatDoorW.PrintWords Go.Proofs.YtkbegfihdpiacaaGreatDoorW.PrintLast Go.Proofs.YtkbegfihdpiacaaGreatDoorW.PrintMore
attribute [local go_sem] max2_int min2_int max_two min_two max_three min_three max_four min_four   -- for this text's walks alone
def errW : Option Int → Value
 | none => .nilIface
 | some c => .iface 0 (.int .i64 c)
theorem errW_none : errW none = .nilIface := rfl
theorem errW_some (c : Int) : errW (some c) = .iface 0 (.int .i64 c) := rfl
theorem info5 : (Tryz.prog.info? 5).map (fun i => (i.zero, i.size, i.bytes)) = some (some (.int .u8 0), 1, 1) := by kernel_rfl
end Go.Proofs.YtkbegfihdpiacaaGreatDoor.PY
namespace Go.Proofs.YtkbegfihdpiacaaGreatDoor.PY
open Go.RowKit Go.Proofs.YtkbegfihdpiacaaGreatDoorW.PrintWords Go.Proofs.YtkbegfihdpiacaaGreatDoorW.PrintLast Go.Proofs.YtkbegfihdpiacaaGreatDoorW.PrintMore
attribute [local go_sem] max2_int min2_int max_two min_two max_three min_three max_four min_four   -- for this text's walks alone
def bytealg_LastIndexByte.l0 : Nat → List Int → Int → Int → Option (Int)
 | 0, _, _, _ => none
 | k + 1, x0, x1, x5 => if x5 ≥ 0 then (if 0 ≤ x5 then (if x5 < (x0.length : Int) then (if (rd x0 x5) = x1 then (some x5) else (bytealg_LastIndexByte.l0 k x0 x1 (wrap64 (x5 - 1)))) else (none)) else (none)) else (some (-1))
def bytealg_LastIndexByte.f (k : Nat) (l0 : List Int) (a1 : Int) : Option (Int) := bytealg_LastIndexByte.l0 k l0 a1 (wrap64 ((l0.length : Int) - 1))
theorem bytealg_LastIndexByte.mono_l : ∀ k, (∀ y0 y1 y2, LeO (bytealg_LastIndexByte.l0 k y0 y1 y2) (bytealg_LastIndexByte.l0 (k + 1) y0 y1 y2))
 | 0 => fun _ _ _ r h => by simp [bytealg_LastIndexByte.l0] at h
 | k + 1 => by
  have ih0 := bytealg_LastIndexByte.mono_l k
  ·intro y0 y1 y2
   unfold bytealg_LastIndexByte.l0
   repeat' first
   | (with_reducible exact ih0 _ _ _)
   | (with_reducible exact LeO.refl _)
   | (with_reducible exact LeO.none _)
   | (with_reducible refine LeO.ite ?_ ?_)
   | (with_reducible refine LeO.bind ?_ (fun _ => ?_))
   | exact ih0 _ _ _
   | exact LeO.none _
   | refine LeO.ite ?_ ?_
   | refine LeO.bind ?_ (fun _ => ?_)
theorem bytealg_LastIndexByte.mono : ∀ a0 a1 k, LeO (bytealg_LastIndexByte.f k a0 a1) (bytealg_LastIndexByte.f (k + 1) a0 a1) := by
 intro a0 a1 k
 have ih0 := bytealg_LastIndexByte.mono_l k
 unfold bytealg_LastIndexByte.f
 repeat' first
   | (with_reducible exact ih0 _ _ _)
   | (with_reducible exact LeO.refl _)
   | (with_reducible exact LeO.none _)
   | (with_reducible refine LeO.ite ?_ ?_)
   | (with_reducible refine LeO.bind ?_ (fun _ => ?_))
   | exact ih0 _ _ _
   | exact LeO.none _
   | refine LeO.ite ?_ ?_
   | refine LeO.bind ?_ (fun _ => ?_)
set_option maxHeartbeats 8000000 in
set_option maxRecDepth 100000 in
theorem bytealg_LastIndexByte.calls (k : Nat) (A0 : Option Addr) (c0 : Nat) (l0 : List Int) (a1 : Int) (r : Int) (w : World) (hr0 : Kd.C (Kd.int .u8) w A0 l0.length l0) (hc0 : l0.length ≤ c0) (h : bytealg_LastIndexByte.f k l0 a1 = some r) :
  Calls Tryz.prog 55 #[.slice A0 l0.length c0, .int .u8 a1] w fun e w' => e = .returned (.int .i64 r) ∧ Drawn0 w w' := by
 have HR0 := Aside0.mk hr0
 have HC0 := Aside0.mk hc0
 clear hr0 hc0
 have H : (bytealg_LastIndexByte.l0 k l0 a1 (wrap64 ((l0.length : Int) - 1))) = some r := h
 clear h
 have H' := Aside0.mk H
 clear H
 go_enter Tryz.func55, Tryz.ntmps55
 go_wp2
 go_loopg [5] k (fun kq v5 w' => ∃ (x5_1 : Int), v5 = .int .i64 x5_1 ∧ Aside0 (bytealg_LastIndexByte.l0 kq l0 a1 x5_1 = some r) ∧ Aside0 (kq ≤ k) ∧ Drawn0 w w')
 case atStart => exact ⟨(wrap64 ((l0.length : Int) - 1)), (by first | rfl | (simp; done) | (simp [*]; done)), H', ⟨Nat.le_refl _⟩, by repeat (first | exact Drawn0.refl _ | apply Drawn0.step)⟩
 case round =>
  clear H'
  try clear p2
  obtain ⟨x5_1, rfl, HA, HK1, ⟨m1, rfl⟩⟩ := hrel
  cases gk with
  | zero => exact absurd HA.out (by simp [bytealg_LastIndexByte.l0])
  | succ k1 =>
   have H := HA.out
   clear HA
   simp only [bytealg_LastIndexByte.l0] at H
   by_cases c3 : x5_1 ≥ 0
   ·rw [if_pos c3] at H
    have c3b0 : decide (0 ≤ x5_1) = true := decide_eq_true c3
    clear c3
    by_cases c4 : 0 ≤ x5_1
    ·rw [if_pos c4] at H
     have c4b0 : decide (0 ≤ x5_1) = true := decide_eq_true c4
     clear c4
     by_cases c5 : x5_1 < (l0.length : Int)
     ·rw [if_pos c5] at H
      have c5b0 : decide (x5_1 < (l0.length : Int)) = true := decide_eq_true c5
      clear c5
      by_cases c6 : (rd l0 x5_1) = a1
      ·rw [if_pos c6] at H
       have c6b0 : ((rd l0 x5_1) == a1) = true := beq_iff_eq.mpr c6
       have c6b1 : ((rd l0 x5_1) != a1) = false := bne_eq_false_iff_eq.mpr c6
       clear c6
       obtain rfl := Option.some.inj H
       have p101 : 0 ≤ (x5_1 : Int) := of_decide_eq_true (by first | (with_reducible assumption) | assumption)
       have q101 : x5_1 < (l0.length : Int) := of_decide_eq_true (by first | (with_reducible assumption) | assumption)
       obtain ⟨ad101, e101, hx101_0⟩ := Kd.at_int HR0.out x5_1 p101 q101
       cases e101
       replace p101 := eq_true p101
       replace q101 := eq_true q101
       go_wp2
       go_ret
       exact ⟨by first | rfl | (simp; done) | (simp [*]; done), by repeat (first | exact Drawn0.refl _ | apply Drawn0.step)⟩
      ·rw [if_neg c6] at H
       have c6b0 : ((rd l0 x5_1) == a1) = false := beq_eq_false_iff_ne.mpr c6
       have c6b1 : ((rd l0 x5_1) != a1) = true := bne_iff_ne.mpr c6
       have H' := Aside0.mk H
       clear H
       have p101 : 0 ≤ (x5_1 : Int) := of_decide_eq_true (by first | (with_reducible assumption) | assumption)
       have q101 : x5_1 < (l0.length : Int) := of_decide_eq_true (by first | (with_reducible assumption) | assumption)
       obtain ⟨ad101, e101, hx101_0⟩ := Kd.at_int HR0.out x5_1 p101 q101
       cases e101
       replace p101 := eq_true p101
       replace q101 := eq_true q101
       go_wp2
       go_roundg k1
       case measure => have := HK1.out; omega
       case rel => exact ⟨(wrap64 (x5_1 - 1)), (by first | rfl | (simp; done) | (simp [*]; done)), H', ⟨by have := HK1.out; omega⟩, by repeat (first | exact Drawn0.refl _ | apply Drawn0.step)⟩
     ·rw [if_neg c5] at H
      exact absurd H (by simp)
    ·rw [if_neg c4] at H
     exact absurd H (by simp)
   ·rw [if_neg c3] at H
    have c3b0 : decide (0 ≤ x5_1) = false := decide_eq_false c3
    clear c3
    obtain rfl := Option.some.inj H
    go_wp2
    go_ret
    exact ⟨by first | rfl | (simp; done) | (simp [*]; done), by repeat (first | exact Drawn0.refl _ | apply Drawn0.step)⟩
def bytes_Equal.f (l0 : List Int) (l1 : List Int) : Option (Bool) := some ((strOfNums l0).toList == (strOfNums l1).toList)
set_option maxHeartbeats 8000000 in
set_option maxRecDepth 100000 in
theorem bytes_Equal.calls (A0 : Option Addr) (c0 : Nat) (l0 : List Int) (A1 : Option Addr) (c1 : Nat) (l1 : List Int) (r : Bool) (w : World) (hr0 : Kd.C (Kd.int .u8) w A0 l0.length l0) (hc0 : l0.length ≤ c0) (hr1 : Kd.C (Kd.int .u8) w A1 l1.length l1) (hc1 : l1.length ≤ c1) (h : bytes_Equal.f l0 l1 = some r) :
  Calls Tryz.prog 56 #[.slice A0 l0.length c0, .slice A1 l1.length c1] w fun e w' => e = .returned (.bool r) ∧ Drawn0 w w' := by
 have HR0 := Aside0.mk hr0
 have HC0 := Aside0.mk hc0
 clear hr0 hc0
 have HR1 := Aside0.mk hr1
 have HC1 := Aside0.mk hc1
 clear hr1 hc1
 have H : (some ((strOfNums l0).toList == (strOfNums l1).toList)) = some r := h
 clear h
 obtain rfl := Option.some.inj H
 have hcv3 := Kd.C_string (P := Tryz.prog) (A := A0) (c := c0) Tryz.underlying72 Tryz.underlying5 Tryz.underlying9 HR0.out
 have hcv4 := Kd.C_string (P := Tryz.prog) (A := A1) (c := c1) Tryz.underlying72 Tryz.underlying5 Tryz.underlying9 HR1.out
 go_enter Tryz.func56, Tryz.ntmps56
 go_wp2
 go_ret
 exact ⟨by first | rfl | (simp; done) | (simp [*]; done), by repeat (first | exact Drawn0.refl _ | apply Drawn0.step)⟩
mutual
def bytealg_hashStrRev_byte.l0 : Nat → List Int → Int → Int → Option (Int × Int)
 | 0, _, _, _ => none
 | k + 1, x0, x4, x5 => if x5 ≥ 0 then (if 0 ≤ x5 then (if x5 < (x0.length : Int) then (bytealg_hashStrRev_byte.l0 k x0 ((((x4 * 16777619) % 4294967296) + ((rd x0 x5) % 4294967296)) % 4294967296) (wrap64 (x5 - 1))) else (none)) else (none)) else (bytealg_hashStrRev_byte.l1 k x4 1 16777619 (x0.length : Int))
def bytealg_hashStrRev_byte.l1 : Nat → Int → Int → Int → Int → Option (Int × Int)
 | 0, _, _, _, _ => none
 | k + 1, x4, x6, x7, x8 => if x8 > 0 then (if (Go.bits .and .i64 x8 1) = 0 then (bytealg_hashStrRev_byte.l1 k x4 x6 ((x7 * x7) % 4294967296) (x8 / 2)) else (bytealg_hashStrRev_byte.l1 k x4 ((x6 * x7) % 4294967296) ((x7 * x7) % 4294967296) (x8 / 2))) else (some (x4, x6))
end
def bytealg_hashStrRev_byte.f (k : Nat) (l0 : List Int) : Option (Int × Int) := bytealg_hashStrRev_byte.l0 k l0 0 (wrap64 ((l0.length : Int) - 1))
theorem bytealg_hashStrRev_byte.mono_l : ∀ k, (∀ y0 y1 y2, LeO (bytealg_hashStrRev_byte.l0 k y0 y1 y2) (bytealg_hashStrRev_byte.l0 (k + 1) y0 y1 y2)) ∧ (∀ y0 y1 y2 y3, LeO (bytealg_hashStrRev_byte.l1 k y0 y1 y2 y3) (bytealg_hashStrRev_byte.l1 (k + 1) y0 y1 y2 y3))
 | 0 => ⟨fun _ _ _ r h => by simp [bytealg_hashStrRev_byte.l0] at h, fun _ _ _ _ r h => by simp [bytealg_hashStrRev_byte.l1] at h⟩
 | k + 1 => by
  obtain ⟨ih0, ih1⟩ := bytealg_hashStrRev_byte.mono_l k
  refine ⟨?_, ?_⟩
  ·intro y0 y1 y2
   unfold bytealg_hashStrRev_byte.l0
   repeat' first
   | (with_reducible exact ih0 _ _ _)
   | (with_reducible exact ih1 _ _ _ _)
   | (with_reducible exact LeO.refl _)
   | (with_reducible exact LeO.none _)
   | (with_reducible refine LeO.ite ?_ ?_)
   | (with_reducible refine LeO.bind ?_ (fun _ => ?_))
   | exact ih0 _ _ _
   | exact ih1 _ _ _ _
   | exact LeO.none _
   | refine LeO.ite ?_ ?_
   | refine LeO.bind ?_ (fun _ => ?_)
  ·intro y0 y1 y2 y3
   unfold bytealg_hashStrRev_byte.l1
   repeat' first
   | (with_reducible exact ih0 _ _ _)
   | (with_reducible exact ih1 _ _ _ _)
   | (with_reducible exact LeO.refl _)
   | (with_reducible exact LeO.none _)
   | (with_reducible refine LeO.ite ?_ ?_)
   | (with_reducible refine LeO.bind ?_ (fun _ => ?_))
   | exact ih0 _ _ _
   | exact ih1 _ _ _ _
   | exact LeO.none _
   | refine LeO.ite ?_ ?_
   | refine LeO.bind ?_ (fun _ => ?_)
theorem bytealg_hashStrRev_byte.mono : ∀ a0 k, LeO (bytealg_hashStrRev_byte.f k a0) (bytealg_hashStrRev_byte.f (k + 1) a0) := by
 intro a0 k
 obtain ⟨ih0, ih1⟩ := bytealg_hashStrRev_byte.mono_l k
 unfold bytealg_hashStrRev_byte.f
 repeat' first
   | (with_reducible exact ih0 _ _ _)
   | (with_reducible exact ih1 _ _ _ _)
   | (with_reducible exact LeO.refl _)
   | (with_reducible exact LeO.none _)
   | (with_reducible refine LeO.ite ?_ ?_)
   | (with_reducible refine LeO.bind ?_ (fun _ => ?_))
   | exact ih0 _ _ _
   | exact ih1 _ _ _ _
   | exact LeO.none _
   | refine LeO.ite ?_ ?_
   | refine LeO.bind ?_ (fun _ => ?_)
set_option maxHeartbeats 8000000 in
set_option maxRecDepth 100000 in
theorem bytealg_hashStrRev_byte.calls (k : Nat) (A0 : Option Addr) (c0 : Nat) (l0 : List Int) (r1 : Int) (r2 : Int) (w : World) (hr0 : Kd.C (Kd.int .u8) w A0 l0.length l0) (hc0 : l0.length ≤ c0) (h : bytealg_hashStrRev_byte.f k l0 = some (r1, r2)) :
  Calls Tryz.prog 72 #[.slice A0 l0.length c0] w fun e w' => e = .returned (.tuple #[.int .u32 r1, .int .u32 r2]) ∧ Drawn0 w w' := by
 have HR0 := Aside0.mk hr0
 have HC0 := Aside0.mk hc0
 clear hr0 hc0
 have H : (bytealg_hashStrRev_byte.l0 k l0 0 (wrap64 ((l0.length : Int) - 1))) = some (r1, r2) := h
 clear h
 have H' := Aside0.mk H
 clear H
 go_enter Tryz.func72, Tryz.ntmps72
 go_wp2
 go_loopg [4, 5] k (fun kq v4 v5 w' => ∃ (x4_1 : Int) (x5_1 : Int), v4 = .int .u32 x4_1 ∧ v5 = .int .i64 x5_1 ∧ Aside0 (bytealg_hashStrRev_byte.l0 kq l0 x4_1 x5_1 = some (r1, r2)) ∧ Aside0 (kq ≤ k) ∧ Drawn0 w w')
 case atStart => exact ⟨(0), (wrap64 ((l0.length : Int) - 1)), (by first | rfl | (simp; done) | (simp [*]; done)), (by first | rfl | (simp; done) | (simp [*]; done)), H', ⟨Nat.le_refl _⟩, by repeat (first | exact Drawn0.refl _ | apply Drawn0.step)⟩
 case round =>
  clear H'
  obtain ⟨x4_1, x5_1, rfl, rfl, HA, HK1, ⟨m1, rfl⟩⟩ := hrel
  cases gk with
  | zero => exact absurd HA.out (by simp [bytealg_hashStrRev_byte.l0])
  | succ k1 =>
   have H := HA.out
   clear HA
   simp only [bytealg_hashStrRev_byte.l0] at H
   by_cases c2 : x5_1 ≥ 0
   ·rw [if_pos c2] at H
    have c2b0 : decide (0 ≤ x5_1) = true := decide_eq_true c2
    clear c2
    by_cases c3 : 0 ≤ x5_1
    ·rw [if_pos c3] at H
     have c3b0 : decide (0 ≤ x5_1) = true := decide_eq_true c3
     clear c3
     by_cases c4 : x5_1 < (l0.length : Int)
     ·rw [if_pos c4] at H
      have c4b0 : decide (x5_1 < (l0.length : Int)) = true := decide_eq_true c4
      clear c4
      have H' := Aside0.mk H
      clear H
      have p102 : 0 ≤ (x5_1 : Int) := of_decide_eq_true (by first | (with_reducible assumption) | assumption)
      have q102 : x5_1 < (l0.length : Int) := of_decide_eq_true (by first | (with_reducible assumption) | assumption)
      obtain ⟨ad102, e102, hx102_0⟩ := Kd.at_int HR0.out x5_1 p102 q102
      cases e102
      replace p102 := eq_true p102
      replace q102 := eq_true q102
      go_wp2
      go_roundg k1
      case measure => have := HK1.out; omega
      case rel => exact ⟨((((x4_1 * 16777619) % 4294967296) + ((rd l0 x5_1) % 4294967296)) % 4294967296), (wrap64 (x5_1 - 1)), (by first | rfl | (simp; done) | (simp [*]; done)), (by first | rfl | (simp; done) | (simp [*]; done)), H', ⟨by have := HK1.out; omega⟩, by repeat (first | exact Drawn0.refl _ | apply Drawn0.step)⟩
     ·rw [if_neg c4] at H
      exact absurd H (by simp)
    ·rw [if_neg c3] at H
     exact absurd H (by simp)
   ·rw [if_neg c2] at H
    have c2b0 : decide (0 ≤ x5_1) = false := decide_eq_false c2
    clear c2
    have H' := Aside0.mk H
    clear H
    go_wp2
    go_loopg [6, 7, 8] k1 (fun kq v6 v7 v8 w' => ∃ (x6_2 : Int) (x7_2 : Int) (x8_2 : Int), v6 = .int .u32 x6_2 ∧ v7 = .int .u32 x7_2 ∧ v8 = .int .i64 x8_2 ∧ Aside0 (bytealg_hashStrRev_byte.l1 kq x4_1 x6_2 x7_2 x8_2 = some (r1, r2)) ∧ Aside0 (kq ≤ k1) ∧ Drawn0 w w')
    case atStart => exact ⟨(1), (16777619), ((l0.length : Int)), (by first | rfl | (simp; done) | (simp [*]; done)), (by first | rfl | (simp; done) | (simp [*]; done)), (by first | rfl | (simp; done) | (simp [*]; done)), H', ⟨Nat.le_refl _⟩, by repeat (first | exact Drawn0.refl _ | apply Drawn0.step)⟩
    case round =>
     clear H'
     try clear p1
     try clear q1
     try clear hx1
     try clear c2
     try clear c2b0
     try clear p2
     try clear c3
     try clear c3b0
     try clear c4
     try clear c4b0
     try clear hx102_0
     try clear p102
     try clear q102
     obtain ⟨x6_2, x7_2, x8_2, rfl, rfl, rfl, HA, HK2, ⟨m2, rfl⟩⟩ := hrel
     cases gk with
     | zero => exact absurd HA.out (by simp [bytealg_hashStrRev_byte.l1])
     | succ k2 =>
      have H := HA.out
      clear HA
      simp only [bytealg_hashStrRev_byte.l1] at H
      by_cases c5 : x8_2 > 0
      ·rw [if_pos c5] at H
       have c5b0 : decide (0 < x8_2) = true := decide_eq_true c5
       clear c5
       by_cases c6 : (Go.bits .and .i64 x8_2 1) = 0
       ·rw [if_pos c6] at H
        have c6b0 : ((Go.bits .and .i64 x8_2 1) == 0) = true := beq_iff_eq.mpr c6
        have c6b1 : ((Go.bits .and .i64 x8_2 1) != 0) = false := bne_eq_false_iff_eq.mpr c6
        clear c6
        have H' := Aside0.mk H
        clear H
        go_wp2
        go_roundg k2
        case measure => have := HK1.out; have := HK2.out; omega
        case rel => exact ⟨(x6_2), ((x7_2 * x7_2) % 4294967296), (x8_2 / 2), (by first | rfl | (simp; done) | (simp [*]; done)), (by first | rfl | (simp; done) | (simp [*]; done)), (by first | rfl | (simp; done) | (simp [*]; done)), H', ⟨by have := HK1.out; have := HK2.out; omega⟩, by repeat (first | exact Drawn0.refl _ | apply Drawn0.step)⟩
       ·rw [if_neg c6] at H
        have c6b0 : ((Go.bits .and .i64 x8_2 1) == 0) = false := beq_eq_false_iff_ne.mpr c6
        have c6b1 : ((Go.bits .and .i64 x8_2 1) != 0) = true := bne_iff_ne.mpr c6
        have H' := Aside0.mk H
        clear H
        go_wp2
        go_roundg k2
        case measure => have := HK1.out; have := HK2.out; omega
        case rel => exact ⟨((x6_2 * x7_2) % 4294967296), ((x7_2 * x7_2) % 4294967296), (x8_2 / 2), (by first | rfl | (simp; done) | (simp [*]; done)), (by first | rfl | (simp; done) | (simp [*]; done)), (by first | rfl | (simp; done) | (simp [*]; done)), H', ⟨by have := HK1.out; have := HK2.out; omega⟩, by repeat (first | exact Drawn0.refl _ | apply Drawn0.step)⟩
      ·rw [if_neg c5] at H
       have c5b0 : decide (0 < x8_2) = false := decide_eq_false c5
       clear c5
       simp only [Option.some.injEq, Prod.mk.injEq] at H
       obtain ⟨rfl, rfl⟩ := H
       go_wp2
       go_ret2
       exact ⟨by first | rfl | (simp; done) | (simp [*]; done), by repeat (first | exact Drawn0.refl _ | apply Drawn0.step)⟩
mutual
def bytealg_LastIndexRabinKarp_byte.l0 : Nat → List Int → List Int → Int → Int → Int → Int → Int → Int → Option (Int)
 | 0, _, _, _, _, _, _, _, _ => none
 | k + 1, x0, x1, x5, x6, x7, x8, x9, x10 => if x10 ≥ x8 then (if 0 ≤ x10 then (if x10 < (x0.length : Int) then (bytealg_LastIndexRabinKarp_byte.l0 k x0 x1 x5 x6 x7 x8 ((((x9 * 16777619) % 4294967296) + ((rd x0 x10) % 4294967296)) % 4294967296) (wrap64 (x10 - 1))) else (none)) else (none)) else (if x9 = x5 then (if 0 ≤ x8 then (if x8 ≤ (x0.length : Int) then (bytealg_LastIndexRabinKarp_byte.j1 k x0 x1 x5 x6 x7 x8 x9 ((strOfNums (x0.drop (x8 : Int).toNat)).toList == (strOfNums x1).toList)) else (none)) else (none)) else (bytealg_LastIndexRabinKarp_byte.j1 k x0 x1 x5 x6 x7 x8 x9 false))
def bytealg_LastIndexRabinKarp_byte.j1 : Nat → List Int → List Int → Int → Int → Int → Int → Int → Bool → Option (Int)
 | 0, _, _, _, _, _, _, _, _ => none
 | k + 1, x0, x1, x5, x6, x7, x8, x9, x50 => if x50 = true then (some x8) else (bytealg_LastIndexRabinKarp_byte.l1 k x0 x1 x5 x6 x7 x9 (wrap64 (x8 - 1)))
def bytealg_LastIndexRabinKarp_byte.l1 : Nat → List Int → List Int → Int → Int → Int → Int → Int → Option (Int)
 | 0, _, _, _, _, _, _, _ => none
 | k + 1, x0, x1, x5, x6, x7, x9, x11 => if x11 ≥ 0 then (if 0 ≤ x11 then (if x11 < (x0.length : Int) then (if 0 ≤ (wrap64 (x11 + x7)) then (if (wrap64 (x11 + x7)) < (x0.length : Int) then (if ((((((x9 * 16777619) % 4294967296) + ((rd x0 x11) % 4294967296)) % 4294967296) - ((x6 * ((rd x0 (wrap64 (x11 + x7))) % 4294967296)) % 4294967296)) % 4294967296) = x5 then (if x11 ≤ (wrap64 (x11 + x7)) then (if (wrap64 (x11 + x7)) ≤ (x0.length : Int) then (if (strOfNums ((x0.take ((wrap64 (x11 + x7)) : Int).toNat).drop (x11 : Int).toNat)).toList = (strOfNums x1).toList then (some x11) else (bytealg_LastIndexRabinKarp_byte.l1 k x0 x1 x5 x6 x7 ((((((x9 * 16777619) % 4294967296) + ((rd x0 x11) % 4294967296)) % 4294967296) - ((x6 * ((rd x0 (wrap64 (x11 + x7))) % 4294967296)) % 4294967296)) % 4294967296) (wrap64 (x11 - 1)))) else (none)) else (none)) else (bytealg_LastIndexRabinKarp_byte.l1 k x0 x1 x5 x6 x7 ((((((x9 * 16777619) % 4294967296) + ((rd x0 x11) % 4294967296)) % 4294967296) - ((x6 * ((rd x0 (wrap64 (x11 + x7))) % 4294967296)) % 4294967296)) % 4294967296) (wrap64 (x11 - 1)))) else (none)) else (none)) else (none)) else (none)) else (some (-1))
end
def bytealg_LastIndexRabinKarp_byte.f (k : Nat) (l0 : List Int) (l1 : List Int) : Option (Int) := (bytealg_hashStrRev_byte.f k l1).bind fun bt103 => (bytealg_LastIndexRabinKarp_byte.l0 k l0 l1 bt103.1 bt103.2 (l1.length : Int) (wrap64 ((l0.length : Int) - (l1.length : Int))) 0 (wrap64 ((l0.length : Int) - 1)))
theorem bytealg_LastIndexRabinKarp_byte.mono_l : ∀ k, (∀ y0 y1 y2 y3 y4 y5 y6 y7, LeO (bytealg_LastIndexRabinKarp_byte.l0 k y0 y1 y2 y3 y4 y5 y6 y7) (bytealg_LastIndexRabinKarp_byte.l0 (k + 1) y0 y1 y2 y3 y4 y5 y6 y7)) ∧ (∀ y0 y1 y2 y3 y4 y5 y6 y7, LeO (bytealg_LastIndexRabinKarp_byte.j1 k y0 y1 y2 y3 y4 y5 y6 y7) (bytealg_LastIndexRabinKarp_byte.j1 (k + 1) y0 y1 y2 y3 y4 y5 y6 y7)) ∧ (∀ y0 y1 y2 y3 y4 y5 y6, LeO (bytealg_LastIndexRabinKarp_byte.l1 k y0 y1 y2 y3 y4 y5 y6) (bytealg_LastIndexRabinKarp_byte.l1 (k + 1) y0 y1 y2 y3 y4 y5 y6))
 | 0 => ⟨fun _ _ _ _ _ _ _ _ r h => by simp [bytealg_LastIndexRabinKarp_byte.l0] at h, fun _ _ _ _ _ _ _ _ r h => by simp [bytealg_LastIndexRabinKarp_byte.j1] at h, fun _ _ _ _ _ _ _ r h => by simp [bytealg_LastIndexRabinKarp_byte.l1] at h⟩
 | k + 1 => by
  obtain ⟨ih0, ih1, ih2⟩ := bytealg_LastIndexRabinKarp_byte.mono_l k
  refine ⟨?_, ?_, ?_⟩
  ·intro y0 y1 y2 y3 y4 y5 y6 y7
   unfold bytealg_LastIndexRabinKarp_byte.l0
   repeat' first
   | (with_reducible exact ih0 _ _ _ _ _ _ _ _)
   | (with_reducible exact ih1 _ _ _ _ _ _ _ _)
   | (with_reducible exact ih2 _ _ _ _ _ _ _)
   | (with_reducible exact bytealg_hashStrRev_byte.mono _ _)
   | (with_reducible exact LeO.refl _)
   | (with_reducible exact LeO.none _)
   | (with_reducible refine LeO.ite ?_ ?_)
   | (with_reducible refine LeO.bind ?_ (fun _ => ?_))
   | exact ih0 _ _ _ _ _ _ _ _
   | exact ih1 _ _ _ _ _ _ _ _
   | exact ih2 _ _ _ _ _ _ _
   | exact bytealg_hashStrRev_byte.mono _ _
   | exact LeO.none _
   | refine LeO.ite ?_ ?_
   | refine LeO.bind ?_ (fun _ => ?_)
  ·intro y0 y1 y2 y3 y4 y5 y6 y7
   unfold bytealg_LastIndexRabinKarp_byte.j1
   repeat' first
   | (with_reducible exact ih0 _ _ _ _ _ _ _ _)
   | (with_reducible exact ih1 _ _ _ _ _ _ _ _)
   | (with_reducible exact ih2 _ _ _ _ _ _ _)
   | (with_reducible exact bytealg_hashStrRev_byte.mono _ _)
   | (with_reducible exact LeO.refl _)
   | (with_reducible exact LeO.none _)
   | (with_reducible refine LeO.ite ?_ ?_)
   | (with_reducible refine LeO.bind ?_ (fun _ => ?_))
   | exact ih0 _ _ _ _ _ _ _ _
   | exact ih1 _ _ _ _ _ _ _ _
   | exact ih2 _ _ _ _ _ _ _
   | exact bytealg_hashStrRev_byte.mono _ _
   | exact LeO.none _
   | refine LeO.ite ?_ ?_
   | refine LeO.bind ?_ (fun _ => ?_)
  ·intro y0 y1 y2 y3 y4 y5 y6
   unfold bytealg_LastIndexRabinKarp_byte.l1
   repeat' first
   | (with_reducible exact ih0 _ _ _ _ _ _ _ _)
   | (with_reducible exact ih1 _ _ _ _ _ _ _ _)
   | (with_reducible exact ih2 _ _ _ _ _ _ _)
   | (with_reducible exact bytealg_hashStrRev_byte.mono _ _)
   | (with_reducible exact LeO.refl _)
   | (with_reducible exact LeO.none _)
   | (with_reducible refine LeO.ite ?_ ?_)
   | (with_reducible refine LeO.bind ?_ (fun _ => ?_))
   | exact ih0 _ _ _ _ _ _ _ _
   | exact ih1 _ _ _ _ _ _ _ _
   | exact ih2 _ _ _ _ _ _ _
   | exact bytealg_hashStrRev_byte.mono _ _
   | exact LeO.none _
   | refine LeO.ite ?_ ?_
   | refine LeO.bind ?_ (fun _ => ?_)
theorem bytealg_LastIndexRabinKarp_byte.mono : ∀ a0 a1 k, LeO (bytealg_LastIndexRabinKarp_byte.f k a0 a1) (bytealg_LastIndexRabinKarp_byte.f (k + 1) a0 a1) := by
 intro a0 a1 k
 obtain ⟨ih0, ih1, ih2⟩ := bytealg_LastIndexRabinKarp_byte.mono_l k
 unfold bytealg_LastIndexRabinKarp_byte.f
 repeat' first
   | (with_reducible exact ih0 _ _ _ _ _ _ _ _)
   | (with_reducible exact ih1 _ _ _ _ _ _ _ _)
   | (with_reducible exact ih2 _ _ _ _ _ _ _)
   | (with_reducible exact bytealg_hashStrRev_byte.mono _ _)
   | (with_reducible exact LeO.refl _)
   | (with_reducible exact LeO.none _)
   | (with_reducible refine LeO.ite ?_ ?_)
   | (with_reducible refine LeO.bind ?_ (fun _ => ?_))
   | exact ih0 _ _ _ _ _ _ _ _
   | exact ih1 _ _ _ _ _ _ _ _
   | exact ih2 _ _ _ _ _ _ _
   | exact bytealg_hashStrRev_byte.mono _ _
   | exact LeO.none _
   | refine LeO.ite ?_ ?_
   | refine LeO.bind ?_ (fun _ => ?_)
set_option maxHeartbeats 8000000 in
set_option maxRecDepth 100000 in
theorem bytealg_LastIndexRabinKarp_byte.calls (k : Nat) (A0 : Option Addr) (c0 : Nat) (l0 : List Int) (A1 : Option Addr) (c1 : Nat) (l1 : List Int) (r : Int) (w : World) (hr0 : Kd.C (Kd.int .u8) w A0 l0.length l0) (hc0 : l0.length ≤ c0) (hr1 : Kd.C (Kd.int .u8) w A1 l1.length l1) (hc1 : l1.length ≤ c1) (h : bytealg_LastIndexRabinKarp_byte.f k l0 l1 = some r) :
  Calls Tryz.prog 57 #[.slice A0 l0.length c0, .slice A1 l1.length c1] w fun e w' => e = .returned (.int .i64 r) ∧ Drawn0 w w' := by
 have HR0 := Aside0.mk hr0
 have HC0 := Aside0.mk hc0
 clear hr0 hc0
 have HR1 := Aside0.mk hr1
 have HC1 := Aside0.mk hc1
 clear hr1 hc1
 have H : ((bytealg_hashStrRev_byte.f k l1).bind fun bt103 => (bytealg_LastIndexRabinKarp_byte.l0 k l0 l1 bt103.1 bt103.2 (l1.length : Int) (wrap64 ((l0.length : Int) - (l1.length : Int))) 0 (wrap64 ((l0.length : Int) - 1)))) = some r := h
 clear h
 replace H := Option.bind_eq_some_iff.mp H
 obtain ⟨⟨t103, t104⟩, A30, H⟩ := H
 replace H : (bytealg_LastIndexRabinKarp_byte.l0 k l0 l1 t103 t104 (l1.length : Int) (wrap64 ((l0.length : Int) - (l1.length : Int))) 0 (wrap64 ((l0.length : Int) - 1))) = some r := H
 have A3 := Aside0.mk A30
 clear A30
 have H' := Aside0.mk H
 clear H
 go_enter Tryz.func57, Tryz.ntmps57
 go_wp2_with (first | (go_at_call 72; (with_reducible refine (bytealg_hashStrRev_byte.calls k _ _ l1 t103 t104 _ ?side1 ?side2 A3.out).mono ?_); (case side1 => repeat (first | exact HR1.out | (with_reducible refine Kd.C_alloc ?_ _) | (with_reducible refine Kd.C_drewN ?_ _) | (with_reducible refine Kd.C_drew ?_))); (case side2 => exact HC1.out); rintro e w' ⟨rfl, ⟨nd, rfl⟩⟩; (try first | exact ⟨rfl, _, World.drewN_drewN _ _ _⟩ | exact ⟨rfl, _, Eq.trans (World.drewN_drewN _ _ _) (congrArg (World.drewN _) (Nat.add_assoc _ _ _))⟩)))
 repeat (go_quiet (first | (go_at_call 72; (with_reducible refine (bytealg_hashStrRev_byte.calls k _ _ l1 t103 t104 _ ?side1 ?side2 A3.out).mono ?_); (case side1 => repeat (first | exact HR1.out | (with_reducible refine Kd.C_alloc ?_ _) | (with_reducible refine Kd.C_drewN ?_ _) | (with_reducible refine Kd.C_drew ?_))); (case side2 => exact HC1.out); rintro e w' ⟨rfl, ⟨nd, rfl⟩⟩; (try first | exact ⟨rfl, _, World.drewN_drewN _ _ _⟩ | exact ⟨rfl, _, Eq.trans (World.drewN_drewN _ _ _) (congrArg (World.drewN _) (Nat.add_assoc _ _ _))⟩))); try go_wp2_with (first | (go_at_call 72; (with_reducible refine (bytealg_hashStrRev_byte.calls k _ _ l1 t103 t104 _ ?side1 ?side2 A3.out).mono ?_); (case side1 => repeat (first | exact HR1.out | (with_reducible refine Kd.C_alloc ?_ _) | (with_reducible refine Kd.C_drewN ?_ _) | (with_reducible refine Kd.C_drew ?_))); (case side2 => exact HC1.out); rintro e w' ⟨rfl, ⟨nd, rfl⟩⟩; (try first | exact ⟨rfl, _, World.drewN_drewN _ _ _⟩ | exact ⟨rfl, _, Eq.trans (World.drewN_drewN _ _ _) (congrArg (World.drewN _) (Nat.add_assoc _ _ _))⟩))))
 go_loopg [9, 10] k (fun kq v9 v10 w' => ∃ (x9_1 : Int) (x10_1 : Int), v9 = .int .u32 x9_1 ∧ v10 = .int .i64 x10_1 ∧ Aside0 (bytealg_LastIndexRabinKarp_byte.l0 kq l0 l1 t103 t104 (l1.length : Int) (wrap64 ((l0.length : Int) - (l1.length : Int))) x9_1 x10_1 = some r) ∧ Aside0 (kq ≤ k) ∧ Drawn0 w w')
 case atStart => exact ⟨(0), (wrap64 ((l0.length : Int) - 1)), (by first | rfl | (simp; done) | (simp [*]; done)), (by first | rfl | (simp; done) | (simp [*]; done)), H', ⟨Nat.le_refl _⟩, by repeat (first | exact Drawn0.refl _ | apply Drawn0.step)⟩
 case round =>
  clear H'
  try clear c1
  try clear p2
  obtain ⟨x9_1, x10_1, rfl, rfl, HA, HK1, ⟨m1, rfl⟩⟩ := hrel
  cases gk with
  | zero => exact absurd HA.out (by simp [bytealg_LastIndexRabinKarp_byte.l0])
  | succ k1 =>
   have H := HA.out
   clear HA
   simp only [bytealg_LastIndexRabinKarp_byte.l0] at H
   by_cases c4 : x10_1 ≥ (wrap64 ((l0.length : Int) - (l1.length : Int)))
   ·rw [if_pos c4] at H
    have c4b0 : decide ((wrap64 ((l0.length : Int) - (l1.length : Int))) ≤ x10_1) = true := decide_eq_true c4
    clear c4
    by_cases c5 : 0 ≤ x10_1
    ·rw [if_pos c5] at H
     have c5b0 : decide (0 ≤ x10_1) = true := decide_eq_true c5
     clear c5
     by_cases c6 : x10_1 < (l0.length : Int)
     ·rw [if_pos c6] at H
      have c6b0 : decide (x10_1 < (l0.length : Int)) = true := decide_eq_true c6
      clear c6
      have H' := Aside0.mk H
      clear H
      have p105 : 0 ≤ (x10_1 : Int) := of_decide_eq_true (by first | (with_reducible assumption) | assumption)
      have q105 : x10_1 < (l0.length : Int) := of_decide_eq_true (by first | (with_reducible assumption) | assumption)
      obtain ⟨ad105, e105, hx105_0⟩ := Kd.at_int HR0.out x10_1 p105 q105
      cases e105
      replace p105 := eq_true p105
      replace q105 := eq_true q105
      go_wp2
      repeat (go_quiet (fail); try go_wp2)
      go_roundg k1
      case measure => have := HK1.out; omega
      case rel => exact ⟨((((x9_1 * 16777619) % 4294967296) + ((rd l0 x10_1) % 4294967296)) % 4294967296), (wrap64 (x10_1 - 1)), (by first | rfl | (simp; done) | (simp [*]; done)), (by first | rfl | (simp; done) | (simp [*]; done)), H', ⟨by have := HK1.out; omega⟩, by repeat (first | exact Drawn0.refl _ | apply Drawn0.step)⟩
     ·rw [if_neg c6] at H
      exact absurd H (by simp)
    ·rw [if_neg c5] at H
     exact absurd H (by simp)
   ·rw [if_neg c4] at H
    have c4b0 : decide ((wrap64 ((l0.length : Int) - (l1.length : Int))) ≤ x10_1) = false := decide_eq_false c4
    clear c4
    have HC7 := Aside0.mk H
    clear H
    go_upto_region 9 with (fail)
    repeat (go_quiet (fail); go_upto_region 9 with (fail))
    go_cut [50] (fun v50 wc => ∃ (kq : Nat) (x50_6 : Bool), v50 = .bool x50_6 ∧ Aside0 (bytealg_LastIndexRabinKarp_byte.j1 kq l0 l1 t103 t104 (l1.length : Int) (wrap64 ((l0.length : Int) - (l1.length : Int))) x9_1 x50_6 = some r) ∧ Aside0 (kq ≤ k1) ∧ Drawn0 w wc)
    case first =>
     have H := HC7.out
     clear HC7
     by_cases c8 : x9_1 = t103
     ·rw [if_pos c8] at H
      have c8b0 : (x9_1 == t103) = true := beq_iff_eq.mpr c8
      have c8b1 : (x9_1 != t103) = false := bne_eq_false_iff_eq.mpr c8
      clear c8
      (first | rw [c8b0] | (simp only [i64_w, i32_w]; rw [c8b0]) | skip)
      obtain ⟨ji9, hji9⟩ : ∃ j_ : Int, (wrap64 ((l0.length : Int) - (l1.length : Int))) = j_ := ⟨_, rfl⟩
      replace H : (if 0 ≤ (ji9) then (if (ji9) ≤ (l0.length : Int) then (bytealg_LastIndexRabinKarp_byte.j1 k1 l0 l1 t103 t104 (l1.length : Int) (ji9) x9_1 ((strOfNums (l0.drop ((ji9) : Int).toNat)).toList == (strOfNums l1).toList)) else (none)) else (none)) = some r := by first | (rw [hji9] at H; exact H) | (simp only [hji9] at H ⊢; exact H)
      (try rw [hji9] at c4b0)
      have hji9w : (IntKind.i64.wrap ((l0.length : Int) - (l1.length : Int))) = ji9 := (i64_w _).trans hji9
      by_cases c10 : 0 ≤ (ji9)
      ·rw [if_pos c10] at H
       have c10b0 := eq_true c10
       have c10b1 : decide (0 ≤ (ji9)) = true := decide_eq_true c10
       clear c10
       by_cases c11 : (ji9) ≤ (l0.length : Int)
       ·rw [if_pos c11] at H
        have c11b0 := eq_true c11
        have c11b1 : decide ((ji9) ≤ (l0.length : Int)) = true := decide_eq_true c11
        clear c11
        have H' := Aside0.mk H
        clear H
        obtain ⟨i012, hi012, _, hsz12, _⟩ := info_parts info5
        obtain ⟨A12, hcut12, hA12, hC12⟩ := print_drop_of (P := Tryz.prog) (Value.int .u8) 0 72 5 .i64 Tryz.underlying72 hi012 hsz12 A0 c0 l0 (ji9) (of_decide_eq_true (by first | (with_reducible assumption) | assumption)) (of_decide_eq_true (by first | (with_reducible assumption) | assumption)) HC0.out
        have HR106 := Aside0.mk (Kd.C_of_reads (h1 := fun _ => rfl) (hA12 _ (Kd.reads_of_C HR0.out)))
        have HC106 := Aside0.mk hC12
        clear hA12 hC12 hi012 hsz12
        have hcv13 := fun n => Kd.C_string (P := Tryz.prog) (A := A12) (c := (c0 - (ji9).toNat)) Tryz.underlying72 Tryz.underlying5 Tryz.underlying9 (Kd.C_drewN HR106.out n)
        try simp only [List.length_drop, List.length_take] at hcv13
        have hcv14 := fun n => Kd.C_string (P := Tryz.prog) (A := A1) (c := c1) Tryz.underlying72 Tryz.underlying5 Tryz.underlying9 (Kd.C_drewN HR1.out n)
        try simp only [List.length_drop, List.length_take] at hcv14
        go_wp2
        repeat (go_quiet (fail); try go_wp2)
        go_meet
        case rel => exact ⟨_, (((strOfNums (l0.drop ((ji9) : Int).toNat)).toList == (strOfNums l1).toList)), (by first | rfl | (simp; done) | (simp only [← hji9] <;> (first | rfl | simp)) | (simp [*]; done)), (by first | exact H' | (rw [hji9]; exact H')), ⟨by have := HK1.out; first | omega | exact Nat.le_refl _⟩, by repeat (first | exact Drawn0.refl _ | apply Drawn0.step)⟩
       ·rw [if_neg c11] at H
        exact absurd H (by simp)
      ·rw [if_neg c10] at H
       exact absurd H (by simp)
     ·rw [if_neg c8] at H
      have c8b0 : (x9_1 == t103) = false := beq_eq_false_iff_ne.mpr c8
      have c8b1 : (x9_1 != t103) = true := bne_iff_ne.mpr c8
      (first | rw [c8b0] | (simp only [i64_w, i32_w]; rw [c8b0]) | skip)
      have H' := Aside0.mk H
      clear H
      go_wp2
      repeat (go_quiet (fail); try go_wp2)
      go_meet
      case rel => exact ⟨_, (false), (by first | rfl | (simp; done) | (simp [*]; done)), H', ⟨by have := HK1.out; first | omega | exact Nat.le_refl _⟩, by repeat (first | exact Drawn0.refl _ | apply Drawn0.step)⟩
    case rest =>
     clear HC7
     try clear c1
     try clear p1
     try clear q1
     try clear hx1
     try clear hcv1
     try clear p2
     try clear c4
     try clear c4b0
     try clear c5
     try clear c5b0
     try clear c6
     try clear c6b0
     try clear p6
     try clear c8
     try clear c8b0
     try clear c8b1
     try clear c10
     try clear c10b0
     try clear c10b1
     try clear p10
     try clear q10
     try clear hx10
     try clear c11
     try clear c11b0
     try clear c11b1
     try clear hcv13
     try clear hcv14
     try clear hx105_0
     try clear p105
     try clear p2
     try clear q105
     obtain ⟨kq, x50_6, rfl, HA, HJ6, ⟨mc6, rfl⟩⟩ := hcut
     cases kq with
     | zero => exact absurd HA.out (by simp [bytealg_LastIndexRabinKarp_byte.j1])
     | succ kj6 =>
      have H := HA.out
      clear HA
      simp only [bytealg_LastIndexRabinKarp_byte.j1] at H
      by_cases c15 : x50_6 = true
      ·subst c15
       have H1 : (some (wrap64 ((l0.length : Int) - (l1.length : Int)))) = some r := by rw [if_pos rfl] at H; exact H
       clear H
       have H := H1
       clear H1
       obtain rfl := Option.some.inj H
       go_wp2
       repeat (go_quiet (fail); try go_wp2)
       go_ret
       exact ⟨by first | rfl | (simp; done) | (simp [*]; done), by repeat (first | exact Drawn0.refl _ | apply Drawn0.step)⟩
      ·replace c15 := Bool.eq_false_iff.mpr c15
       subst c15
       have H1 : (bytealg_LastIndexRabinKarp_byte.l1 kj6 l0 l1 t103 t104 (l1.length : Int) x9_1 (wrap64 ((wrap64 ((l0.length : Int) - (l1.length : Int))) - 1))) = some r := by rw [if_neg (show ¬ (false = true) by decide)] at H; exact H
       clear H
       have H := H1
       clear H1
       have H' := Aside0.mk H
       clear H
       go_wp2
       repeat (go_quiet (fail); try go_wp2)
       go_loopg [9, 11] kj6 (fun kq v9 v11 w' => ∃ (x9_3 : Int) (x11_3 : Int), v9 = .int .u32 x9_3 ∧ v11 = .int .i64 x11_3 ∧ Aside0 (bytealg_LastIndexRabinKarp_byte.l1 kq l0 l1 t103 t104 (l1.length : Int) x9_3 x11_3 = some r) ∧ Aside0 (kq ≤ kj6) ∧ Drawn0 w w')
       case atStart => exact ⟨(x9_1), (wrap64 ((wrap64 ((l0.length : Int) - (l1.length : Int))) - 1)), (by first | rfl | (simp; done) | (simp [*]; done)), (by first | rfl | (simp; done) | (simp [*]; done)), H', ⟨Nat.le_refl _⟩, by repeat (first | exact Drawn0.refl _ | apply Drawn0.step)⟩
       case round =>
        clear H'
        try clear c1
        try clear p1
        try clear q1
        try clear hx1
        try clear hcv1
        try clear p2
        try clear c4
        try clear c4b0
        try clear c5
        try clear c5b0
        try clear c6
        try clear c6b0
        try clear p6
        try clear c8
        try clear c8b0
        try clear c8b1
        try clear c10
        try clear c10b0
        try clear c10b1
        try clear p10
        try clear q10
        try clear hx10
        try clear c11
        try clear c11b0
        try clear c11b1
        try clear hcv13
        try clear hcv14
        try clear c15
        try clear hx105_0
        try clear p1
        try clear p10
        try clear p105
        try clear p2
        try clear p6
        try clear q1
        try clear q10
        try clear q105
        obtain ⟨x9_3, x11_3, rfl, rfl, HA, HK3, ⟨m3, rfl⟩⟩ := hrel
        cases gk with
        | zero => exact absurd HA.out (by simp [bytealg_LastIndexRabinKarp_byte.l1])
        | succ k3 =>
         have H := HA.out
         clear HA
         simp only [bytealg_LastIndexRabinKarp_byte.l1] at H
         by_cases c16 : x11_3 ≥ 0
         ·rw [if_pos c16] at H
          have c16b0 : decide (0 ≤ x11_3) = true := decide_eq_true c16
          clear c16
          by_cases c17 : 0 ≤ x11_3
          ·rw [if_pos c17] at H
           have c17b0 : decide (0 ≤ x11_3) = true := decide_eq_true c17
           clear c17
           by_cases c18 : x11_3 < (l0.length : Int)
           ·rw [if_pos c18] at H
            have c18b0 : decide (x11_3 < (l0.length : Int)) = true := decide_eq_true c18
            clear c18
            obtain ⟨ji19, hji19⟩ : ∃ j_ : Int, (wrap64 (x11_3 + (l1.length : Int))) = j_ := ⟨_, rfl⟩
            replace H : (if 0 ≤ (ji19) then (if (ji19) < (l0.length : Int) then (if ((((((x9_3 * 16777619) % 4294967296) + ((rd l0 x11_3) % 4294967296)) % 4294967296) - ((t104 * ((rd l0 (ji19)) % 4294967296)) % 4294967296)) % 4294967296) = t103 then (if x11_3 ≤ (ji19) then (if (ji19) ≤ (l0.length : Int) then (if (strOfNums ((l0.take ((ji19) : Int).toNat).drop (x11_3 : Int).toNat)).toList = (strOfNums l1).toList then (some x11_3) else (bytealg_LastIndexRabinKarp_byte.l1 k3 l0 l1 t103 t104 (l1.length : Int) ((((((x9_3 * 16777619) % 4294967296) + ((rd l0 x11_3) % 4294967296)) % 4294967296) - ((t104 * ((rd l0 (ji19)) % 4294967296)) % 4294967296)) % 4294967296) (wrap64 (x11_3 - 1)))) else (none)) else (none)) else (bytealg_LastIndexRabinKarp_byte.l1 k3 l0 l1 t103 t104 (l1.length : Int) ((((((x9_3 * 16777619) % 4294967296) + ((rd l0 x11_3) % 4294967296)) % 4294967296) - ((t104 * ((rd l0 (ji19)) % 4294967296)) % 4294967296)) % 4294967296) (wrap64 (x11_3 - 1)))) else (none)) else (none)) = some r := by first | (rw [hji19] at H; exact H) | (simp only [hji19] at H ⊢; exact H)
            have hji19w : (IntKind.i64.wrap (x11_3 + (l1.length : Int))) = ji19 := (i64_w _).trans hji19
            by_cases c20 : 0 ≤ (ji19)
            ·rw [if_pos c20] at H
             have c20b0 : decide (0 ≤ (ji19)) = true := decide_eq_true c20
             clear c20
             by_cases c21 : (ji19) < (l0.length : Int)
             ·rw [if_pos c21] at H
              have c21b0 : decide ((ji19) < (l0.length : Int)) = true := decide_eq_true c21
              clear c21
              by_cases c22 : ((((((x9_3 * 16777619) % 4294967296) + ((rd l0 x11_3) % 4294967296)) % 4294967296) - ((t104 * ((rd l0 (ji19)) % 4294967296)) % 4294967296)) % 4294967296) = t103
              ·rw [if_pos c22] at H
               have c22b0 : (((((((x9_3 * 16777619) % 4294967296) + ((rd l0 x11_3) % 4294967296)) % 4294967296) - ((t104 * ((rd l0 (ji19)) % 4294967296)) % 4294967296)) % 4294967296) == t103) = true := beq_iff_eq.mpr c22
               have c22b1 : (((((((x9_3 * 16777619) % 4294967296) + ((rd l0 x11_3) % 4294967296)) % 4294967296) - ((t104 * ((rd l0 (ji19)) % 4294967296)) % 4294967296)) % 4294967296) != t103) = false := bne_eq_false_iff_eq.mpr c22
               have c22e : ((x9_3 * 16777619 + rd l0 x11_3 - t104 * (rd l0 ji19 % 4294967296)) % 4294967296) = ((((((x9_3 * 16777619) % 4294967296) + ((rd l0 x11_3) % 4294967296)) % 4294967296) - ((t104 * ((rd l0 (ji19)) % 4294967296)) % 4294967296)) % 4294967296) := by omega
               have c22f : (((x9_3 * 16777619 + rd l0 x11_3 - t104 * (rd l0 ji19 % 4294967296)) % 4294967296) == t103) = true := by rw [c22e]; exact c22b0
               have c22g : (((x9_3 * 16777619 + rd l0 x11_3 - t104 * (rd l0 ji19 % 4294967296)) % 4294967296) != t103) = false := by rw [c22e]; exact c22b1
               clear c22e
               clear c22
               have c23b0 := eq_true (of_decide_eq_true (by first | (with_reducible assumption) | assumption) : 0 ≤ x11_3)
               by_cases c24 : x11_3 ≤ (ji19)
               ·rw [if_pos c24] at H
                have c24b0 := eq_true c24
                have c24b1 : decide (x11_3 ≤ (ji19)) = true := decide_eq_true c24
                clear c24
                by_cases c25 : (ji19) ≤ (l0.length : Int)
                ·rw [if_pos c25] at H
                 have c25b0 := eq_true c25
                 have c25b1 : decide ((ji19) ≤ (l0.length : Int)) = true := decide_eq_true c25
                 clear c25
                 by_cases c26 : (strOfNums ((l0.take ((ji19) : Int).toNat).drop (x11_3 : Int).toNat)).toList = (strOfNums l1).toList
                 ·rw [if_pos c26] at H
                  have c26b0 : ((strOfNums ((l0.take ((ji19) : Int).toNat).drop (x11_3 : Int).toNat)).toList == (strOfNums l1).toList) = true := beq_iff_eq.mpr c26
                  have c26b1 : ((strOfNums ((l0.take ((ji19) : Int).toNat).drop (x11_3 : Int).toNat)).toList != (strOfNums l1).toList) = false := bne_eq_false_iff_eq.mpr c26
                  clear c26
                  obtain rfl := Option.some.inj H
                  have p107 : 0 ≤ (x11_3 : Int) := of_decide_eq_true (by first | (with_reducible assumption) | assumption)
                  have q107 : x11_3 < (l0.length : Int) := of_decide_eq_true (by first | (with_reducible assumption) | assumption)
                  obtain ⟨ad107, e107, hx107_0⟩ := Kd.at_int HR0.out x11_3 p107 q107
                  cases e107
                  replace p107 := eq_true p107
                  replace q107 := eq_true q107
                  have p108 : 0 ≤ ((ji19) : Int) := of_decide_eq_true (by first | (with_reducible assumption) | assumption)
                  have q108 : (ji19) < (l0.length : Int) := of_decide_eq_true (by first | (with_reducible assumption) | assumption)
                  obtain ⟨ad108, e108, hx108_0⟩ := Kd.at_int HR0.out (ji19) p108 q108
                  obtain rfl : ad107 = ad108 := (by injection e108)
                  replace p108 := eq_true p108
                  replace q108 := eq_true q108
                  obtain ⟨i027, hi027, _, hsz27, _⟩ := info_parts info5
                  obtain ⟨A27, hcut27, hA27, hC27⟩ := print_mid_of (P := Tryz.prog) (Value.int .u8) 0 72 5 .i64 .i64 Tryz.underlying72 hi027 hsz27 (some ad107) c0 l0 x11_3 (ji19) (of_decide_eq_true (by first | (with_reducible assumption) | assumption)) (by first | omega | exact of_decide_eq_true (by first | (with_reducible assumption) | assumption)) (of_decide_eq_true (by first | (with_reducible assumption) | assumption)) HC0.out
                  have HR109 := Aside0.mk (Kd.C_of_reads (h1 := fun _ => rfl) (hA27 _ (Kd.reads_of_C HR0.out)))
                  have HC109 := Aside0.mk hC27
                  clear hA27 hC27 hi027 hsz27
                  have hcv28 := fun n => Kd.C_string (P := Tryz.prog) (A := A27) (c := (c0 - x11_3.toNat)) Tryz.underlying72 Tryz.underlying5 Tryz.underlying9 (Kd.C_drewN HR109.out n)
                  simp only [List.length_drop, List.length_take, Nat.min_eq_left (show ji19.toNat ≤ l0.length by have := of_decide_eq_true c25b1; omega)] at hcv28
                  have hcv29 := fun n => Kd.C_string (P := Tryz.prog) (A := A1) (c := c1) Tryz.underlying72 Tryz.underlying5 Tryz.underlying9 (Kd.C_drewN HR1.out n)
                  try simp only [List.length_drop, List.length_take] at hcv29
                  go_wp2
                  repeat (go_quiet (fail); try go_wp2)
                  go_ret
                  exact ⟨by first | rfl | (simp; done) | (simp only [← hji19] <;> (first | rfl | simp)) | (simp [*]; done), by repeat (first | exact Drawn0.refl _ | apply Drawn0.step)⟩
                 ·rw [if_neg c26] at H
                  have c26b0 : ((strOfNums ((l0.take ((ji19) : Int).toNat).drop (x11_3 : Int).toNat)).toList == (strOfNums l1).toList) = false := beq_eq_false_iff_ne.mpr c26
                  have c26b1 : ((strOfNums ((l0.take ((ji19) : Int).toNat).drop (x11_3 : Int).toNat)).toList != (strOfNums l1).toList) = true := bne_iff_ne.mpr c26
                  have H' := Aside0.mk H
                  clear H
                  have p107 : 0 ≤ (x11_3 : Int) := of_decide_eq_true (by first | (with_reducible assumption) | assumption)
                  have q107 : x11_3 < (l0.length : Int) := of_decide_eq_true (by first | (with_reducible assumption) | assumption)
                  obtain ⟨ad107, e107, hx107_0⟩ := Kd.at_int HR0.out x11_3 p107 q107
                  cases e107
                  replace p107 := eq_true p107
                  replace q107 := eq_true q107
                  have p108 : 0 ≤ ((ji19) : Int) := of_decide_eq_true (by first | (with_reducible assumption) | assumption)
                  have q108 : (ji19) < (l0.length : Int) := of_decide_eq_true (by first | (with_reducible assumption) | assumption)
                  obtain ⟨ad108, e108, hx108_0⟩ := Kd.at_int HR0.out (ji19) p108 q108
                  obtain rfl : ad107 = ad108 := (by injection e108)
                  replace p108 := eq_true p108
                  replace q108 := eq_true q108
                  obtain ⟨i030, hi030, _, hsz30, _⟩ := info_parts info5
                  obtain ⟨A30, hcut30, hA30, hC30⟩ := print_mid_of (P := Tryz.prog) (Value.int .u8) 0 72 5 .i64 .i64 Tryz.underlying72 hi030 hsz30 (some ad107) c0 l0 x11_3 (ji19) (of_decide_eq_true (by first | (with_reducible assumption) | assumption)) (by first | omega | exact of_decide_eq_true (by first | (with_reducible assumption) | assumption)) (of_decide_eq_true (by first | (with_reducible assumption) | assumption)) HC0.out
                  have HR109 := Aside0.mk (Kd.C_of_reads (h1 := fun _ => rfl) (hA30 _ (Kd.reads_of_C HR0.out)))
                  have HC109 := Aside0.mk hC30
                  clear hA30 hC30 hi030 hsz30
                  have hcv31 := fun n => Kd.C_string (P := Tryz.prog) (A := A30) (c := (c0 - x11_3.toNat)) Tryz.underlying72 Tryz.underlying5 Tryz.underlying9 (Kd.C_drewN HR109.out n)
                  simp only [List.length_drop, List.length_take, Nat.min_eq_left (show ji19.toNat ≤ l0.length by have := of_decide_eq_true c25b1; omega)] at hcv31
                  have hcv32 := fun n => Kd.C_string (P := Tryz.prog) (A := A1) (c := c1) Tryz.underlying72 Tryz.underlying5 Tryz.underlying9 (Kd.C_drewN HR1.out n)
                  try simp only [List.length_drop, List.length_take] at hcv32
                  go_wp2
                  repeat (go_quiet (fail); try go_wp2)
                  go_roundg k3
                  case measure => have := HK1.out; have := HJ6.out; have := HK3.out; omega
                  case rel => exact ⟨((((((x9_3 * 16777619) % 4294967296) + ((rd l0 x11_3) % 4294967296)) % 4294967296) - ((t104 * ((rd l0 (ji19)) % 4294967296)) % 4294967296)) % 4294967296), (wrap64 (x11_3 - 1)), (by first | rfl | (simp; done) | (simp only [← hji19] <;> (first | rfl | simp)) | (simp [*]; done)), (by first | rfl | (simp; done) | (simp [*]; done)), H', ⟨by have := HK1.out; have := HJ6.out; have := HK3.out; omega⟩, by repeat (first | exact Drawn0.refl _ | apply Drawn0.step)⟩
                ·rw [if_neg c25] at H
                 exact absurd H (by simp)
               ·rw [if_neg c24] at H
                exact absurd H (by simp)
              ·rw [if_neg c22] at H
               have c22b0 : (((((((x9_3 * 16777619) % 4294967296) + ((rd l0 x11_3) % 4294967296)) % 4294967296) - ((t104 * ((rd l0 (ji19)) % 4294967296)) % 4294967296)) % 4294967296) == t103) = false := beq_eq_false_iff_ne.mpr c22
               have c22b1 : (((((((x9_3 * 16777619) % 4294967296) + ((rd l0 x11_3) % 4294967296)) % 4294967296) - ((t104 * ((rd l0 (ji19)) % 4294967296)) % 4294967296)) % 4294967296) != t103) = true := bne_iff_ne.mpr c22
               have c22e : ((x9_3 * 16777619 + rd l0 x11_3 - t104 * (rd l0 ji19 % 4294967296)) % 4294967296) = ((((((x9_3 * 16777619) % 4294967296) + ((rd l0 x11_3) % 4294967296)) % 4294967296) - ((t104 * ((rd l0 (ji19)) % 4294967296)) % 4294967296)) % 4294967296) := by omega
               have c22f : (((x9_3 * 16777619 + rd l0 x11_3 - t104 * (rd l0 ji19 % 4294967296)) % 4294967296) == t103) = false := by rw [c22e]; exact c22b0
               have c22g : (((x9_3 * 16777619 + rd l0 x11_3 - t104 * (rd l0 ji19 % 4294967296)) % 4294967296) != t103) = true := by rw [c22e]; exact c22b1
               clear c22e
               have H' := Aside0.mk H
               clear H
               have p107 : 0 ≤ (x11_3 : Int) := of_decide_eq_true (by first | (with_reducible assumption) | assumption)
               have q107 : x11_3 < (l0.length : Int) := of_decide_eq_true (by first | (with_reducible assumption) | assumption)
               obtain ⟨ad107, e107, hx107_0⟩ := Kd.at_int HR0.out x11_3 p107 q107
               cases e107
               replace p107 := eq_true p107
               replace q107 := eq_true q107
               have p108 : 0 ≤ ((ji19) : Int) := of_decide_eq_true (by first | (with_reducible assumption) | assumption)
               have q108 : (ji19) < (l0.length : Int) := of_decide_eq_true (by first | (with_reducible assumption) | assumption)
               obtain ⟨ad108, e108, hx108_0⟩ := Kd.at_int HR0.out (ji19) p108 q108
               obtain rfl : ad107 = ad108 := (by injection e108)
               replace p108 := eq_true p108
               replace q108 := eq_true q108
               go_wp2
               repeat (go_quiet (fail); try go_wp2)
               go_roundg k3
               case measure => have := HK1.out; have := HJ6.out; have := HK3.out; omega
               case rel => exact ⟨((((((x9_3 * 16777619) % 4294967296) + ((rd l0 x11_3) % 4294967296)) % 4294967296) - ((t104 * ((rd l0 (ji19)) % 4294967296)) % 4294967296)) % 4294967296), (wrap64 (x11_3 - 1)), (by first | rfl | (simp; done) | (simp only [← hji19] <;> (first | rfl | simp)) | (simp [*]; done)), (by first | rfl | (simp; done) | (simp [*]; done)), H', ⟨by have := HK1.out; have := HJ6.out; have := HK3.out; omega⟩, by repeat (first | exact Drawn0.refl _ | apply Drawn0.step)⟩
             ·rw [if_neg c21] at H
              exact absurd H (by simp)
            ·rw [if_neg c20] at H
             exact absurd H (by simp)
           ·rw [if_neg c18] at H
            exact absurd H (by simp)
          ·rw [if_neg c17] at H
           exact absurd H (by simp)
         ·rw [if_neg c16] at H
          have c16b0 : decide (0 ≤ x11_3) = false := decide_eq_false c16
          clear c16
          obtain rfl := Option.some.inj H
          go_wp2
          repeat (go_quiet (fail); try go_wp2)
          go_ret
          exact ⟨by first | rfl | (simp; done) | (simp [*]; done), by repeat (first | exact Drawn0.refl _ | apply Drawn0.step)⟩
end Go.Proofs.YtkbegfihdpiacaaGreatDoor.PY
namespace Go.Proofs.YtkbegfihdpiacaaGreatDoor.PY
open Go.RowKit Go.Proofs.YtkbegfihdpiacaaGreatDoorW.PrintWords Go.Proofs.YtkbegfihdpiacaaGreatDoorW.PrintLast Go.Proofs.YtkbegfihdpiacaaGreatDoorW.PrintMore
attribute [local go_sem] max2_int min2_int max_two min_two max_three min_three max_four min_four   -- for this text's walks alone
def bytes_LastIndex.f (k : Nat) (l0 : List Int) (l1 : List Int) : Option (Int) := if (l1.length : Int) = 0 then (some (l0.length : Int)) else (if (l1.length : Int) = 1 then (if 0 < (l1.length : Int) then ((bytealg_LastIndexByte.f k l0 (rd l1 0)).bind fun t111 => (some t111)) else (none)) else (if (l1.length : Int) = (l0.length : Int) then ((bytes_Equal.f l0 l1).bind fun t112 => (if t112 = true then (some 0) else (some (-1)))) else (if (l1.length : Int) > (l0.length : Int) then (some (-1)) else ((bytealg_LastIndexRabinKarp_byte.f k l0 l1).bind fun t113 => (some t113)))))
theorem bytes_LastIndex.mono : ∀ a0 a1 k, LeO (bytes_LastIndex.f k a0 a1) (bytes_LastIndex.f (k + 1) a0 a1) := by
 intro a0 a1 k
 unfold bytes_LastIndex.f
 repeat' first
   | (with_reducible exact bytealg_LastIndexByte.mono _ _ _)
   | (with_reducible exact bytealg_LastIndexRabinKarp_byte.mono _ _ _)
   | (with_reducible exact LeO.refl _)
   | (with_reducible exact LeO.none _)
   | (with_reducible refine LeO.ite ?_ ?_)
   | (with_reducible refine LeO.bind ?_ (fun _ => ?_))
   | exact bytealg_LastIndexByte.mono _ _ _
   | exact bytealg_LastIndexRabinKarp_byte.mono _ _ _
   | exact LeO.none _
   | refine LeO.ite ?_ ?_
   | refine LeO.bind ?_ (fun _ => ?_)
set_option maxHeartbeats 8000000 in
set_option maxRecDepth 100000 in
theorem bytes_LastIndex.calls (k : Nat) (A0 : Option Addr) (c0 : Nat) (l0 : List Int) (A1 : Option Addr) (c1 : Nat) (l1 : List Int) (r : Int) (w : World) (hr0 : Kd.C (Kd.int .u8) w A0 l0.length l0) (hc0 : l0.length ≤ c0) (hr1 : Kd.C (Kd.int .u8) w A1 l1.length l1) (hc1 : l1.length ≤ c1) (h : bytes_LastIndex.f k l0 l1 = some r) :
  Calls Tryz.prog 38 #[.slice A0 l0.length c0, .slice A1 l1.length c1] w fun e w' => e = .returned (.int .i64 r) ∧ Drawn0 w w' := by
 have HR0 := Aside0.mk hr0
 have HC0 := Aside0.mk hc0
 clear hr0 hc0
 have HR1 := Aside0.mk hr1
 have HC1 := Aside0.mk hc1
 clear hr1 hc1
 have H : (if (l1.length : Int) = 0 then (some (l0.length : Int)) else (if (l1.length : Int) = 1 then (if 0 < (l1.length : Int) then ((bytealg_LastIndexByte.f k l0 (rd l1 0)).bind fun t111 => (some t111)) else (none)) else (if (l1.length : Int) = (l0.length : Int) then ((bytes_Equal.f l0 l1).bind fun t112 => (if t112 = true then (some 0) else (some (-1)))) else (if (l1.length : Int) > (l0.length : Int) then (some (-1)) else ((bytealg_LastIndexRabinKarp_byte.f k l0 l1).bind fun t113 => (some t113)))))) = some r := h
 clear h
 by_cases c3 : (l1.length : Int) = 0
 ·rw [if_pos c3] at H
  have c3b0 : ((l1.length : Int) == 0) = true := beq_iff_eq.mpr c3
  have c3b1 : ((l1.length : Int) != 0) = false := bne_eq_false_iff_eq.mpr c3
  clear c3
  obtain rfl := Option.some.inj H
  go_enter Tryz.func38, Tryz.ntmps38
  go_wp2
  go_ret
  exact ⟨by first | rfl | (simp; done) | (simp [*]; done), by repeat (first | exact Drawn0.refl _ | apply Drawn0.step)⟩
 ·rw [if_neg c3] at H
  have c3b0 : ((l1.length : Int) == 0) = false := beq_eq_false_iff_ne.mpr c3
  have c3b1 : ((l1.length : Int) != 0) = true := bne_iff_ne.mpr c3
  have c3b2 : ¬ (l1 = []) := fun h_ => c3 (by rw [h_]; rfl)
  by_cases c4 : (l1.length : Int) = 1
  ·rw [if_pos c4] at H
   have c4b0 : ((l1.length : Int) == 1) = true := beq_iff_eq.mpr c4
   have c4b1 : ((l1.length : Int) != 1) = false := bne_eq_false_iff_eq.mpr c4
   clear c4
   by_cases c5 : 0 < (l1.length : Int)
   ·rw [if_pos c5] at H
    have c5b0 : decide (0 < (l1.length : Int)) = true := decide_eq_true c5
    have c5b1 : decide (0 < l1.length) = true := decide_eq_true (by omega)
    clear c5
    replace H := Option.bind_eq_some_iff.mp H
    obtain ⟨t111, A60, H⟩ := H
    replace H : (some t111) = some r := H
    have A6 := Aside0.mk A60
    clear A60
    obtain rfl := Option.some.inj H
    have p110 : 0 ≤ (0 : Int) := (by omega)
    have q110 : 0 < (l1.length : Int) := of_decide_eq_true (by first | (with_reducible assumption) | assumption)
    obtain ⟨ad110, e110, hx110_0⟩ := Kd.at_int HR1.out 0 p110 q110
    cases e110
    have qi110 : (0 < l1.length) = True := eq_true (by omega)
    (try rw [show ((0 : Int)).toNat = 0 from rfl] at hx110_0)
    (try rw [Addr.add_zero'] at hx110_0)
    replace p110 := eq_true p110
    replace q110 := eq_true q110
    go_enter Tryz.func38, Tryz.ntmps38
    go_wp2_with (first | ((with_reducible refine gate_callee (f := 55) rfl ?_); refine goesL_ (some 20) rfl rfl Tryz.func55 (by kernel_rfl) rfl #[.slice A0 l0.length c0, .int .u8 (rd l1 0)] rfl (by (try simp only [List.map_toArray, List.map_cons, List.map_nil]); first | done | rfl | (simp only [List.length_drop, List.length_take]; rfl)) ?_; (with_reducible refine (bytealg_LastIndexByte.calls k _ _ l0 (rd l1 0) t111 _ ?side1 ?side2 A6.out).mono ?_); (case side1 => repeat (first | exact HR0.out | (with_reducible refine Kd.C_alloc ?_ _) | (with_reducible refine Kd.C_drewN ?_ _) | (with_reducible refine Kd.C_drew ?_))); (case side2 => exact HC0.out); rintro e w' ⟨rfl, ⟨nd, rfl⟩⟩; refine ⟨_, rfl, ?_⟩))
    go_ret
    exact ⟨by first | rfl | (simp; done) | (simp [*]; done), by repeat (first | exact Drawn0.refl _ | apply Drawn0.step)⟩
   ·rw [if_neg c5] at H
    exact absurd H (by simp)
  ·rw [if_neg c4] at H
   have c4b0 : ((l1.length : Int) == 1) = false := beq_eq_false_iff_ne.mpr c4
   have c4b1 : ((l1.length : Int) != 1) = true := bne_iff_ne.mpr c4
   by_cases c7 : (l1.length : Int) = (l0.length : Int)
   ·rw [if_pos c7] at H
    have c7b0 : ((l1.length : Int) == (l0.length : Int)) = true := beq_iff_eq.mpr c7
    have c7b1 : ((l1.length : Int) != (l0.length : Int)) = false := bne_eq_false_iff_eq.mpr c7
    have c7b2 : (l1.length == l0.length) = true := by first | simpa using c7 | (simp at c7 ⊢; omega)
    clear c7
    replace H := Option.bind_eq_some_iff.mp H
    obtain ⟨t112, A80, H⟩ := H
    replace H : (if t112 = true then (some 0) else (some (-1))) = some r := H
    have A8 := Aside0.mk A80
    clear A80
    by_cases c9 : t112 = true
    ·subst c9
     have H1 : (some 0) = some r := by rw [if_pos rfl] at H; exact H
     clear H
     have H := H1
     clear H1
     obtain rfl := Option.some.inj H
     go_enter Tryz.func38, Tryz.ntmps38
     go_wp2_with (first | ((with_reducible refine gate_callee (f := 56) rfl ?_); refine goesL_ (some 28) rfl rfl Tryz.func56 (by kernel_rfl) rfl #[.slice A0 l0.length c0, .slice A1 l1.length c1] rfl (by (try simp only [List.map_toArray, List.map_cons, List.map_nil]); first | done | rfl | (simp only [List.length_drop, List.length_take]; rfl)) ?_; (with_reducible refine (bytes_Equal.calls _ _ l0 _ _ l1 true _ ?side1 ?side2 ?side3 ?side4 A8.out).mono ?_); (case side1 => repeat (first | exact HR0.out | (with_reducible refine Kd.C_alloc ?_ _) | (with_reducible refine Kd.C_drewN ?_ _) | (with_reducible refine Kd.C_drew ?_))); (case side2 => exact HC0.out); (case side3 => repeat (first | exact HR1.out | (with_reducible refine Kd.C_alloc ?_ _) | (with_reducible refine Kd.C_drewN ?_ _) | (with_reducible refine Kd.C_drew ?_))); (case side4 => exact HC1.out); rintro e w' ⟨rfl, ⟨nd, rfl⟩⟩; refine ⟨_, rfl, ?_⟩))
     go_ret
     exact ⟨by first | rfl | (simp; done) | (simp [*]; done), by repeat (first | exact Drawn0.refl _ | apply Drawn0.step)⟩
    ·replace c9 := Bool.eq_false_iff.mpr c9
     subst c9
     have H1 : (some (-1)) = some r := by rw [if_neg (show ¬ (false = true) by decide)] at H; exact H
     clear H
     have H := H1
     clear H1
     obtain rfl := Option.some.inj H
     go_enter Tryz.func38, Tryz.ntmps38
     go_wp2_with (first | ((with_reducible refine gate_callee (f := 56) rfl ?_); refine goesL_ (some 28) rfl rfl Tryz.func56 (by kernel_rfl) rfl #[.slice A0 l0.length c0, .slice A1 l1.length c1] rfl (by (try simp only [List.map_toArray, List.map_cons, List.map_nil]); first | done | rfl | (simp only [List.length_drop, List.length_take]; rfl)) ?_; (with_reducible refine (bytes_Equal.calls _ _ l0 _ _ l1 false _ ?side1 ?side2 ?side3 ?side4 A8.out).mono ?_); (case side1 => repeat (first | exact HR0.out | (with_reducible refine Kd.C_alloc ?_ _) | (with_reducible refine Kd.C_drewN ?_ _) | (with_reducible refine Kd.C_drew ?_))); (case side2 => exact HC0.out); (case side3 => repeat (first | exact HR1.out | (with_reducible refine Kd.C_alloc ?_ _) | (with_reducible refine Kd.C_drewN ?_ _) | (with_reducible refine Kd.C_drew ?_))); (case side4 => exact HC1.out); rintro e w' ⟨rfl, ⟨nd, rfl⟩⟩; refine ⟨_, rfl, ?_⟩))
     go_ret
     exact ⟨by first | rfl | (simp; done) | (simp [*]; done), by repeat (first | exact Drawn0.refl _ | apply Drawn0.step)⟩
   ·rw [if_neg c7] at H
    have c7b0 : ((l1.length : Int) == (l0.length : Int)) = false := beq_eq_false_iff_ne.mpr c7
    have c7b1 : ((l1.length : Int) != (l0.length : Int)) = true := bne_iff_ne.mpr c7
    have c7b2 : (l1.length == l0.length) = false := by first | simpa using c7 | (simp at c7 ⊢; omega)
    by_cases c10 : (l1.length : Int) > (l0.length : Int)
    ·rw [if_pos c10] at H
     have c10b0 : decide ((l0.length : Int) < (l1.length : Int)) = true := decide_eq_true c10
     have c10b1 : decide (l0.length < l1.length) = true := decide_eq_true (Int.ofNat_lt.mp c10)
     clear c10
     obtain rfl := Option.some.inj H
     go_enter Tryz.func38, Tryz.ntmps38
     go_wp2
     go_ret
     exact ⟨by first | rfl | (simp; done) | (simp [*]; done), by repeat (first | exact Drawn0.refl _ | apply Drawn0.step)⟩
    ·rw [if_neg c10] at H
     have c10b0 : decide ((l0.length : Int) < (l1.length : Int)) = false := decide_eq_false c10
     have c10b1 : decide (l0.length < l1.length) = false := decide_eq_false (fun h => c10 (Int.ofNat_lt.mpr h))
     clear c10
     replace H := Option.bind_eq_some_iff.mp H
     obtain ⟨t113, A110, H⟩ := H
     replace H : (some t113) = some r := H
     have A11 := Aside0.mk A110
     clear A110
     obtain rfl := Option.some.inj H
     go_enter Tryz.func38, Tryz.ntmps38
     go_wp2_with (first | ((with_reducible refine gate_callee (f := 57) rfl ?_); refine goesL_ (some 36) rfl rfl Tryz.func57 (by kernel_rfl) rfl #[.slice A0 l0.length c0, .slice A1 l1.length c1] rfl (by (try simp only [List.map_toArray, List.map_cons, List.map_nil]); first | done | rfl | (simp only [List.length_drop, List.length_take]; rfl)) ?_; (with_reducible refine (bytealg_LastIndexRabinKarp_byte.calls k _ _ l0 _ _ l1 t113 _ ?side1 ?side2 ?side3 ?side4 A11.out).mono ?_); (case side1 => repeat (first | exact HR0.out | (with_reducible refine Kd.C_alloc ?_ _) | (with_reducible refine Kd.C_drewN ?_ _) | (with_reducible refine Kd.C_drew ?_))); (case side2 => exact HC0.out); (case side3 => repeat (first | exact HR1.out | (with_reducible refine Kd.C_alloc ?_ _) | (with_reducible refine Kd.C_drewN ?_ _) | (with_reducible refine Kd.C_drew ?_))); (case side4 => exact HC1.out); rintro e w' ⟨rfl, ⟨nd, rfl⟩⟩; refine ⟨_, rfl, ?_⟩))
     go_ret
     exact ⟨by first | rfl | (simp; done) | (simp [*]; done), by repeat (first | exact Drawn0.refl _ | apply Drawn0.step)⟩
end Go.Proofs.YtkbegfihdpiacaaGreatDoor.PY
