/- Part 9 of the proof: what the theorem reaches of the texts KR13. -/
import Derived.Test.YtkbegfihdpiacaaGreatDoorKT4
import Derived.Test.YtkbegfihdpiacaaGreatDoorKT7
import Derived.Test.YtkbegfihdpiacaaGreatDoorKT8
set_option linter.unusedVariables false
set_option linter.unusedSimpArgs false
namespace Go.Proofs.YtkbegfihdpiacaaGreatDoor.PX
open Go.RowKit Nt Go.Lib Go.Proofs.YtkbegfihdpiacaaGreatDoorW.PrintWords Go.Proofs.YtkbegfihdpiacaaGreatDoorW.PrintLast
def blkNo (n : Nat) : Code → Option Code
 | .block m c => if m = n then some (.block m c) else blkNo n c
 | .seq a b => match blkNo n a with
  | some c => some c
  | none => blkNo n b
 | .cond _ a b => match blkNo n a with
  | some c => some c
  | none => blkNo n b
 | .loop c => blkNo n c
 | .scope c => blkNo n c
 | _ => none
def rgnNo (n : Nat) : Code → Option Code
 | .region m o d => if m = n then some (.region m o d) else none
 | .block _ c => rgnNo n c
 | .seq a b => match rgnNo n a with
  | some c => some c
  | none => rgnNo n b
 | .cond _ a b => match rgnNo n a with
  | some c => some c
  | none => rgnNo n b
 | .loop c => rgnNo n c
 | .scope c => rgnNo n c
 | _ => none
def Fr (ks : List (Nat × Value)) (a : Act) : Prop := a.defers = [] ∧ a.tmps.size = 245 ∧ ∀ p ∈ ks, a.tmps.getD p.1 undef = p.2
set_option maxRecDepth 100000 in
def lit (g : Nat → Value) : Act := ⟨#[g 0, g 1, g 2, g 3, g 4, g 5, g 6, g 7, g 8, g 9, g 10, g 11, g 12, g 13, g 14, g 15, g 16, g 17, g 18, g 19, g 20, g 21, g 22, g 23, g 24, g 25, g 26, g 27, g 28, g 29, g 30, g 31, g 32, g 33, g 34, g 35, g 36, g 37, g 38, g 39, g 40, g 41, g 42, g 43, g 44, g 45, g 46, g 47, g 48, g 49, g 50, g 51, g 52, g 53, g 54, g 55, g 56, g 57, g 58, g 59, g 60, g 61, g 62, g 63, g 64, g 65, g 66, g 67, g 68, g 69, g 70, g 71, g 72, g 73, g 74, g 75, g 76, g 77, g 78, g 79, g 80, g 81, g 82, g 83, g 84, g 85, g 86, g 87, g 88, g 89, g 90, g 91, g 92, g 93, g 94, g 95, g 96, g 97, g 98, g 99, g 100, g 101, g 102, g 103, g 104, g 105, g 106, g 107, g 108, g 109, g 110, g 111, g 112, g 113, g 114, g 115, g 116, g 117, g 118, g 119, g 120, g 121, g 122, g 123, g 124, g 125, g 126, g 127, g 128, g 129, g 130, g 131, g 132, g 133, g 134, g 135, g 136, g 137, g 138, g 139, g 140, g 141, g 142, g 143, g 144, g 145, g 146, g 147, g 148, g 149, g 150, g 151, g 152, g 153, g 154, g 155, g 156, g 157, g 158, g 159, g 160, g 161, g 162, g 163, g 164, g 165, g 166, g 167, g 168, g 169, g 170, g 171, g 172, g 173, g 174, g 175, g 176, g 177, g 178, g 179, g 180, g 181, g 182, g 183, g 184, g 185, g 186, g 187, g 188, g 189, g 190, g 191, g 192, g 193, g 194, g 195, g 196, g 197, g 198, g 199, g 200, g 201, g 202, g 203, g 204, g 205, g 206, g 207, g 208, g 209, g 210, g 211, g 212, g 213, g 214, g 215, g 216, g 217, g 218, g 219, g 220, g 221, g 222, g 223, g 224, g 225, g 226, g 227, g 228, g 229, g 230, g 231, g 232, g 233, g 234, g 235, g 236, g 237, g 238, g 239, g 240, g 241, g 242, g 243, g 244], []⟩
set_option maxRecDepth 100000 in
theorem range245 (g : Nat → Value) : (List.range 245).map g = (lit g).tmps.toList := by rfl
theorem Fr.lit {ks : List (Nat × Value)} {a : Act} (h : Fr ks a) : ∃ g : Nat → Value, a = PX.lit g ∧ ∀ p ∈ ks, g p.1 = p.2 := by
 obtain ⟨h1, h2, h3⟩ := h
 refine ⟨fun i => a.tmps.getD i undef, ?_, h3⟩
 obtain ⟨tmps, defers⟩ := a
 simp only at h1 h2
 subst h1
 have e : tmps.toList = (PX.lit fun i => tmps.getD i undef).tmps.toList := by
  rw [← range245]
  refine List.ext_getElem (by simp [h2]) fun i hi hi' => ?_
  have : i < tmps.size := by simpa using hi
  simp [Array.getD, this]
 have e2 := Array.toList_inj.1 e
 show Act.mk tmps [] = Act.mk (PX.lit fun i => tmps.getD i undef).tmps []
 rw [← e2]
def DPost (w0 w : World) (gd D : Nat) (l : List UInt8) (e : Ending) (w' : World) : Prop :=
 ∃ (n : Nat) (err : Value) (cs' : List Value), e = .returned (.tuple #[.int .i64 (n : Int), err]) ∧ OB w0 w' gd cs' 5 ∧ But w w' gd ∧ cs'.length = D ∧ n ≤ D ∧
  ((err = .nilIface ∧ ∃ bs, Nt.std l = some bs ∧ bs.length = n ∧ cs'.take n = byteCells bs) ∨ ((∃ x : Int, err = .iface 183 (.int .i64 x)) ∧ Nt.std l = none))
theorem DI.done {w0 w wr : World} {gd D si n : Nat} {l : List UInt8} {cs : List Value} {acc : List UInt8} (h : DI w0 w wr gd D l si n cs acc) (he : si = l.length) : Nt.std l = some acc := by
 rw [h.std, he, List.drop_length, show Nt.std [] = some [] by rw [Nt.std]]; simp
theorem DI.nle {w0 w wr : World} {gd D si n : Nat} {l : List UInt8} {cs : List Value} {acc : List UInt8} (h : DI w0 w wr gd D l si n cs acc) : n ≤ D := by
 have := congrArg List.length h.row
 rw [List.length_take, byteCells_length, h.alen, h.len] at this
 omega
theorem wrapk (si k : Nat) (h : si ≤ 2147483647) (hk : k ≤ 8) : wrap64 ((si : Int) + (k : Int)) = ((si + k : Nat) : Int) := by rw [IntWalk.wrap64_in _ ⟨by omega, by omega⟩]; omega
theorem wrapsub (a b : Nat) (h : b ≤ a) (ha : a ≤ 2147483647) : wrap64 ((a : Int) - (b : Int)) = ((a - b : Nat) : Int) := by rw [IntWalk.wrap64_in _ ⟨by omega, by omega⟩]; omega
theorem addk {a b k c : Nat} (h : k ≤ a - b) (h0 : 0 < k) (hc : a ≤ c) : b + k ≤ c := by omega
theorem subk {a b : Nat} (h : 8 ≤ a - b) : (8 : Int) ≤ (a : Int) - (b : Int) := by omega
theorem subk' {a b : Nat} (h : ¬ 8 ≤ a - b) : ¬ (8 : Int) ≤ (a : Int) - (b : Int) := by omega
theorem subq {a b : Nat} (h : 4 ≤ a - b) : (4 : Int) ≤ (a : Int) - (b : Int) := by omega
theorem subq' {a b : Nat} (h : ¬ 4 ≤ a - b) : ¬ (4 : Int) ≤ (a : Int) - (b : Int) := by omega
theorem room8 {a b : Nat} (h : 8 ≤ a - b) : b + 8 ≤ a := by omega
theorem room4 {a b : Nat} (h : 4 ≤ a - b) : b + 4 ≤ a := by omega
theorem capne {D n c : Nat} (h : 8 ≤ D - n) (hc : D ≤ c) : ¬ c = n := by omega
theorem capne4 {D n c : Nat} (h : 4 ≤ D - n) (hc : D ≤ c) : ¬ c = n := by omega
theorem u8_int (b : UInt8) : (b.toNat : Int) < 256 := by have := b.toNat_lt; omega
theorem ltk {a b k i : Nat} (h : k ≤ a - b) (hi : i < k) : b + i < a := by omega
theorem DI.drewN {w0 w wr : World} {gd D si n : Nat} {l : List UInt8} {cs : List Value} {acc : List UInt8} (h : DI w0 w wr gd D l si n cs acc) (m : Nat) : DI w0 w (wr.drewN m) gd D l si n cs acc :=
 ⟨h.own.drewN m, ⟨h.but.size, h.but.block⟩, h.len, h.alen, h.row, h.std, h.le, h.at_⟩
theorem cap_off {w0 w wr : World} {gd D si n capD : Nat} {l : List UInt8} {cs : List Value} {acc : List UInt8} (h : DI w0 w wr gd D l si n cs acc) (hD : D = l.length / 4 * 3) (hlt : si < l.length) (hc : D ≤ capD) (he : capD = n) : 4 ≤ l.length - si → 0 = n := by
 intro h4
 have hat := h.at_.resolve_left (by omega)
 omega
def FrD (ge gd gs D capD L capS n si : Nat) : Act → Prop :=
 Fr [(0, .pointer (some ⟨ge, 0, none⟩)), (1, .slice (some ⟨gd, 0, none⟩) D capD), (2, .slice (some ⟨gs, 0, none⟩) L capS), (6, .int .i64 (n : Int)), (7, .nilIface), (8, .int .i64 (si : Int))]
def FrE (s0 s1 : Nat) (v0 v1 : Value) (ge gd gs D capD L capS n si : Nat) : Act → Prop :=
 Fr [(0, .pointer (some ⟨ge, 0, none⟩)), (1, .slice (some ⟨gd, 0, none⟩) D capD), (2, .slice (some ⟨gs, 0, none⟩) L capS), (6, .int .i64 (n : Int)), (7, .nilIface), (8, .int .i64 (si : Int)), (s0, v0), (s1, v1)]
theorem FrE.open_ {s0 s1 : Nat} {v0 v1 : Value} {ge gd gs D capD L capS n si : Nat} {a : Act} (h : FrE s0 s1 v0 v1 ge gd gs D capD L capS n si a) : ∃ g : Nat → Value, a = PX.lit g ∧ g 0 = .pointer (some ⟨ge, 0, none⟩) ∧ g 1 = .slice (some ⟨gd, 0, none⟩) D capD ∧ g 2 = .slice (some ⟨gs, 0, none⟩) L capS ∧ g 6 = .int .i64 (n : Int) ∧ g 7 = .nilIface ∧ g 8 = .int .i64 (si : Int) ∧ g s0 = v0 ∧ g s1 = v1 := by
 obtain ⟨g, e, hg⟩ := Fr.lit h
 exact ⟨g, e, hg (0, _) (by simp), hg (1, _) (by simp), hg (2, _) (by simp), hg (6, _) (by simp), hg (7, _) (by simp), hg (8, _) (by simp), hg (s0, v0) (by simp), hg (s1, v1) (by simp)⟩
theorem FrE.mk {s0 s1 : Nat} {v0 v1 : Value} {ge gd gs D capD L capS n si : Nat} {a : Act} (hd : a.defers = []) (hs : a.tmps.size = 245) (h0 : a.tmps.getD 0 undef = .pointer (some ⟨ge, 0, none⟩)) (h1 : a.tmps.getD 1 undef = .slice (some ⟨gd, 0, none⟩) D capD) (h2 : a.tmps.getD 2 undef = .slice (some ⟨gs, 0, none⟩) L capS)
  (h6 : a.tmps.getD 6 undef = .int .i64 (n : Int)) (h7 : a.tmps.getD 7 undef = .nilIface) (h8 : a.tmps.getD 8 undef = .int .i64 (si : Int)) (h9 : a.tmps.getD s0 undef = v0) (h10 : a.tmps.getD s1 undef = v1) : FrE s0 s1 v0 v1 ge gd gs D capD L capS n si a := by
 refine ⟨hd, hs, fun p hp => ?_⟩
 simp only [List.mem_cons, List.not_mem_nil, or_false] at hp
 rcases hp with rfl | rfl | rfl | rfl | rfl | rfl | rfl | rfl <;> assumption
def LI (w0 w : World) (ge gd gs D capD : Nat) (l : List UInt8) (capS : Nat) (a : Act) (wr : World) : Prop :=
 ∃ (n si : Nat) (cs : List Value) (acc : List UInt8), FrD ge gd gs D capD l.length capS n si a ∧ DI w0 w wr gd D l si n cs acc
def Lmu (L : Nat) (a : Act) (_ : World) : Nat := L - (intOf (a.tmps.getD 8 undef)).toNat
theorem FrD.open_ {ge gd gs D capD L capS n si : Nat} {a : Act} (h : FrD ge gd gs D capD L capS n si a) : ∃ g : Nat → Value, a = PX.lit g ∧ g 0 = .pointer (some ⟨ge, 0, none⟩) ∧ g 1 = .slice (some ⟨gd, 0, none⟩) D capD ∧ g 2 = .slice (some ⟨gs, 0, none⟩) L capS ∧ g 6 = .int .i64 (n : Int) ∧ g 7 = .nilIface ∧ g 8 = .int .i64 (si : Int) := by
 obtain ⟨g, e, hg⟩ := Fr.lit h
 exact ⟨g, e, hg (0, _) (by simp), hg (1, _) (by simp), hg (2, _) (by simp), hg (6, _) (by simp), hg (7, _) (by simp), hg (8, _) (by simp)⟩
theorem FrD.mk {ge gd gs D capD L capS n si : Nat} {a : Act} (hd : a.defers = []) (hs : a.tmps.size = 245) (h0 : a.tmps.getD 0 undef = .pointer (some ⟨ge, 0, none⟩)) (h1 : a.tmps.getD 1 undef = .slice (some ⟨gd, 0, none⟩) D capD) (h2 : a.tmps.getD 2 undef = .slice (some ⟨gs, 0, none⟩) L capS)
  (h6 : a.tmps.getD 6 undef = .int .i64 (n : Int)) (h7 : a.tmps.getD 7 undef = .nilIface) (h8 : a.tmps.getD 8 undef = .int .i64 (si : Int)) : FrD ge gd gs D capD L capS n si a := by
 refine ⟨hd, hs, fun p hp => ?_⟩
 simp only [List.mem_cons, List.not_mem_nil, or_false] at hp
 rcases hp with rfl | rfl | rfl | rfl | rfl | rfl <;> assumption
theorem FrD.mu {ge gd gs D capD L capS n si : Nat} {a : Act} (h : FrD ge gd gs D capD L capS n si a) (w : World) : Lmu L a w = L - si := by
 have := h.2.2 (8, .int .i64 (si : Int)) (by simp)
 unfold Lmu
 rw [show a.tmps.getD 8 undef = .int .i64 (si : Int) from this]
 rfl
theorem LI.next {w0 w : World} {ge gd gs D capD capS : Nat} (n' : Nat) {si si' : Nat} {l : List UInt8} {cs : List Value} {acc : List UInt8} {a a' : Act} {wr w' : World} (hmu : Lmu l.length a wr = l.length - si) (hF' : FrD ge gd gs D capD l.length capS n' si' a')
  (hlt : si < l.length) (hs : si < si') (h : DI w0 w w' gd D l si' n' cs acc) : LI w0 w ge gd gs D capD l capS a' w' ∧ Lmu l.length a' w' < Lmu l.length a wr :=
 ⟨⟨n', si', cs, acc, hF', h⟩, by rw [hmu, hF'.mu]; omega⟩
structure DH (w0 w : World) (ge gs gd D : Nat) (l : List UInt8) (capS capD : Nat) : Prop where
 he : EncR w ge
 hs : SrcR w gs l
 hge : ge ≠ gd
 hgs : gs ≠ gd
 hsl : l ≠ [] → gs < w.heap.size
 hL : l.length ≤ 2147483647
 hnl : ∀ b ∈ l, b ≠ 10 ∧ b ≠ 13
 hD : D = l.length / 4 * 3
 hcS : l.length ≤ capS
 hcD : D ≤ capD
noncomputable def dBlk (n : Nat) : Code := (Tryz.f62.body.bind (blkNo n)).getD .skip
set_option maxRecDepth 100000 in
set_option maxHeartbeats 4000000 in
theorem dec_l1 (w0 w wr : World) (ge gs gd D : Nat) (l : List UInt8) (capS capD : Nat) (H : DH w0 w ge gs gd D l capS capD) (a : Act) (hI : LI w0 w ge gd gs D capD l capS a wr) (K : Act → World → Prop) (Q : Exit → Act → World → Prop)
  (hK : ∀ a' w', LI w0 w ge gd gs D capD l capS a' w' → K a' w') (hQ : Q = bodyPost Tryz.prog Tryz.f62 (DPost w0 w gd D l)) :
  (dBlk 0).wp Tryz.prog (Exit.then K Q) a wr := by
 subst hQ
 conv => arg 2; whnf
 have HK := Lib.hid hK
 have HH := Lib.hid H
 have hL := H.hL
 have hcS := H.hcS
 have hDL : D ≤ l.length := by have := H.hD; omega
 clear hK H
 refine wp_block ?_
 refine wp_loop (LI w0 w ge gd gs D capD l capS) (Lmu l.length) hI ?_
 clear hI
 intro a wr hI
 obtain ⟨n, si, cs1, acc, hF, hd⟩ := hI
 have HJ := Lib.hid hd
 clear hd
 obtain ⟨g, rfl, k0, k1, k2, k6, k7, k8⟩ := hF.open_
 clear hF
 unfold lit
 simp only [k0, k1, k2, k6, k7, k8]
 clear k0 k1 k2 k6 k7 k8
 have hsl := HJ.out.le
 have hnD := HJ.out.nle
 have e1 : wrap64 ((l.length : Int) - (si : Int)) = ((l.length - si : Nat) : Int) := wrapsub _ _ hsl hL
 have e2 : wrap64 ((D : Int) - (n : Int)) = ((D - n : Nat) : Int) := wrapsub _ _ hnD (Nat.le_trans hDL hL)
 by_cases h8 : 8 ≤ l.length - si
 ·have h8a : decide ((8 : Int) ≤ ((l.length - si : Nat) : Int)) = true := decide_eq_true (Int.ofNat_le.2 h8)
  have h8b : decide (8 ≤ l.length - si) = true := decide_eq_true h8
  have h8c : decide ((8 : Int) ≤ (l.length : Int) - (si : Int)) = true := decide_eq_true (subk h8)
  by_cases h8D : 8 ≤ D - n
  ·have h8Da : decide ((8 : Int) ≤ ((D - n : Nat) : Int)) = true := decide_eq_true (Int.ofNat_le.2 h8D)
   have h8Db : decide (8 ≤ D - n) = true := decide_eq_true h8D
   have h8Dc : decide ((8 : Int) ≤ (D : Int) - (n : Int)) = true := decide_eq_true (subk h8D)
   have H8 := Lib.hid h8
   have H8D := Lib.hid h8D
   have HnD := Lib.hid hnD
   have Hsl := Lib.hid hsl
   have HSL : Hid (gs < w.heap.size) := Lib.hid (HH.out.hsl (fun e => by rw [e] at h8; simp at h8))
   have w8 : wrap64 ((si : Int) + 8) = (si : Int) + 8 := wrapk si 8 (Nat.le_trans hsl hL) (by decide)
   have u1 : si + 8 ≤ capS := addk h8 (by decide) hcS
   have u2 : (si : Int) + 8 ≤ (capS : Int) := Int.ofNat_le.2 u1
   have u3 : si ≤ si + 8 := Nat.le_add_right _ _
   have u4 : (si : Int) ≤ (si : Int) + 8 := Int.ofNat_le.2 u3
   have u5 : (0 : Int) ≤ (si : Int) + 8 := Int.natCast_nonneg (si + 8)
   have u6 : si + 8 - si = 8 := Nat.add_sub_cancel_left si 8
   clear h8 h8D hnD hsl
   go_upto_region 7 with fail
   rw [u6]
   clear w8 u1 u2 u3 u4 u5 u6 e1 e2 h8a h8b h8c h8Da h8Db h8Dc
   refine wp_cut (fun a' wc => ∃ (v m : Nat) (ok : Bool), FrE 10 11 (.int .u64 (v : Int)) (.bool ok) ge gd gs D capD l.length capS n si a' ∧ wc = wr.drewN m ∧ Hid (ok = true → Fast8 l si v)) ?_ ?_
   rotate_left
   ·intro J K' hJ hK'
    obtain ⟨ba, hba⟩ : ∃ ba, l[si]? = some ba := ⟨_, List.getElem?_eq_getElem (ltk (i := 0) H8.out (by decide))⟩
    have cba := (HH.out.hs.keep (HJ.out.but.block gs (HSL.out) HH.out.hgs)) _ _ hba
    have fba := (HH.out.he.keep (HJ.out.but.block ge HH.out.he.lt HH.out.hge)).fig ba
    have Lba := u8_int ba
    obtain ⟨bb, hbb⟩ : ∃ bb, l[si + 1]? = some bb := ⟨_, List.getElem?_eq_getElem (ltk (i := 1) H8.out (by decide))⟩
    have cbb := (HH.out.hs.keep (HJ.out.but.block gs (HSL.out) HH.out.hgs)) _ _ hbb
    have fbb := (HH.out.he.keep (HJ.out.but.block ge HH.out.he.lt HH.out.hge)).fig bb
    have Lbb := u8_int bb
    obtain ⟨bc, hbc⟩ : ∃ bc, l[si + 2]? = some bc := ⟨_, List.getElem?_eq_getElem (ltk (i := 2) H8.out (by decide))⟩
    have cbc := (HH.out.hs.keep (HJ.out.but.block gs (HSL.out) HH.out.hgs)) _ _ hbc
    have fbc := (HH.out.he.keep (HJ.out.but.block ge HH.out.he.lt HH.out.hge)).fig bc
    have Lbc := u8_int bc
    obtain ⟨bd, hbd⟩ : ∃ bd, l[si + 3]? = some bd := ⟨_, List.getElem?_eq_getElem (ltk (i := 3) H8.out (by decide))⟩
    have cbd := (HH.out.hs.keep (HJ.out.but.block gs (HSL.out) HH.out.hgs)) _ _ hbd
    have fbd := (HH.out.he.keep (HJ.out.but.block ge HH.out.he.lt HH.out.hge)).fig bd
    have Lbd := u8_int bd
    obtain ⟨be, hbe⟩ : ∃ be, l[si + 4]? = some be := ⟨_, List.getElem?_eq_getElem (ltk (i := 4) H8.out (by decide))⟩
    have cbe := (HH.out.hs.keep (HJ.out.but.block gs (HSL.out) HH.out.hgs)) _ _ hbe
    have fbe := (HH.out.he.keep (HJ.out.but.block ge HH.out.he.lt HH.out.hge)).fig be
    have Lbe := u8_int be
    obtain ⟨bf, hbf⟩ : ∃ bf, l[si + 5]? = some bf := ⟨_, List.getElem?_eq_getElem (ltk (i := 5) H8.out (by decide))⟩
    have cbf := (HH.out.hs.keep (HJ.out.but.block gs (HSL.out) HH.out.hgs)) _ _ hbf
    have fbf := (HH.out.he.keep (HJ.out.but.block ge HH.out.he.lt HH.out.hge)).fig bf
    have Lbf := u8_int bf
    obtain ⟨bg, hbg⟩ : ∃ bg, l[si + 6]? = some bg := ⟨_, List.getElem?_eq_getElem (ltk (i := 6) H8.out (by decide))⟩
    have cbg := (HH.out.hs.keep (HJ.out.but.block gs (HSL.out) HH.out.hgs)) _ _ hbg
    have fbg := (HH.out.he.keep (HJ.out.but.block ge HH.out.he.lt HH.out.hge)).fig bg
    have Lbg := u8_int bg
    obtain ⟨bh, hbh⟩ : ∃ bh, l[si + 7]? = some bh := ⟨_, List.getElem?_eq_getElem (ltk (i := 7) H8.out (by decide))⟩
    have cbh := (HH.out.hs.keep (HJ.out.but.block gs (HSL.out) HH.out.hgs)) _ _ hbh
    have fbh := (HH.out.he.keep (HJ.out.but.block ge HH.out.he.lt HH.out.hge)).fig bh
    have Lbh := u8_int bh
    obtain ⟨v, ok, ha, hok⟩ := asm8 hba hbb hbc hbd hbe hbf hbg hbh
    have cA := fun W => base64_assemble64.calls _ _ _ _ _ _ _ _ _ _ W ha
    have HOK := Lib.hid hok
    have HJ' := Lib.hid hJ
    clear ha hok hba hbb hbc hbd hbe hbf hbg hbh hJ
    go_quiet ((go_at_call 74; refine (cA _).mono ?_; rintro e w2 ⟨rfl, ⟨m, rfl⟩⟩; exact ⟨rfl, _, World.drewN_drewN _ _ _⟩))
    go_wp2_with fail
    exact Met.intro (HJ'.out _ _ ⟨v, _, ok, FrE.mk rfl rfl rfl rfl rfl rfl rfl rfl rfl rfl, rfl, HOK⟩)
   ·skip
    rintro a' wc ⟨v, m, ok, hF, rfl, HOK⟩
    have HJm := Lib.hid (show DI w0 w (wr.drewN m) gd D l si n cs1 acc from HJ.out.drewN m)
    obtain ⟨g, rfl, k0, k1, k2, k6, k7, k8, k9, k10⟩ := hF.open_
    clear hF
    unfold lit
    simp only [k0, k1, k2, k6, k7, k8, k9, k10]
    clear k0 k1 k2 k6 k7 k8 k9 k10
    have hnD := HnD.out
    have nDi : (n : Int) ≤ (D : Int) := Int.ofNat_le.2 hnD
    have hcn : ¬ capD = n := capne H8D.out HH.out.hcD
    have HLT := Lib.hid (ltk (i := 0) H8.out (by decide))
    cases ok with
    | true =>
     have hp := put64 w0 (wr.drewN m) gd n v (capD - n) cs1 HJm.out.own (by rw [HJm.out.len]; exact room8 H8D.out)
     rw [HJm.out.len] at hp
     go_wp2_with (go_at_call 75; refine hp.mono ?_; rintro e w3 ⟨rfl, ho3, hb3⟩; have HO3 := Lib.hid ho3; have HB3 := Lib.hid hb3; clear ho3 hb3)
     obtain ⟨cs', acc', hd⟩ := HJm.out.fast8 (HOK.out (by first | rfl | trivial)) (room8 H8D.out) HO3.out HB3.out
     exact LI.next (n + 6) (si' := si + 8) rfl (FrD.mk rfl rfl rfl rfl rfl (by first | rfl | exact congrArg (Value.int .i64) (wrapk n 6 (Nat.le_trans hnD (Nat.le_trans hDL hL)) (by decide))) rfl (by first | rfl | exact congrArg (Value.int .i64) (wrapk si 8 (Nat.le_trans Hsl.out hL) (by decide)))) HLT.out (Nat.lt_add_of_pos_right (by decide)) hd
    | false =>
     have hq := quantI w0 w (wr.drewN m) ge gs gd D l si n n capS (capD - n) cs1 acc HH.out.he HH.out.hs HH.out.hge HH.out.hgs HH.out.hsl hL HH.out.hnl HH.out.hD HLT.out (fun _ => rfl) HJm.out
     go_upto_region 14 with (go_at_call 76; refine hq.mono ?_; rintro e w3 ⟨si', n', err, rfl, hn3, hcase⟩)
     rcases hcase with ⟨rfl, hlt', cs', acc', hd⟩ | ⟨⟨x, rfl⟩, hnone, hle, cs', hcl, ho3, hb3⟩
     ·have HD' := Lib.hid hd
      have HLT' := Lib.hid hlt'
      have nw : wrap64 ((n : Int) + (n' : Int)) = ((n + n' : Nat) : Int) := wrapk n n' (Nat.le_trans hnD (Nat.le_trans hDL hL)) (Nat.le_trans hn3 (by decide))
      clear hd hlt'
      go_wp2
      exact LI.next (n + n') rfl (FrD.mk rfl rfl rfl rfl rfl (by first | rfl | exact congrArg (Value.int .i64) nw) rfl rfl) HLT.out HLT'.out HD'.out
     ·have HX := Lib.hid (And.intro hnone (And.intro hle (And.intro hcl (And.intro ho3 hb3))))
      clear hnone hle hcl ho3 hb3
      have nw : wrap64 ((n : Int) + (n' : Int)) = ((n + n' : Nat) : Int) := wrapk n n' (Nat.le_trans hnD (Nat.le_trans hDL hL)) (Nat.le_trans hn3 (by decide))
      go_wp2
      go_ret2
      exact ⟨n + n', _, cs', congrArg (fun z => Ending.returned (.tuple #[.int .i64 z, _])) (by first | rfl | exact nw), HX.out.2.2.2.1, HX.out.2.2.2.2, HX.out.2.2.1, HX.out.2.1, .inr ⟨⟨x, rfl⟩, HX.out.1⟩⟩
  ·have h8Da : decide ((8 : Int) ≤ ((D - n : Nat) : Int)) = false := decide_eq_false (by omega)
   have h8Db : decide (8 ≤ D - n) = false := decide_eq_false h8D
   have h8Dc : decide ((8 : Int) ≤ (D : Int) - (n : Int)) = false := decide_eq_false (subk' h8D)
   go_wp2
   exact HK.out _ _ ⟨n, si, cs1, acc, FrD.mk rfl rfl rfl rfl rfl rfl rfl rfl, HJ.out⟩
 ·have h8a : decide ((8 : Int) ≤ ((l.length - si : Nat) : Int)) = false := decide_eq_false (by omega)
  have h8b : decide (8 ≤ l.length - si) = false := decide_eq_false h8
  have h8c : decide ((8 : Int) ≤ (l.length : Int) - (si : Int)) = false := decide_eq_false (subk' h8)
  go_wp2
  exact HK.out _ _ ⟨n, si, cs1, acc, FrD.mk rfl rfl rfl rfl rfl rfl rfl rfl, HJ.out⟩
set_option maxRecDepth 100000 in
set_option maxHeartbeats 4000000 in
theorem dec_l2 (w0 w wr : World) (ge gs gd D : Nat) (l : List UInt8) (capS capD : Nat) (H : DH w0 w ge gs gd D l capS capD) (a : Act) (hI : LI w0 w ge gd gs D capD l capS a wr) (K : Act → World → Prop) (Q : Exit → Act → World → Prop)
  (hK : ∀ a' w', LI w0 w ge gd gs D capD l capS a' w' → K a' w') (hQ : Q = bodyPost Tryz.prog Tryz.f62 (DPost w0 w gd D l)) :
  (dBlk 2).wp Tryz.prog (Exit.then K Q) a wr := by
 subst hQ
 conv => arg 2; whnf
 have HK := Lib.hid hK
 have HH := Lib.hid H
 have hL := H.hL
 have hcS := H.hcS
 have hDL : D ≤ l.length := by have := H.hD; omega
 clear hK H
 refine wp_block ?_
 refine wp_loop (LI w0 w ge gd gs D capD l capS) (Lmu l.length) hI ?_
 clear hI
 intro a wr hI
 obtain ⟨n, si, cs1, acc, hF, hd⟩ := hI
 have HJ := Lib.hid hd
 clear hd
 obtain ⟨g, rfl, k0, k1, k2, k6, k7, k8⟩ := hF.open_
 clear hF
 unfold lit
 simp only [k0, k1, k2, k6, k7, k8]
 clear k0 k1 k2 k6 k7 k8
 have hsl := HJ.out.le
 have hnD := HJ.out.nle
 have e1 : wrap64 ((l.length : Int) - (si : Int)) = ((l.length - si : Nat) : Int) := wrapsub _ _ hsl hL
 have e2 : wrap64 ((D : Int) - (n : Int)) = ((D - n : Nat) : Int) := wrapsub _ _ hnD (Nat.le_trans hDL hL)
 by_cases h8 : 4 ≤ l.length - si
 ·have h8a : decide ((4 : Int) ≤ ((l.length - si : Nat) : Int)) = true := decide_eq_true (Int.ofNat_le.2 h8)
  have h8b : decide (4 ≤ l.length - si) = true := decide_eq_true h8
  have h8c : decide ((4 : Int) ≤ (l.length : Int) - (si : Int)) = true := decide_eq_true (subq h8)
  by_cases h8D : 4 ≤ D - n
  ·have h8Da : decide ((4 : Int) ≤ ((D - n : Nat) : Int)) = true := decide_eq_true (Int.ofNat_le.2 h8D)
   have h8Db : decide (4 ≤ D - n) = true := decide_eq_true h8D
   have h8Dc : decide ((4 : Int) ≤ (D : Int) - (n : Int)) = true := decide_eq_true (subq h8D)
   have H8 := Lib.hid h8
   have H8D := Lib.hid h8D
   have HnD := Lib.hid hnD
   have Hsl := Lib.hid hsl
   have HSL : Hid (gs < w.heap.size) := Lib.hid (HH.out.hsl (fun e => by rw [e] at h8; simp at h8))
   have w8 : wrap64 ((si : Int) + 4) = (si : Int) + 4 := wrapk si 4 (Nat.le_trans hsl hL) (by decide)
   have u1 : si + 4 ≤ capS := addk h8 (by decide) hcS
   have u2 : (si : Int) + 4 ≤ (capS : Int) := Int.ofNat_le.2 u1
   have u3 : si ≤ si + 4 := Nat.le_add_right _ _
   have u4 : (si : Int) ≤ (si : Int) + 4 := Int.ofNat_le.2 u3
   have u5 : (0 : Int) ≤ (si : Int) + 4 := Int.natCast_nonneg (si + 4)
   have u6 : si + 4 - si = 4 := Nat.add_sub_cancel_left si 4
   clear h8 h8D hnD hsl
   go_upto_region 19 with fail
   rw [u6]
   clear w8 u1 u2 u3 u4 u5 u6 e1 e2 h8a h8b h8c h8Da h8Db h8Dc
   refine wp_cut (fun a' wc => ∃ (v m : Nat) (ok : Bool), FrE 14 15 (.int .u32 (v : Int)) (.bool ok) ge gd gs D capD l.length capS n si a' ∧ wc = wr.drewN m ∧ Hid (ok = true → Fast4 l si v)) ?_ ?_
   rotate_left
   ·intro J K' hJ hK'
    obtain ⟨ba, hba⟩ : ∃ ba, l[si]? = some ba := ⟨_, List.getElem?_eq_getElem (ltk (i := 0) H8.out (by decide))⟩
    have cba := (HH.out.hs.keep (HJ.out.but.block gs (HSL.out) HH.out.hgs)) _ _ hba
    have fba := (HH.out.he.keep (HJ.out.but.block ge HH.out.he.lt HH.out.hge)).fig ba
    have Lba := u8_int ba
    obtain ⟨bb, hbb⟩ : ∃ bb, l[si + 1]? = some bb := ⟨_, List.getElem?_eq_getElem (ltk (i := 1) H8.out (by decide))⟩
    have cbb := (HH.out.hs.keep (HJ.out.but.block gs (HSL.out) HH.out.hgs)) _ _ hbb
    have fbb := (HH.out.he.keep (HJ.out.but.block ge HH.out.he.lt HH.out.hge)).fig bb
    have Lbb := u8_int bb
    obtain ⟨bc, hbc⟩ : ∃ bc, l[si + 2]? = some bc := ⟨_, List.getElem?_eq_getElem (ltk (i := 2) H8.out (by decide))⟩
    have cbc := (HH.out.hs.keep (HJ.out.but.block gs (HSL.out) HH.out.hgs)) _ _ hbc
    have fbc := (HH.out.he.keep (HJ.out.but.block ge HH.out.he.lt HH.out.hge)).fig bc
    have Lbc := u8_int bc
    obtain ⟨bd, hbd⟩ : ∃ bd, l[si + 3]? = some bd := ⟨_, List.getElem?_eq_getElem (ltk (i := 3) H8.out (by decide))⟩
    have cbd := (HH.out.hs.keep (HJ.out.but.block gs (HSL.out) HH.out.hgs)) _ _ hbd
    have fbd := (HH.out.he.keep (HJ.out.but.block ge HH.out.he.lt HH.out.hge)).fig bd
    have Lbd := u8_int bd
    obtain ⟨v, ok, ha, hok⟩ := asm4 hba hbb hbc hbd
    have cA := fun W => base64_assemble32.calls _ _ _ _ _ _ W ha
    have HOK := Lib.hid hok
    have HJ' := Lib.hid hJ
    clear ha hok hba hbb hbc hbd hJ
    go_quiet ((go_at_call 77; refine (cA _).mono ?_; rintro e w2 ⟨rfl, ⟨m, rfl⟩⟩; exact ⟨rfl, _, World.drewN_drewN _ _ _⟩))
    go_wp2_with fail
    exact Met.intro (HJ'.out _ _ ⟨v, _, ok, FrE.mk rfl rfl rfl rfl rfl rfl rfl rfl rfl rfl, rfl, HOK⟩)
   ·skip
    rintro a' wc ⟨v, m, ok, hF, rfl, HOK⟩
    have HJm := Lib.hid (show DI w0 w (wr.drewN m) gd D l si n cs1 acc from HJ.out.drewN m)
    obtain ⟨g, rfl, k0, k1, k2, k6, k7, k8, k9, k10⟩ := hF.open_
    clear hF
    unfold lit
    simp only [k0, k1, k2, k6, k7, k8, k9, k10]
    clear k0 k1 k2 k6 k7 k8 k9 k10
    have hnD := HnD.out
    have nDi : (n : Int) ≤ (D : Int) := Int.ofNat_le.2 hnD
    have hcn : ¬ capD = n := capne4 H8D.out HH.out.hcD
    have HLT := Lib.hid (ltk (i := 0) H8.out (by decide))
    cases ok with
    | true =>
     have hp := put32 w0 (wr.drewN m) gd n v (capD - n) cs1 HJm.out.own (by rw [HJm.out.len]; exact room4 H8D.out)
     rw [HJm.out.len] at hp
     go_wp2_with (go_at_call 78; refine hp.mono ?_; rintro e w3 ⟨rfl, ho3, hb3⟩; have HO3 := Lib.hid ho3; have HB3 := Lib.hid hb3; clear ho3 hb3)
     obtain ⟨cs', acc', hd⟩ := HJm.out.fast4 (HOK.out (by first | rfl | trivial)) (room4 H8D.out) HO3.out HB3.out
     exact LI.next (n + 3) (si' := si + 4) rfl (FrD.mk rfl rfl rfl rfl rfl (by first | rfl | exact congrArg (Value.int .i64) (wrapk n 3 (Nat.le_trans hnD (Nat.le_trans hDL hL)) (by decide))) rfl (by first | rfl | exact congrArg (Value.int .i64) (wrapk si 4 (Nat.le_trans Hsl.out hL) (by decide)))) HLT.out (Nat.lt_add_of_pos_right (by decide)) hd
    | false =>
     have hq := quantI w0 w (wr.drewN m) ge gs gd D l si n n capS (capD - n) cs1 acc HH.out.he HH.out.hs HH.out.hge HH.out.hgs HH.out.hsl hL HH.out.hnl HH.out.hD HLT.out (fun _ => rfl) HJm.out
     go_upto_region 26 with (go_at_call 76; refine hq.mono ?_; rintro e w3 ⟨si', n', err, rfl, hn3, hcase⟩)
     rcases hcase with ⟨rfl, hlt', cs', acc', hd⟩ | ⟨⟨x, rfl⟩, hnone, hle, cs', hcl, ho3, hb3⟩
     ·have HD' := Lib.hid hd
      have HLT' := Lib.hid hlt'
      have nw : wrap64 ((n : Int) + (n' : Int)) = ((n + n' : Nat) : Int) := wrapk n n' (Nat.le_trans hnD (Nat.le_trans hDL hL)) (Nat.le_trans hn3 (by decide))
      clear hd hlt'
      go_wp2
      exact LI.next (n + n') rfl (FrD.mk rfl rfl rfl rfl rfl (by first | rfl | exact congrArg (Value.int .i64) nw) rfl rfl) HLT.out HLT'.out HD'.out
     ·have HX := Lib.hid (And.intro hnone (And.intro hle (And.intro hcl (And.intro ho3 hb3))))
      clear hnone hle hcl ho3 hb3
      have nw : wrap64 ((n : Int) + (n' : Int)) = ((n + n' : Nat) : Int) := wrapk n n' (Nat.le_trans hnD (Nat.le_trans hDL hL)) (Nat.le_trans hn3 (by decide))
      go_wp2
      go_ret2
      exact ⟨n + n', _, cs', congrArg (fun z => Ending.returned (.tuple #[.int .i64 z, _])) (by first | rfl | exact nw), HX.out.2.2.2.1, HX.out.2.2.2.2, HX.out.2.2.1, HX.out.2.1, .inr ⟨⟨x, rfl⟩, HX.out.1⟩⟩
  ·have h8Da : decide ((4 : Int) ≤ ((D - n : Nat) : Int)) = false := decide_eq_false (by omega)
   have h8Db : decide (4 ≤ D - n) = false := decide_eq_false h8D
   have h8Dc : decide ((4 : Int) ≤ (D : Int) - (n : Int)) = false := decide_eq_false (subq' h8D)
   go_wp2
   exact HK.out _ _ ⟨n, si, cs1, acc, FrD.mk rfl rfl rfl rfl rfl rfl rfl rfl, HJ.out⟩
 ·have h8a : decide ((4 : Int) ≤ ((l.length - si : Nat) : Int)) = false := decide_eq_false (by omega)
  have h8b : decide (4 ≤ l.length - si) = false := decide_eq_false h8
  have h8c : decide ((4 : Int) ≤ (l.length : Int) - (si : Int)) = false := decide_eq_false (subq' h8)
  go_wp2
  exact HK.out _ _ ⟨n, si, cs1, acc, FrD.mk rfl rfl rfl rfl rfl rfl rfl rfl, HJ.out⟩
set_option maxRecDepth 100000 in
set_option maxHeartbeats 4000000 in
theorem dec_l3 (w0 w wr : World) (ge gs gd D : Nat) (l : List UInt8) (capS capD : Nat) (H : DH w0 w ge gs gd D l capS capD) (a : Act) (hI : LI w0 w ge gd gs D capD l capS a wr) (K : Act → World → Prop) (Q : Exit → Act → World → Prop)
  (hK : ∀ a' w', LI w0 w ge gd gs D capD l capS a' w' → (∃ n cs acc, FrD ge gd gs D capD l.length capS n l.length a' ∧ DI w0 w w' gd D l l.length n cs acc) → K a' w') (hQ : Q = bodyPost Tryz.prog Tryz.f62 (DPost w0 w gd D l)) :
  (dBlk 4).wp Tryz.prog (Exit.then K Q) a wr := by
 subst hQ
 conv => arg 2; whnf
 have HK := Lib.hid hK
 have HH := Lib.hid H
 have hL := H.hL
 have hDL : D ≤ l.length := by have := H.hD; omega
 clear hK H
 refine wp_block ?_
 refine wp_loop (LI w0 w ge gd gs D capD l capS) (Lmu l.length) hI ?_
 clear hI
 intro a wr hI
 obtain ⟨n, si, cs1, acc, hF, hd⟩ := hI
 have HJ := Lib.hid hd
 clear hd
 obtain ⟨g, rfl, k0, k1, k2, k6, k7, k8⟩ := hF.open_
 clear hF
 unfold lit
 simp only [k0, k1, k2, k6, k7, k8]
 clear k0 k1 k2 k6 k7 k8
 have hnD := HJ.out.nle
 by_cases hlt : si < l.length
 ·have hlt1 : decide ((si : Int) < (l.length : Int)) = true := decide_eq_true (Int.ofNat_lt.2 hlt)
  have hlt2 : decide (si < l.length) = true := decide_eq_true hlt
  have nDi : (n : Int) ≤ (D : Int) := Int.ofNat_le.2 hnD
  have HLT := Lib.hid hlt
  by_cases hcn : capD = n
  ·have hq := quantI w0 w wr ge gs gd D l si n 0 capS 0 cs1 acc HH.out.he HH.out.hs HH.out.hge HH.out.hgs HH.out.hsl hL HH.out.hnl HH.out.hD hlt (cap_off HJ.out HH.out.hD hlt HH.out.hcD hcn) HJ.out
   clear hlt
   subst hcn
   go_upto_region 32 with (go_at_call 76; refine hq.mono ?_; rintro e w3 ⟨si', n', err, rfl, hn3, hcase⟩)
   rcases hcase with ⟨rfl, hlt', cs', acc', hd⟩ | ⟨⟨x, rfl⟩, hnone, hle, cs', hcl, ho3, hb3⟩
   ·have HD' := Lib.hid hd
    have HLT' := Lib.hid hlt'
    have nw : wrap64 ((capD : Int) + (n' : Int)) = ((capD + n' : Nat) : Int) := wrapk capD n' (Nat.le_trans hnD (Nat.le_trans hDL hL)) (Nat.le_trans hn3 (by decide))
    clear hd hlt'
    go_wp2
    exact LI.next (capD + n') rfl (FrD.mk rfl rfl rfl rfl rfl (by first | rfl | exact congrArg (Value.int .i64) nw) rfl rfl) HLT.out HLT'.out HD'.out
   ·have HX := Lib.hid (And.intro hnone (And.intro hle (And.intro hcl (And.intro ho3 hb3))))
    clear hnone hle hcl ho3 hb3
    have nw : wrap64 ((capD : Int) + (n' : Int)) = ((capD + n' : Nat) : Int) := wrapk capD n' (Nat.le_trans hnD (Nat.le_trans hDL hL)) (Nat.le_trans hn3 (by decide))
    go_wp2
    go_ret2
    exact ⟨capD + n', _, cs', congrArg (fun z => Ending.returned (.tuple #[.int .i64 z, _])) (by first | rfl | exact nw), HX.out.2.2.2.1, HX.out.2.2.2.2, HX.out.2.2.1, HX.out.2.1, .inr ⟨⟨x, rfl⟩, HX.out.1⟩⟩
  ·have hq := quantI w0 w wr ge gs gd D l si n n capS (capD - n) cs1 acc HH.out.he HH.out.hs HH.out.hge HH.out.hgs HH.out.hsl hL HH.out.hnl HH.out.hD hlt (fun _ => rfl) HJ.out
   clear hlt
   go_upto_region 32 with (go_at_call 76; refine hq.mono ?_; rintro e w3 ⟨si', n', err, rfl, hn3, hcase⟩)
   rcases hcase with ⟨rfl, hlt', cs', acc', hd⟩ | ⟨⟨x, rfl⟩, hnone, hle, cs', hcl, ho3, hb3⟩
   ·have HD' := Lib.hid hd
    have HLT' := Lib.hid hlt'
    have nw : wrap64 ((n : Int) + (n' : Int)) = ((n + n' : Nat) : Int) := wrapk n n' (Nat.le_trans hnD (Nat.le_trans hDL hL)) (Nat.le_trans hn3 (by decide))
    clear hd hlt'
    go_wp2
    exact LI.next (n + n') rfl (FrD.mk rfl rfl rfl rfl rfl (by first | rfl | exact congrArg (Value.int .i64) nw) rfl rfl) HLT.out HLT'.out HD'.out
   ·have HX := Lib.hid (And.intro hnone (And.intro hle (And.intro hcl (And.intro ho3 hb3))))
    clear hnone hle hcl ho3 hb3
    have nw : wrap64 ((n : Int) + (n' : Int)) = ((n + n' : Nat) : Int) := wrapk n n' (Nat.le_trans hnD (Nat.le_trans hDL hL)) (Nat.le_trans hn3 (by decide))
    go_wp2
    go_ret2
    exact ⟨n + n', _, cs', congrArg (fun z => Ending.returned (.tuple #[.int .i64 z, _])) (by first | rfl | exact nw), HX.out.2.2.2.1, HX.out.2.2.2.2, HX.out.2.2.1, HX.out.2.1, .inr ⟨⟨x, rfl⟩, HX.out.1⟩⟩
 ·have hlt1 : decide ((si : Int) < (l.length : Int)) = false := decide_eq_false (fun h => hlt (Int.ofNat_lt.1 h))
  have hlt2 : decide (si < l.length) = false := decide_eq_false hlt
  have hsi := Nat.le_antisymm HJ.out.le (Nat.le_of_not_lt hlt)
  have HSI := Lib.hid hsi
  clear hsi
  go_wp2
  refine HK.out _ _ ⟨n, si, cs1, acc, FrD.mk rfl rfl rfl rfl rfl rfl rfl rfl, HJ.out⟩ ⟨n, cs1, acc, ?_, HSI.out ▸ HJ.out⟩
  exact FrD.mk rfl rfl rfl rfl rfl rfl rfl (congrArg (fun z : Nat => Value.int .i64 (z : Int)) HSI.out)
set_option maxRecDepth 100000 in
set_option maxHeartbeats 2000000 in
theorem decode (w0 w : World) (ge gs gd D : Nat) (l : List UInt8) (capS capD : Nat) (cs : List Value) (H : DH w0 w ge gs gd D l capS capD) (ho : OB w0 w gd cs 5) (hcs : cs.length = D) :
  Calls Tryz.prog 62 #[.pointer (some ⟨ge, 0, none⟩), .slice (some ⟨gd, 0, none⟩) D capD, .slice (some ⟨gs, 0, none⟩) l.length capS] w (DPost w0 w gd D l) := by
 have HI := Lib.hid (show DI w0 w w gd D l 0 0 cs [] from ⟨ho, But.refl _ _, hcs, rfl, rfl, by cases h : Nt.std l <;> simp [h], Nat.zero_le _, .inr ⟨rfl, rfl⟩⟩)
 have HH := Lib.hid H
 have HO := Lib.hid ho
 obtain ⟨X, hX⟩ := enc_whole H.he
 clear H ho hcs
 by_cases h0 : l.length = 0
 ·have h0' : ((l.length : Int) == 0) = true := beq_iff_eq.2 (by omega)
  have hnil := List.length_eq_zero_iff.1 h0
  have HNIL := Lib.hid hnil
  clear hX hnil
  go_enter Tryz.func62, Tryz.ntmps62
  go_wp2
  go_ret2
  exact ⟨0, _, cs, rfl, HO.out, But.refl _ _, HI.out.len, Nat.zero_le _, .inl ⟨rfl, [], by rw [HNIL.out, Nt.std], rfl, rfl⟩⟩
 ·have h0' : ((l.length : Int) == 0) = false := beq_eq_false_iff_ne.2 (by omega)
  go_enter Tryz.func62, Tryz.ntmps62
  go_upto_region 4 with fail
  refine wp_load_of 159 _ rfl ⟨ge, 64, none⟩ rfl _ hX ?_
  clear hX
  generalize Value.agg X = XV
  clear X
  go_upto_block 0 with fail
  refine dec_l1 w0 w w ge gs gd D l capS capD HH.out _ ⟨0, 0, cs, [], FrD.mk rfl rfl rfl rfl rfl rfl rfl rfl, HI.out⟩ _ _ ?_ rfl
  clear HI
  rintro a1 w1 ⟨n, si, cs1, acc, hF, hd⟩
  have HJ := Lib.hid hd
  clear hd
  obtain ⟨g, rfl, k0, k1, k2, k6, k7, k8⟩ := hF.open_
  clear hF
  unfold lit
  simp only [k0, k1, k2, k6, k7, k8]
  clear k0 k1 k2 k6 k7 k8
  go_upto_block 2 with fail
  refine dec_l2 w0 w w1 ge gs gd D l capS capD HH.out _ ⟨n, si, cs1, acc, FrD.mk rfl rfl rfl rfl rfl rfl rfl rfl, HJ.out⟩ _ _ ?_ rfl
  clear HJ
  rintro a2 w2 ⟨n2, si2, cs2, acc2, hF, hd⟩
  have HJ := Lib.hid hd
  clear hd
  obtain ⟨g2, rfl, k0, k1, k2, k6, k7, k8⟩ := hF.open_
  clear hF
  unfold lit
  simp only [k0, k1, k2, k6, k7, k8]
  clear k0 k1 k2 k6 k7 k8
  go_upto_block 4 with fail
  refine dec_l3 w0 w w2 ge gs gd D l capS capD HH.out _ ⟨n2, si2, cs2, acc2, FrD.mk rfl rfl rfl rfl rfl rfl rfl rfl, HJ.out⟩ _ _ ?_ rfl
  clear HJ
  rintro a3 w3 _ ⟨n3, cs3, acc3, hF, hd⟩
  have HJ := Lib.hid hd
  clear hd
  obtain ⟨g3, rfl, k0, k1, k2, k6, k7, k8⟩ := hF.open_
  clear hF
  unfold lit
  simp only [k0, k1, k2, k6, k7, k8]
  clear k0 k1 k2 k6 k7 k8
  go_wp2
  go_ret2
  exact ⟨n3, _, cs3, rfl, HJ.out.own, HJ.out.but, HJ.out.len, HJ.out.nle, .inl ⟨rfl, acc3, HJ.out.done rfl, HJ.out.alen, HJ.out.row⟩⟩
set_option maxRecDepth 100000 in
set_option maxHeartbeats 1000000 in
theorem dlen (w : World) (ge n : Nat) (hp : w.cell? ⟨ge, 320, none⟩ = some (.int .i32 61)) (hn : n ≤ 2147483647) :
  Calls Tryz.prog 61 #[.pointer (some ⟨ge, 0, none⟩), .int .i64 (n : Int)] w fun e w' => e = .returned (.int .i64 ((n / 4 * 3 : Nat) : Int)) ∧ Drawn0 w w' := by
 have h : base64_decodedLen.f (n : Int) 61 = some (((n / 4 * 3 : Nat) : Int)) := by
  unfold base64_decodedLen.f
  rw [if_neg (by omega)]
  congr 1
  have e1 : wrap64 (Int.tdiv (n : Int) 4) = ((n / 4 : Nat) : Int) := by
   rw [Int.tdiv_eq_ediv_of_nonneg (by omega), IntWalk.wrap64_in _ ⟨by omega, by omega⟩]; omega
  rw [e1, IntWalk.wrap64_in _ ⟨by omega, by omega⟩]
  omega
 have hc := fun W => base64_decodedLen.calls _ _ _ W h
 have HC := Lib.hid hc
 clear h hc
 go_enter Tryz.func61, Tryz.ntmps61
 go_wp2_with (go_at_call 73; refine (HC.out _).mono ?_; rintro e w1 ⟨rfl, hd⟩)
 go_ret
 exact ⟨rfl, hd⟩
def DSPost (w : World) (l : List UInt8) (e : Ending) (w' : World) : Prop :=
 Below w.heap.size w w' ∧ ((∃ (g c : Nat) (bs : List UInt8), Nt.std l = some bs ∧ e = .returned (.tuple #[.slice (some ⟨g, 0, none⟩) bs.length c, .nilIface]) ∧ bs.length ≤ c ∧ RB w' (some ⟨g, 0, none⟩) bs) ∨
  (Nt.std l = none ∧ ∃ (v : Value) (x : Int), e = .returned (.tuple #[v, .iface 183 (.int .i64 x)])))
theorem infoU8 : (Tryz.prog.info? 5).map (fun i => (i.zero, i.size, i.bytes)) = some (some (.int .u8 0), 1, 1) := by kernel_rfl
set_option maxRecDepth 100000 in
set_option maxHeartbeats 2000000 in
theorem dstring (w : World) (ge : Nat) (s : ByteArray) (hs : s.size ≤ 2147483647) (he : EncR w ge) (hnl : ∀ b ∈ s.data.toList, b ≠ 10 ∧ b ≠ 13) :
  Calls Tryz.prog 43 #[.pointer (some ⟨ge, 0, none⟩), .string s] w (DSPost w s.data.toList) := by
 obtain ⟨D, hD⟩ : ∃ D, D = s.size / 4 * 3 := ⟨_, rfl⟩
 have hDl := dlen w ge s.size he.pad hs
 rw [← hD] at hDl
 have hDs : D ≤ s.size := by omega
 have hmk := print_make (P := Tryz.prog) 72 5 .u8 1 Tryz.underlying72 infoU8 (by decide) D (by omega)
 have kb := fun W => print_bytes (P := Tryz.prog) 9 72 5 Tryz.underlying9 Tryz.underlying72 Tryz.underlying5 s W
 have HE := Lib.hid he
 have HN := Lib.hid hnl
 have HD := Lib.hid hD
 clear he hnl hD
 go_enter Tryz.func43, Tryz.ntmps43
 go_wp2_with (go_at_call 61; refine hDl.mono ?_; rintro e w1 ⟨rfl, ⟨m, rfl⟩⟩)
 have hB0 : Below w.heap.size w ((w.drewN m).alloc (.cells (madeCells #[.int .u8 0] D) 5)) := (pw_below_drewN (Below.refl _ _) m).alloc (Nat.le_refl _) _
 have hg0 : ((w.drewN m).alloc (.cells (madeCells #[.int .u8 0] D) 5)).heap.size = w.heap.size + 1 := by simp
 generalize hW1 : (w.drewN m).alloc (.cells (madeCells #[.int .u8 0] D) 5) = W1 at *
 have ho1 : OB w W1 w.heap.size (madeCells #[.int .u8 0] D).toList 5 := by rw [← hW1]; exact OB.new (w0 := w) (w := w.drewN m) (pw_below_drewN (Below.refl _ _) m) _ _
 have hB1 := bytes_below (Below.refl W1.heap.size W1) (Nat.le_refl _) 5 s
 have ho2 := ho1.later hB1
 have hcell := bytesWorld_cell W1 5 s
 rw [hg0] at hcell
 have hsz : s.data.toList.length = s.size := data_length s
 have hH : DH w (bytesWorld W1 5 s) ge (w.heap.size + 1) w.heap.size D s.data.toList (grownCap W1 s.size 0 5) D :=
  {he := HE.out.below (hB0.trans (hB1.mono (by omega)))
   hs := fun i b hi => by
    have hil := (List.getElem?_eq_some_iff.1 hi).1
    rw [hcell i (by omega), List.getD_eq_getElem?_getD, hi]; rfl
   hge := fun e => by have := HE.out.lt; omega
   hgs := by omega
   hsl := fun _ => by rw [bytesWorld_size]; omega
   hL := by omega
   hnl := HN.out
   hD := by rw [hsz]; exact HD.out
   hcS := by rw [hsz]; exact grownCap_ge _ _ _ _
   hcD := Nat.le_refl _ }
 have hdec := decode w (bytesWorld W1 5 s) ge (w.heap.size + 1) w.heap.size D s.data.toList (grownCap W1 s.size 0 5) D _ hH ho2 (by simp [madeCells])
 rw [hsz] at hdec
 refine hdec.mono ?_
 rintro e w3 ⟨n, err, cs', rfl, ho3, hb3, hcl, hnD, hcase⟩
 have HO3 := Lib.hid ho3
 have HC := Lib.hid hcase
 clear hcase ho3 hb3 hdec hH ho2 ho1 hB1 hB0 hW1 hcell hDl hmk kb hg0
 have hnDi : (n : Int) ≤ (D : Int) := by omega
 go_wp2
 go_ret2
 refine ⟨HO3.out.below, ?_⟩
 rcases HC.out with ⟨rfl, bs, hstd, hbl, htake⟩ | ⟨⟨x, rfl⟩, hstd⟩
 ·refine .inl ⟨w.heap.size, D, bs, hstd, by rw [hbl]; rfl, by omega, ints_length bs, by omega, fun _ => ⟨_, rfl, fun j hj => ?_⟩⟩
  rw [add_plain, HO3.out.cell j]
  have h1 : cs'[j]? = (cs'.take n)[j]? := by rw [List.getElem?_take_of_lt (by omega)]
  rw [h1, htake]
  unfold byteCells ints
  rw [List.getElem?_map, List.getD_eq_getElem?_getD, List.getElem?_map, List.getElem?_eq_getElem hj]
  rfl
 ·exact .inr ⟨hstd, _, x, rfl⟩
end Go.Proofs.YtkbegfihdpiacaaGreatDoor.PX
namespace Go.Proofs.YtkbegfihdpiacaaGreatDoor.PX
open Go.RowKit Nt Go.Lib Go.Maps Go.Proofs.YtkbegfihdpiacaaGreatDoorW.PrintWords Go.Proofs.YtkbegfihdpiacaaGreatDoorW.PrintLast
def IsV (w : World) (x : S56) (v : Value) : Prop := ∃ A2 c2 A3 c3, v = .iface 130 (verC x A2 c2 A3 c3) ∧ Kd.string.C w A2 x.f2.length x.f2 ∧ Kd.string.C w A3 x.f3.length x.f3
theorem IsV.below {w W : World} {x : S56} {v : Value} (h : IsV w x v) (hb : Below w.heap.size w W) : IsV W x v := by
 obtain ⟨A2, c2, A3, c3, e, h2, h3⟩ := h
 exact ⟨A2, c2, A3, c3, e, Kd.C_below h2 hb, Kd.C_below h3 hb⟩
def Vs (w : World) (ks : List S56) (vs : List Value) : Prop := vs.length = ks.length ∧ ∀ (j : Nat) (x : S56) (v : Value), ks[j]? = some x → vs[j]? = some v → IsV w x v
theorem Vs.below {w W : World} {ks : List S56} {vs : List Value} (h : Vs w ks vs) (hb : Below w.heap.size w W) : Vs W ks vs := ⟨h.1, fun j x v hx hv => (h.2 j x v hx hv).below hb⟩
theorem Vs.snoc {w : World} {ks : List S56} {vs : List Value} {x : S56} {v : Value} (h : Vs w ks vs) (hv : IsV w x v) : Vs w (ks ++ [x]) (vs ++ [v]) := by
 refine ⟨by rw [List.length_append, List.length_append, h.1]; rfl, fun j y u hy hu => ?_⟩
 rcases Nat.lt_or_ge j ks.length with hj | hj
 ·rw [List.getElem?_append_left hj] at hy
  rw [List.getElem?_append_left (by rw [h.1]; exact hj)] at hu
  exact h.2 j y u hy hu
 ·rw [List.getElem?_append_right hj] at hy
  rw [List.getElem?_append_right (by rw [h.1]; exact hj), h.1] at hu
  have hj0 : j - ks.length = 0 := by
   rcases Nat.eq_zero_or_pos (j - ks.length) with e | e
   ·exact e
   ·rw [List.getElem?_eq_none (by simp; omega)] at hy; cases hy
  rw [hj0] at hy hu
  simp at hy hu
  subst hy; subst hu
  exact hv
theorem infoV : (Tryz.prog.info? 117).map (fun i => (i.zero, i.size, i.bytes)) = some (some .nilIface, 1, 16) := by kernel_rfl
theorem own_lit_nil (W : World) (base : Nat) (e : TypeId) (hb : base ≤ W.heap.size) : (W.alloc (.cells #[] e)).ownsRow base e 1 (.slice (some ⟨W.heap.size, 0, none⟩) 0 0) 0 [] :=
 ⟨by simp, .inr ⟨W.heap.size, 0, #[], rfl, hb, heap_alloc_new W _, Nat.le_refl _, Nat.zero_le _, rfl, rfl⟩⟩
section
variable {P : Program} {ops : Array Oper} {rest : List Oper} {o : Oper} {a : Act} {Q : Exit → Act → World → Prop}
theorem append1 {w0 W : World} (base : Nat) (hgd : o.guard = none) (s x : Operand) (t e : TypeId) (z : Value) (bytes : Nat)
  (ho : o.op = .call { callee := .builtin .append, args := #[s, x], argTypes := #[t, t] })
  (ht : P.underlying t = some (.slice e)) (hinfo : (P.info? e).map (fun i => (i.zero, i.size, i.bytes)) = some (some z, 1, bytes)) (hz : z.cells.size = 1) (hb0 : 0 < bytes)
  (v : Value) (xs : List Value) (y : Value) (hs : a.eval s = v) (g : Nat) (hx : a.eval x = .slice (some ⟨g, 0, none⟩) 1 1) (hg : g = W.heap.size) (h1 : y.oneCell' = true)
  (HO : W.ownsRow base e 1 v xs.length xs) (HB : Below base w0 W) (hbase : base ≤ W.heap.size) (hl : (xs.length + 1) * bytes ≤ 140737488355328)
  (h : ∀ v1 w1, w1.ownsRow base e 1 v1 (xs ++ [y]).length (xs ++ [y]) → Below base w0 w1 → W.grownBy w1 v.ownBlock → (v1.ownBlock = v.ownBlock ∨ ∃ b, v1.ownBlock = some b ∧ W.heap.size ≤ b) → wpList P ops Q rest (a.put o.dst v1) w1) :
  wpList P ops Q (o :: rest) a (W.alloc (.cells #[y] e)) := by
 subst hg
 exact print_append base hgd s x t e z bytes ho ht hinfo hz hb0 v xs y hs hx h1 HO HB hbase hl h
end
set_option maxRecDepth 100000 in
set_option maxHeartbeats 2000000 in
theorem verifiers (A : Option Addr) (c : Nat) (ks : List S56) (w : World) (hr : Kd.C k56 w A ks.length ks) (hc : ks.length ≤ c) (hn : ks.length ≤ 2147483647) :
  Calls Tryz.prog 26 #[.slice A ks.length c] w fun e w' => ∃ v vs, e = .returned v ∧ w'.ownsRow w.heap.size 117 1 v ks.length vs ∧ Vs w ks vs ∧ Below w.heap.size w w' := by
 have HR := Lib.hid hr
 have hLM : ks.length ≤ 140737488355328 := by omega
 have HLM := Lib.hid hLM
 clear hr hLM
 go_enter Tryz.func26, Tryz.ntmps26
 go_wp2
 go_loopw [3, 9] (fun v i wr => ∃ (k : Nat) (vs : List Value), k ≤ ks.length ∧ i = .int .i64 k ∧ wr.ownsRow w.heap.size 117 1 v vs.length vs ∧ Vs w (ks.take k) vs ∧ Below w.heap.size w wr) (fun _ i _ => ks.length - (intOf i).toNat)
 case atStart => exact ⟨0, [], Nat.zero_le _, rfl, own_lit_nil _ _ _ (Nat.le_refl _), ⟨rfl, fun j x v hx => by simp at hx⟩, (Below.refl _ _).alloc (Nat.le_refl _) _⟩
 case round =>
  obtain ⟨k, vs, hk, rfl, hown, hvs, hB⟩ := hrel
  have HO := Lib.hid hown
  have HVS := Lib.hid hvs
  have HB := Lib.hid hB
  clear hown hvs hB
  by_cases hlt : k < ks.length
  ·have hki : (k : Int) < (ks.length : Int) := by omega
   obtain ⟨ad, A2, c2, A3, c3, rfl, x0, x1, x2, x3, l2, g2, l3, g3⟩ := at_T56 HR.out (k : Int) (by omega) hki
   have hx : ks[k]? = some (rd_T56 ks (k : Int)) := by
    unfold rd_T56; rw [Int.toNat_natCast, List.getD_eq_getElem?_getD, List.getElem?_eq_getElem hlt]; rfl
   rw [Int.toNat_natCast] at x0 x1 x2 x3
   generalize rd_T56 ks (k : Int) = x at *
   replace x0 := pw_cell_below HB.out x0
   replace x1 := pw_cell_below HB.out x1
   replace x2 := pw_cell_below HB.out x2
   replace x3 := pw_cell_below HB.out x3
   have HX := Lib.hid hx
   have HIV : Hid (IsV w x (.iface 130 (verC x A2 c2 A3 c3))) := Lib.hid ⟨A2, c2, A3, c3, rfl, g2, g3⟩
   clear hx g2 g3 l2 l3
   have hvl : vs.length = k := by have := HVS.out.1; rw [List.length_take] at this; omega
   have HVL := Lib.hid hvl
   clear hvl
   go_wp2_with (at_builtin; (refine append1 (w0 := w) w.heap.size rfl _ _ 76 117 .nilIface 16 rfl Tryz.underlying76 infoV rfl (by decide) _ vs _ rfl _ rfl (by simp) rfl (HO.out.alloc _) (HB.out.alloc HB.out.size _) ?_ ?_ ?_); (exact Nat.le_trans HB.out.size (by simp)); (rw [HVL.out]; have := HLM.out; omega); intro v1 w1 hown1 hB1 _ _; have HO1 := Lib.hid hown1; have HB1 := Lib.hid hB1; clear hown1 hB1)
   go_roundw
   case rel => exact ⟨k + 1, vs ++ [_], by omega, by go_num, HO1.out, by rw [List.take_succ_eq_append_getElem hlt]; exact HVS.out.snoc (by rw [(List.getElem?_eq_some_iff.1 HX.out).2]; exact HIV.out), HB1.out⟩
   case measure => simp [intOf]; omega
  ·obtain rfl : k = ks.length := by omega
   go_wp2
   go_ret
   exact ⟨_, vs, rfl, by have := HVS.out.1; rw [List.take_length] at this; rw [← this]; exact HO.out, by have := HVS.out; rwa [List.take_length] at this, HB.out⟩
structure VM (w : World) (B : Nat) (ks : List S56) (vs : List Value) (i : Nat) (f : Value → Option Value) : Prop where
 yes : ∀ (j : Nat) (x : S56) (v : Value), j < i → ks[j]? = some x → vs[j]? = some v → ∃ g c, f (keyV x.f0 x.f1) = some (.slice (some ⟨g, 0, none⟩) 1 c) ∧ w.cell? ⟨g, 0, none⟩ = some v ∧ B ≤ g
 no : ∀ y, (∀ (j : Nat) (x : S56), j < i → ks[j]? = some x → y ≠ keyV x.f0 x.f1) → f y = none
theorem VM.below {w W : World} {B : Nat} {ks : List S56} {vs : List Value} {i : Nat} {f : Value → Option Value} (h : VM w B ks vs i f) (hb : Below w.heap.size w W) : VM W B ks vs i f :=
 ⟨fun j x v hj hx hv => by obtain ⟨g, c, h1, h2, h3⟩ := h.yes j x v hj hx hv; exact ⟨g, c, h1, pw_cell_below hb h2, h3⟩, h.no⟩
def Apart (ks : List S56) : Prop := ∀ (i j : Nat) (x y : S56), i < j → ks[i]? = some x → ks[j]? = some y → ¬ (x.f0 = y.f0 ∧ x.f1 = y.f1)
def KeyOk (ks : List S56) : Prop := ∀ x ∈ ks, x.f0.size ≤ 2147483647 ∧ (Lit.int .u32 x.f1).wf = true
theorem VM.step {w W : World} {B : Nat} {ks : List S56} {vs : List Value} {k : Nat} {f : Value → Option Value} (h : VM w B ks vs k f) (hap : Apart ks) {x : S56} {v : Value} (hx : ks[k]? = some x) (hv : vs[k]? = some v)
  (hkeep : ∀ g u, w.cell? ⟨g, 0, none⟩ = some u → W.cell? ⟨g, 0, none⟩ = some u) {g1 c1 : Nat} (hc : W.cell? ⟨g1, 0, none⟩ = some v) (hB : B ≤ g1) : VM W B ks vs (k + 1) (upd f (keyV x.f0 x.f1) (.slice (some ⟨g1, 0, none⟩) 1 c1)) where
 yes := fun j y u hj hy hu => by
  rcases Nat.lt_or_ge j k with hlt | hge
  ·obtain ⟨g, c, e1, e2, e3⟩ := h.yes j y u hlt hy hu
   refine ⟨g, c, ?_, hkeep _ _ e2, e3⟩
   rw [upd_other]
   ·exact e1
   ·intro e; exact hap j k y x hlt hy hx (keyV_inj e)
  ·obtain rfl : j = k := by omega
   rw [hx] at hy; rw [hv] at hu
   cases hy; cases hu
   exact ⟨g1, c1, upd_same _ _ _, hc, hB⟩
 no := fun y hy => by
  rw [upd_other]
  ·exact h.no y fun j z hj hz => hy j z (by omega) hz
  ·exact hy k x (by omega) hx
theorem VM.fresh {w : World} {B : Nat} {ks : List S56} {vs : List Value} {k : Nat} {f : Value → Option Value} (h : VM w B ks vs k f) (hap : Apart ks) {x : S56} (hx : ks[k]? = some x) : f (keyV x.f0 x.f1) = none :=
 h.no _ fun j y hj hy e => hap j k y x hj hy hx (let ⟨a, b⟩ := keyV_inj e; ⟨a.symm, b.symm⟩)
theorem map_ne_cell {P : Program} {k : TypeId} {w : World} {b : Nat} {f : Value → Option Value} (h : MapR P k w b f) {a : Addr} {v : Value} (hc : w.cell? a = some v) : a.block ≠ b := by
 obtain ⟨es, clock, hb, _⟩ := h
 intro e
 unfold World.cell? at hc
 rw [e, hb] at hc
 simp at hc
theorem grown_cell {w W : World} {row : Option Nat} (hg : w.grownBy W row) {a : Addr} {v : Value} (hne : some a.block ≠ row) (hc : w.cell? a = some v) : W.cell? a = some v :=
 (World.cell?_of_block (w := w) (hg.block a.block (World.block_lt_of_cell? w a hc) hne)).trans hc
theorem zeroVs (w : World) : (zeroValue 76).run Tryz.prog w = .ok (.slice none 0 0) w := by kernel_rfl
theorem ver_mname (x : S56) (A2 : Option Addr) (c2 : Nat) (A3 : Option Addr) (c3 : Nat) (w : World) : (method 320 130 (verC x A2 c2 A3 c3) "Name").run Tryz.prog w = .ok (112, verC x A2 c2 A3 c3) w := by kernel_rfl
theorem ver_mhash (x : S56) (A2 : Option Addr) (c2 : Nat) (A3 : Option Addr) (c3 : Nat) (w : World) : (method 320 130 (verC x A2 c2 A3 c3) "KeyHash").run Tryz.prog w = .ok (111, verC x A2 c2 A3 c3) w := by kernel_rfl
theorem ver_mverify (x : S56) (A2 : Option Addr) (c2 : Nat) (A3 : Option Addr) (c3 : Nat) (w : World) : (method 320 130 (verC x A2 c2 A3 c3) "Verify").run Tryz.prog w = .ok (113, verC x A2 c2 A3 c3) w := by kernel_rfl
set_option maxRecDepth 100000 in
set_option maxHeartbeats 2000000 in
theorem vlist (w0 w : World) (vl : Value) (ks : List S56) (vs : List Value) (base : Nat) (hown : w.ownsRow base 117 1 vl ks.length vs) (hvs : Vs w ks vs) (hap : Apart ks) (hok : KeyOk ks) (hn : ks.length ≤ 2147483647) :
  Calls Tryz.prog 25 #[vl] w fun e w' => ∃ b f, e = .returned (.iface 128 (.map (some b))) ∧ MapR Tryz.prog 126 w' b f ∧ VM w' w.heap.size ks vs ks.length f ∧ Below w.heap.size w w' := by
 have HO := Lib.hid hown
 have HVS := Lib.hid hvs
 have HAP := Lib.hid hap
 have HOK := Lib.hid hok
 obtain ⟨A, c, hvl⟩ := own_slice hown
 clear hown hvs hap hok
 subst hvl
 have hmm := @run_makeMap Tryz.prog
 go_enter Tryz.func25, Tryz.ntmps25
 go_wp2
 go_loopw [10] (fun i wr => ∃ (k : Nat) (f : Value → Option Value), k ≤ ks.length ∧ i = .int .i64 k ∧ MapR Tryz.prog 126 wr w.heap.size f ∧ VM wr w.heap.size ks vs k f ∧ Below w.heap.size w wr) (fun i _ => ks.length - (intOf i).toNat)
 case atStart => exact ⟨0, _, Nat.zero_le _, rfl, MapR.made _ _ _, ⟨fun j x v hj => by omega, fun y _ => rfl⟩, (Below.refl _ _).alloc (Nat.le_refl _) _⟩
 case round =>
  obtain ⟨k, f, hk, rfl, hm, hvm, hB⟩ := hrel
  have HM := Lib.hid hm
  have HV := Lib.hid hvm
  have HB := Lib.hid hB
  clear hm hvm hB
  by_cases hlt : k < ks.length
  ·have hki : (k : Int) < (ks.length : Int) := by omega
   obtain ⟨v, hv⟩ : ∃ v, vs[k]? = some v := ⟨_, List.getElem?_eq_getElem (by rw [HVS.out.1]; exact hlt)⟩
   obtain ⟨x, hx⟩ : ∃ x, ks[k]? = some x := ⟨_, List.getElem?_eq_getElem hlt⟩
   obtain ⟨A2, c2, A3, c3, rfl, h2, h3⟩ := HVS.out.2 k x v hx hv
   obtain ⟨g, cap, hA⟩ : ∃ g cap, (Value.slice A ks.length c) = .slice (some ⟨g, 0, none⟩) ks.length cap := by
    obtain ⟨g, cap, he, _⟩ := HO.out.form (by omega); exact ⟨g, cap, he⟩
   injection hA with hA _ hc
   subst hA; subst hc
   have hcell := HO.out.cellAt k (by omega)
   rw [hv] at hcell
   replace hcell := pw_cell_below HB.out hcell
   have HX := Lib.hid hx
   have HVK := Lib.hid hv
   clear hx hv h2 h3
   have HKL := Lib.hid (keyOfK x.f0 x.f1 (by have := (HOK.out x (List.mem_of_getElem? HX.out)).1; simp only [maxLen]; omega) (HOK.out x (List.mem_of_getElem? HX.out)).2)
   have HN := Lib.hid (HV.out.fresh HAP.out HX.out)
   have hmN := ver_mname x A2 c2 A3 c3
   have hmH := ver_mhash x A2 c2 A3 c3
   go_wp2_with (first | (go_at_call 112; refine (ver_name x A2 c2 A3 c3 _).mono ?_; rintro e w1 ⟨rfl, hb1⟩; have HB1 := Lib.hid (HB.out.trans (hb1.mono HB.out.size)); have HM1 := Lib.hid (HM.out.below hb1); have HV1 := Lib.hid (HV.out.below hb1); clear hb1) | (go_at_call 111; refine (ver_hash x A2 c2 A3 c3 _).mono ?_; rintro e w2 ⟨rfl, hb2⟩; have HB2 := Lib.hid (HB1.out.trans (hb2.mono HB1.out.size)); have HM2 := Lib.hid (HM1.out.below hb2); have HV2 := Lib.hid (HV1.out.below hb2); clear hb2) | fail)
   obtain ⟨w3, cb, hrun, hE, hg3⟩ := MapR.entry (HM2.out.below (((Below.refl w2.heap.size w2).alloc (Nat.le_refl _) (.cells #[.string x.f0, .int .u32 x.f1] 126)).alloc (by simp) (.cells #[.iface 130 (verC x A2 c2 A3 c3)] 117))) lawK Tryz.underlying128 (zeroVs _) HKL.out.choose_spec HN.out
   unfold keyV at hrun
   have hc3 : w3.cell? ⟨w2.heap.size + 1, 0, none⟩ = some (.iface 130 (verC x A2 c2 A3 c3)) := grown_cell hg3 (by have := HM2.out.lt; simp; omega) (by go_simp)
   have HE3 := Lib.hid hE
   have HG3 := Lib.hid hg3
   have hw3 : w.heap.size ≤ w3.heap.size := Nat.le_trans HB2.out.size (Nat.le_trans (by simp; omega) hg3.size)
   clear hE hg3
   obtain ⟨i0, hi, hz0, hz1, hz2⟩ := info_parts infoV
   rw [hrun]
   clear hrun
   simp only [Result.andThen_ok, Oper.upon]
   go_wp2_with (at_builtin; refine wpList_append_own_at w3 rfl _ _ 76 rfl w.heap.size 117 i0 .nilIface 1 16 Tryz.underlying76 hi hz0 hz1 hz2 rfl (by decide) (.slice none 0 0) 0 [] rfl (own_nil _ _ _ _) ⟨w2.heap.size + 1, 0, none⟩ 1 1 [.iface 130 (verC x A2 c2 A3 c3)] rfl rfl ?_ ?_ ?_ ?_ hw3 ?_; (intro j u hu; cases j with | zero => (simp at hu; subst hu; rw [add_plain]; exact hc3) | succ j => simp at hu); (intro u hu; simp at hu; subst hu; rfl); (simp [maxLen]); (omega); intro v4 w4 hown4 hg4 _ _)
   obtain ⟨w5, hrun5, hm5, hg5⟩ := (HE3.out.keep (hg4.block _ HE3.out.lt (by simp [Value.ownBlock]))).back (t := 128) v4
   unfold goInt at hrun5
   rw [hrun5]
   clear hrun5
   rw [upd_twice] at hm5
   obtain ⟨g4, c4, hv4, hgb4, hgl4⟩ := hown4.form (by omega)
   subst hv4
   have hc4 : w4.cell? ⟨g4, 0, none⟩ = some (.iface 130 (verC x A2 c2 A3 c3)) := by rw [hown4.cellAt 0 (by omega)]; rfl
   have hgm : g4 ≠ w.heap.size := map_ne_cell (HE3.out.keep (hg4.block _ HE3.out.lt (by simp [Value.ownBlock]))).map hc4
   have hc5 : w5.cell? ⟨g4, 0, none⟩ = some (.iface 130 (verC x A2 c2 A3 c3)) := grown_cell hg5 (by intro e; injection e with e; exact hgm e) hc4
   have hkeep : ∀ g u, w2.cell? ⟨g, 0, none⟩ = some u → w5.cell? ⟨g, 0, none⟩ = some u := by
    intro g u hu
    have hne : g ≠ w.heap.size := map_ne_cell HM2.out hu
    have h1 : ((w2.alloc (.cells #[.string x.f0, .int .u32 x.f1] 126)).alloc (.cells #[.iface 130 (verC x A2 c2 A3 c3)] 117)).cell? ⟨g, 0, none⟩ = some u :=
     pw_cell_below (((Below.refl w2.heap.size w2).alloc (Nat.le_refl _) _).alloc (by simp) _) hu
    have h2 := grown_cell HG3.out (a := ⟨g, 0, none⟩) (by intro e; injection e with e; exact hne e) h1
    have h3 := grown_cell hg4 (a := ⟨g, 0, none⟩) (by simp [Value.ownBlock]) h2
    exact grown_cell hg5 (a := ⟨g, 0, none⟩) (by intro e; injection e with e; exact hne e) h3
   have HM5 := Lib.hid hm5
   have HV5 := Lib.hid (HV2.out.step HAP.out HX.out HVK.out hkeep (c1 := c4) hc5 hgb4)
   have HB5 : Hid (Below w.heap.size w w5) := Lib.hid ((((((HB2.out.alloc HB2.out.size _).alloc (by have := HB2.out.size; simp; omega) _).grown HG3.out (by have := HB2.out.size; simp; omega) (fun k hk => by injection hk with hk; omega)).grown hg4 hw3 (fun k hk => by simp [Value.ownBlock] at hk)).grown hg5 (Nat.le_trans hw3 hg4.size) (fun k hk => by injection hk with hk; omega)))
   clear hm5 hc5 hkeep hg5 hc4 hgm hown4 hg4 hc3 hw3 hgb4 hgl4
   simp only [Result.andThen_ok, Oper.upon]
   go_wp2
   go_roundw
   case rel => exact ⟨k + 1, _, by omega, by go_num, HM5.out, HV5.out, HB5.out⟩
   case measure => simp [intOf]; omega
  ·obtain rfl : k = ks.length := by omega
   go_wp2
   go_ret
   exact ⟨_, _, rfl, HM.out, HV.out, HB.out⟩
set_option maxRecDepth 100000 in
set_option maxHeartbeats 1000000 in
theorem vlook_yes (w : World) (b B : Nat) (f : Value → Option Value) (ks : List S56) (vs : List Value) (hm : MapR Tryz.prog 126 w b f) (hv : VM w B ks vs ks.length f) (hok : KeyOk ks) (j : Nat) (x : S56) (v : Value) (hx : ks[j]? = some x) (hvj : vs[j]? = some v) :
  Calls Tryz.prog 110 #[.map (some b), .string x.f0, .int .u32 x.f1] w fun e w' => e = .returned (.tuple #[v, .nilIface]) ∧ Below w.heap.size w w' := by
 have hj : j < ks.length := (List.getElem?_eq_some_iff.1 hx).1
 obtain ⟨g, c, h1, h2, h3⟩ := hv.yes j x v hj hx hvj
 have hxo := hok x (List.mem_of_getElem? hx)
 obtain ⟨kl, hkl⟩ := keyOfK x.f0 x.f1 (by have := hxo.1; simp only [maxLen]; omega) hxo.2
 have hrun := hm.look lawK Tryz.underlying128 (zeroVs w) hkl true
 rw [h1] at hrun
 simp only [Option.getD_some, Option.isSome_some, if_true] at hrun
 unfold keyV at hrun
 have HR := Lib.hid hrun
 clear hrun h1 h3 hv hm hx hvj hxo hkl
 go_enter Tryz.func110, Tryz.ntmps110
 go_wp2_with fail
 rw [HR.out]
 simp only [Result.andThen_ok, Oper.upon]
 go_wp2
 go_ret2
 exact ⟨rfl, Below.refl _ _⟩
set_option maxRecDepth 100000 in
set_option maxHeartbeats 1000000 in
theorem vlook_no (w : World) (b B : Nat) (f : Value → Option Value) (ks : List S56) (vs : List Value) (hm : MapR Tryz.prog 126 w b f) (hv : VM w B ks vs ks.length f) (nm : ByteArray) (h : Int) (hnm : nm.size ≤ 2147483647) (hw : (Lit.int .u32 h).wf = true)
  (hno : ∀ x ∈ ks, ¬ (x.f0 = nm ∧ x.f1 = h)) :
  Calls Tryz.prog 110 #[.map (some b), .string nm, .int .u32 h] w fun e w' => (∃ g, e = .returned (.tuple #[.nilIface, .iface 120 (.pointer (some ⟨g, 0, none⟩))])) ∧ Below w.heap.size w w' := by
 obtain ⟨kl, hkl⟩ := keyOfK nm h (by simp only [maxLen]; omega) hw
 have hrun := hm.look lawK Tryz.underlying128 (zeroVs w) hkl true
 rw [hv.no (keyV nm h) (fun j x _ hx e => hno x (List.mem_of_getElem? hx) (let ⟨a, b⟩ := keyV_inj e; ⟨a.symm, b.symm⟩))] at hrun
 simp only [Option.getD_none, Option.isSome_none, if_true] at hrun
 unfold keyV at hrun
 have HR := Lib.hid hrun
 clear hrun hv hm hkl hno
 go_enter Tryz.func110, Tryz.ntmps110
 go_wp2_with fail
 rw [HR.out]
 simp only [Result.andThen_ok, Oper.upon]
 go_wp2
 go_ret2
 exact ⟨⟨_, rfl⟩, (Below.refl _ _).alloc (Nat.le_refl _) _⟩
def nl : List UInt8 → Nat
 | [] => 0
 | a :: t => if a = 10 then 0 else nl t + 1
theorem nl_index : ∀ (l : List UInt8), nl l < l.length → Lib.indexByte l 10 = ((nl l : Nat) : Int)
 | [], h => by simp [nl] at h
 | a :: t, h => by
  unfold nl at h ⊢
  unfold Lib.indexByte
  by_cases e : a = 10
  ·rw [if_pos e, if_pos (by rw [e]; rfl)]; rfl
  ·rw [if_neg e] at h ⊢
   have ih := nl_index t (by simp at h; omega)
   rw [if_neg (by simpa using e), ih, if_neg (by simp)]
   rfl
theorem nl_not : ∀ (l : List UInt8), 10 ∉ l.take (nl l)
 | [] => by simp
 | a :: t => by
  unfold nl
  by_cases e : a = 10
  ·rw [if_pos e]; simp
  ·rw [if_neg e, List.take_succ_cons, List.mem_cons]
   rintro (h | h)
   ·exact e h.symm
   ·exact nl_not t h
def endsNl (l : List UInt8) : Prop := l = [] ∨ l[l.length - 1]? = some 10
theorem nl_lt (l : List UInt8) (h : l ≠ []) (he : endsNl l) : nl l < l.length := by
 have he := he.resolve_left h
 have hp := List.length_pos_iff.2 h
 rcases Nat.lt_or_ge (nl l) l.length with hlt | hge
 ·exact hlt
 ·exfalso
  have := nl_not l
  rw [List.take_of_length_le hge] at this
  exact this (List.mem_of_getElem? he)
theorem endsNl_drop (l : List UInt8) (n : Nat) (h : endsNl l) : endsNl (l.drop n) := by
 rcases Nat.lt_or_ge n l.length with hlt | hge
 ·right
  have h' := h.resolve_left (fun e => by rw [e] at hlt; simp at hlt)
  rw [List.getElem?_drop, List.length_drop, show n + (l.length - n - 1) = l.length - 1 by omega]
  exact h'
 ·left; exact List.drop_eq_nil_of_le hge
def linesF : Nat → List UInt8 → List (List UInt8)
 | 0, _ => []
 | n + 1, l => if l = [] then [] else l.take (nl l) :: linesF n (l.drop (nl l + 1))
def linesD (l : List UInt8) : List (List UInt8) := linesF l.length l
theorem linesF_more : ∀ (n m : Nat) (l : List UInt8), l.length ≤ n → l.length ≤ m → linesF n l = linesF m l
 | 0, m, l, hn, _ => by
  have : l = [] := List.length_eq_zero_iff.1 (by omega)
  subst this
  cases m <;> simp [linesF]
 | n + 1, m, l, hn, hm => by
  by_cases h : l = []
  ·subst h; cases m <;> simp [linesF]
  ·have hl := List.length_pos_iff.2 h
   obtain ⟨m, rfl⟩ : ∃ k, m = k + 1 := ⟨m - 1, by omega⟩
   rw [linesF, linesF, if_neg h, if_neg h, linesF_more n m _ (by rw [List.length_drop]; omega) (by rw [List.length_drop]; omega)]
theorem linesD_nil : linesD [] = [] := rfl
theorem linesD_cons (l : List UInt8) (h : l ≠ []) : linesD l = l.take (nl l) :: linesD (l.drop (nl l + 1)) := by
 have hl := List.length_pos_iff.2 h
 obtain ⟨n, hn⟩ : ∃ k, l.length = k + 1 := ⟨l.length - 1, by omega⟩
 unfold linesD
 rw [hn, linesF, if_neg h, linesF_more n _ _ (by rw [List.length_drop]; omega) (Nat.le_refl _)]
def findS (ks : List S56) (nm : ByteArray) (h : Int) : Option S56 := ks.find? fun x => decide (x.f0 = nm) && decide (x.f1 = h)
inductive ORes
 | bad
 | inv (nm : ByteArray) (h : Int)
 | ok (sigs unv : List S122)
open Classical in
noncomputable def openL (ks : List S56) (text : ByteArray) : List (List UInt8) → List (ByteArray × Int) → List S122 → List S122 → ORes
 | [], _, sigs, unv => .ok sigs unv
 | l :: ls, seen, sigs, unv =>
  if (lineD l).2.2.2.2.1 = false then .bad
  else match findS ks (S (lineD l).1) ((lineD l).2.1 : Int) with
   | none => if (⟨S (lineD l).1, ((lineD l).2.1 : Int), S (lineD l).2.2.1⟩ : S122) ∈ unv then openL ks text ls seen sigs unv else openL ks text ls seen sigs (unv ++ [⟨S (lineD l).1, ((lineD l).2.1 : Int), S (lineD l).2.2.1⟩])
   | some x => if (S (lineD l).1, ((lineD l).2.1 : Int)) ∈ seen then openL ks text ls seen sigs unv
    else if accS x.f2 x.f3 text (S (lineD l).2.2.2.1) = true then openL ks text ls ((S (lineD l).1, ((lineD l).2.1 : Int)) :: seen) (sigs ++ [⟨S (lineD l).1, ((lineD l).2.1 : Int), S (lineD l).2.2.1⟩]) unv
    else .inv (S (lineD l).1) ((lineD l).2.1 : Int)
def sgLine (s : S122) : List UInt8 := s.f0.data.toList ++ 32 :: s.f2.data.toList
structure SgOk (s : S122) : Prop where
 blank : 32 ∉ s.f0.data.toList
 hash : ∃ raw, Nt.std s.f2.data.toList = some raw ∧ s.f1 = (hashL raw : Int)
theorem sgLine_inj {s t : S122} (hs : SgOk s) (ht : SgOk t) (h : sgLine s = sgLine t) : s = t := by
 have key : ∀ (a b c d : List UInt8), 32 ∉ a → 32 ∉ c → a ++ 32 :: b = c ++ 32 :: d → a = c ∧ b = d := by
  intro a
  induction a with
  | nil =>
   intro b c d _ hc h
   cases c with
   | nil => simp at h; exact ⟨rfl, h⟩
   | cons x c => simp at h; exact absurd (by rw [h.1]; simp) hc
  | cons x a ih =>
   intro b c d ha hc h
   cases c with
   | nil => simp at h; exact absurd (by rw [h.1]; simp) ha
   | cons y c =>
    simp only [List.cons_append, List.cons.injEq] at h
    obtain ⟨e1, e2⟩ := ih b c d (fun hm => ha (List.mem_cons_of_mem _ hm)) (fun hm => hc (List.mem_cons_of_mem _ hm)) h.2
    exact ⟨by rw [h.1, e1], e2⟩
 obtain ⟨e1, e2⟩ := key _ _ _ _ hs.blank ht.blank h
 obtain ⟨r, hr, hr'⟩ := hs.hash
 obtain ⟨q, hq, hq'⟩ := ht.hash
 rw [e2, hq] at hr
 obtain rfl := Option.some.inj hr
 obtain ⟨a, b, c⟩ := s
 obtain ⟨a', b', c'⟩ := t
 simp only at *
 have ea : a = a' := ByteArray.ext (Array.toList_inj.1 e1)
 have ec : c = c' := ByteArray.ext (Array.toList_inj.1 e2)
 rw [ea, ec, hr', hq']
open Classical in
noncomputable def seenV (p : Prop) : Option Value := if p then some (Value.bool true) else none
def SeenU (gU : Value → Option Value) (unv : List S122) : Prop := ∀ s : ByteArray, gU (.string s) = seenV (∃ x ∈ unv, sgLine x = s.data.toList)
def SeenS (gS : Value → Option Value) (seen : List (ByteArray × Int)) : Prop := ∀ (nm : ByteArray) (h : Int), gS (keyV nm h) = seenV ((nm, h) ∈ seen)
structure NoteW (w : World) (B gN bS bU : Nat) (text : ByteArray) (vS vU : Value) (sigs unv : List S122) (gS gU : Value → Option Value) : Prop where
 blk : w.heap[gN]? = some (.cells #[.string text, vS, vU] 94 (0, 0))
 rS : Kd.R k122 122 w B (fun _ => True) vS sigs
 rU : Kd.R k122 122 w B (fun _ => True) vU unv
 ne : vS.ownBlock = none ∨ vS.ownBlock ≠ vU.ownBlock
 mS : MapR Tryz.prog 126 w bS gS
 mU : MapR Tryz.prog 9 w bU gU
 neM : bS ≠ bU
 geN : B ≤ gN
 geS : B ≤ bS
 geU : B ≤ bU
theorem R_lt {w : World} {B : Nat} {v : Value} {l : List S122} (h : Kd.R k122 122 w B (fun _ => True) v l) {k : Nat} (hk : v.ownBlock = some k) : B ≤ k ∧ ∃ cells, w.heap[k]? = some (.cells cells 122 (0, 0)) := by
 obtain ⟨inner, ho⟩ := Kd.R_own h
 exact ⟨own_base ho k hk, own_typed ho k hk⟩
theorem NoteW.below {w w' : World} {B gN bS bU : Nat} {text : ByteArray} {vS vU : Value} {sigs unv : List S122} {gS gU : Value → Option Value} (h : NoteW w B gN bS bU text vS vU sigs unv gS gU) (hb : Below w.heap.size w w') : NoteW w' B gN bS bU text vS vU sigs unv gS gU where
 blk := (hb.block gN (blk_lt h.blk)).trans h.blk
 rS := Kd.R_below h.rS hb
 rU := Kd.R_below h.rU hb
 ne := h.ne
 mS := h.mS.below hb
 mU := h.mU.below hb
 neM := h.neM
 geN := h.geN
 geS := h.geS
 geU := h.geU
theorem not_both {w : World} {k : Nat} {cells cells' : Array Value} {t t' : TypeId} {f f' : Nat × Nat} (h : w.heap[k]? = some (.cells cells t f)) (h' : w.heap[k]? = some (.cells cells' t' f')) : t = t' := by
 rw [h] at h'
 injection h' with h'
 injection h'
theorem map_not_cells {P : Program} {kt : TypeId} {w : World} {b : Nat} {f : Value → Option Value} (h : MapR P kt w b f) {cells : Array Value} {t : TypeId} {fz : Nat × Nat} : w.heap[b]? ≠ some (.cells cells t fz) := by
 obtain ⟨es, clock, hb, _⟩ := h
 rw [hb]; intro e; cases e
theorem R_away {w : World} {B : Nat} {v : Value} {l : List S122} (h : Kd.R k122 122 w B (fun _ => True) v l) {g : Nat} (hg : ∀ cells, w.heap[g]? ≠ some (.cells cells 122 (0, 0))) : Kd.R k122 122 w B (fun k => k ≠ g) v l :=
 Kd.R_mono (Kd.R_bound h) fun k hk => by
  obtain ⟨_, _, _, q, hq, cells, hc⟩ := hk
  have : k122.E = [] := rfl
  rw [this] at hq
  obtain rfl : q = 122 := by simpa using hq
  rintro rfl
  exact hg cells hc
theorem R_kept {w w' : World} {B : Nat} {v : Value} {l : List S122} (h : Kd.R k122 122 w B (fun _ => True) v l) {g : Nat} (hg : ∀ cells, w.heap[g]? ≠ some (.cells cells 122 (0, 0))) (hb : ∀ k, k < w.heap.size → k ≠ g → w'.heap[k]? = w.heap[k]?) : Kd.R k122 122 w' B (fun _ => True) v l :=
 Kd.R_mono (Kd.R_step (R_away h hg) fun k hk hlt => hb k hlt hk) fun _ _ => trivial
theorem R_other {w w' : World} {B : Nat} {v : Value} {l : List S122} (h : Kd.R k122 122 w B (fun _ => True) v l) {row : Option Nat} (hne : v.ownBlock = none ∨ v.ownBlock ≠ row) (hg : w.grownBy w' row) : Kd.R k122 122 w' B (fun _ => True) v l := by
 have h1 : Kd.R k122 122 w B (fun k => v.ownBlock = some k) v l := by
  obtain ⟨h0, inner, ho, hr⟩ := h
  exact ⟨fun k hk => hk, inner, ho, hr.imp_ fun _ _ hp => hp⟩
 exact Kd.R_mono (Kd.R_grown h1 hg fun k hk e => by
  rcases hne with hne | hne
  ·rw [hne] at hk; cases hk
  ·exact hne (hk.trans e)) fun _ _ => trivial
theorem NoteW.mapU {w w' : World} {B gN bS bU : Nat} {text : ByteArray} {vS vU : Value} {sigs unv : List S122} {gS gU gU' : Value → Option Value} (h : NoteW w B gN bS bU text vS vU sigs unv gS gU) (hg : w.grownBy w' (some bU)) (hm : MapR Tryz.prog 9 w' bU gU') : NoteW w' B gN bS bU text vS vU sigs unv gS gU' where
 blk := (hg.block gN (blk_lt h.blk) (fun e => by injection e with e; exact map_not_cells h.mU (e ▸ h.blk))).trans h.blk
 rS := R_kept h.rS (fun cells => map_not_cells h.mU) fun k hk hne => hg.block k hk (fun e => hne (by injection e))
 rU := R_kept h.rU (fun cells => map_not_cells h.mU) fun k hk hne => hg.block k hk (fun e => hne (by injection e))
 ne := h.ne
 mS := h.mS.keep (hg.block bS h.mS.lt (fun e => by injection e with e; exact h.neM e))
 mU := hm
 neM := h.neM
 geN := h.geN
 geS := h.geS
 geU := h.geU
theorem NoteW.mapS {w w' : World} {B gN bS bU : Nat} {text : ByteArray} {vS vU : Value} {sigs unv : List S122} {gS gU gS' : Value → Option Value} (h : NoteW w B gN bS bU text vS vU sigs unv gS gU) (hg : w.grownBy w' (some bS)) (hm : MapR Tryz.prog 126 w' bS gS') : NoteW w' B gN bS bU text vS vU sigs unv gS' gU where
 blk := (hg.block gN (blk_lt h.blk) (fun e => by injection e with e; exact map_not_cells h.mS (e ▸ h.blk))).trans h.blk
 rS := R_kept h.rS (fun cells => map_not_cells h.mS) fun k hk hne => hg.block k hk (fun e => hne (by injection e))
 rU := R_kept h.rU (fun cells => map_not_cells h.mS) fun k hk hne => hg.block k hk (fun e => hne (by injection e))
 ne := h.ne
 mS := hm
 mU := h.mU.keep (hg.block bU h.mU.lt (fun e => by injection e with e; exact h.neM e.symm))
 neM := h.neM
 geN := h.geN
 geS := h.geS
 geU := h.geU
theorem row_ne_cells {w : World} {B : Nat} {v : Value} {l : List S122} (h : Kd.R k122 122 w B (fun _ => True) v l) {g : Nat} {cells : Array Value} {t : TypeId} (hg : w.heap[g]? = some (.cells cells t (0, 0))) (ht : t ≠ 122) : some g ≠ v.ownBlock := by
 intro e
 obtain ⟨_, c, hc⟩ := R_lt h e.symm
 exact ht (not_both hg hc)
theorem row_ne_map {P : Program} {kt : TypeId} {w : World} {B : Nat} {v : Value} {l : List S122} (h : Kd.R k122 122 w B (fun _ => True) v l) {b : Nat} {f : Value → Option Value} (hm : MapR P kt w b f) : some b ≠ v.ownBlock := by
 intro e
 obtain ⟨_, c, hc⟩ := R_lt h e.symm
 exact map_not_cells hm hc
theorem NoteW.growU {w w' : World} {B gN bS bU : Nat} {text : ByteArray} {vS vU v1 : Value} {sigs unv unv' : List S122} {gS gU : Value → Option Value} (h : NoteW w B gN bS bU text vS vU sigs unv gS gU) (hg : w.grownBy w' vU.ownBlock) (hr : Kd.R k122 122 w' B (fun _ => True) v1 unv') (hat : v1.ownBlock = vU.ownBlock ∨ ∃ b, v1.ownBlock = some b ∧ w.heap.size ≤ b) :
  NoteW (w'.setCell ⟨gN, 2, none⟩ v1) B gN bS bU text vS v1 sigs unv' gS gU := by
 have hblk : w'.heap[gN]? = some (.cells #[.string text, vS, vU] 94 (0, 0)) := (hg.block gN (blk_lt h.blk) (row_ne_cells h.rU h.blk (by decide))).trans h.blk
 have hrS : Kd.R k122 122 w' B (fun _ => True) vS sigs := R_other h.rS h.ne hg
 have hmS := h.mS.keep (hg.block bS h.mS.lt (row_ne_map h.rU h.mS))
 have hmU := h.mU.keep (hg.block bU h.mU.lt (row_ne_map h.rU h.mU))
 have hset : ∀ k, k < w'.heap.size → k ≠ gN → (w'.setCell ⟨gN, 2, none⟩ v1).heap[k]? = w'.heap[k]? := fun k _ hk => Below.heap_setCell w' ⟨gN, 2, none⟩ v1 k hk
 have hno : ∀ cells, w'.heap[gN]? ≠ some (.cells cells 122 (0, 0)) := fun cells e => absurd (not_both hblk e) (by decide)
 exact
 {blk := by
   have e := setCell_eq_setRow w' gN 2 _ _ _ v1 hblk
   rw [e]
   exact setRow_heap w' gN _ _ _ _ hblk
  rS := R_kept hrS hno hset
  rU := R_kept hr hno hset
  ne := by
   rcases hat with e | ⟨b, hb, hle⟩
   ·rw [e]; exact h.ne
   ·rcases hS : vS.ownBlock with _ | k
    ·exact .inl rfl
    ·refine .inr fun e => ?_
     rw [hb] at e
     obtain rfl : k = b := by simpa using e
     obtain ⟨_, c, hc⟩ := R_lt h.rS hS
     have := blk_lt hc
     omega
  mS := hmS.keep (hset bS hmS.lt (fun e => map_not_cells hmS (e ▸ hblk)))
  mU := hmU.keep (hset bU hmU.lt (fun e => map_not_cells hmU (e ▸ hblk)))
  neM := h.neM
  geN := h.geN
  geS := h.geS
  geU := h.geU }
theorem NoteW.growS {w w' : World} {B gN bS bU : Nat} {text : ByteArray} {vS vU v1 : Value} {sigs unv sigs' : List S122} {gS gU : Value → Option Value} (h : NoteW w B gN bS bU text vS vU sigs unv gS gU) (hg : w.grownBy w' vS.ownBlock) (hr : Kd.R k122 122 w' B (fun _ => True) v1 sigs') (hat : v1.ownBlock = vS.ownBlock ∨ ∃ b, v1.ownBlock = some b ∧ w.heap.size ≤ b) :
  NoteW (w'.setCell ⟨gN, 1, none⟩ v1) B gN bS bU text v1 vU sigs' unv gS gU := by
 have hne' : vU.ownBlock = none ∨ vU.ownBlock ≠ vS.ownBlock := by
  rcases h.ne with e | e
  ·rcases hU : vU.ownBlock with _ | k
   ·exact .inl rfl
   ·right; rw [e]; simp
  ·exact .inr (fun e' => e e'.symm)
 have hblk : w'.heap[gN]? = some (.cells #[.string text, vS, vU] 94 (0, 0)) := (hg.block gN (blk_lt h.blk) (row_ne_cells h.rS h.blk (by decide))).trans h.blk
 have hrU : Kd.R k122 122 w' B (fun _ => True) vU unv := R_other h.rU hne' hg
 have hmS := h.mS.keep (hg.block bS h.mS.lt (row_ne_map h.rS h.mS))
 have hmU := h.mU.keep (hg.block bU h.mU.lt (row_ne_map h.rS h.mU))
 have hset : ∀ k, k < w'.heap.size → k ≠ gN → (w'.setCell ⟨gN, 1, none⟩ v1).heap[k]? = w'.heap[k]? := fun k _ hk => Below.heap_setCell w' ⟨gN, 1, none⟩ v1 k hk
 have hno : ∀ cells, w'.heap[gN]? ≠ some (.cells cells 122 (0, 0)) := fun cells e => absurd (not_both hblk e) (by decide)
 exact
 {blk := by
   have e := setCell_eq_setRow w' gN 1 _ _ _ v1 hblk
   rw [e]
   exact setRow_heap w' gN _ _ _ _ hblk
  rS := R_kept hr hno hset
  rU := R_kept hrU hno hset
  ne := by
   rcases hat with e | ⟨b, hb, hle⟩
   ·rw [e]; exact h.ne
   ·right
    intro e
    rw [hb] at e
    obtain ⟨_, c, hc⟩ := R_lt h.rU e.symm
    have := blk_lt hc
    omega
  mS := hmS.keep (hset bS hmS.lt (fun e => map_not_cells hmS (e ▸ hblk)))
  mU := hmU.keep (hset bU hmU.lt (fun e => map_not_cells hmU (e ▸ hblk)))
  neM := h.neM
  geN := h.geN
  geS := h.geS
  geU := h.geU }
def fromRgn (n : Nat) : Code → Option Code
 | .seq (.region m o d) b => if m = n then some b else fromRgn n b
 | .seq a b => match fromRgn n a with
  | some c => some c
  | none => fromRgn n b
 | .cond _ a b => match fromRgn n a with
  | some c => some c
  | none => fromRgn n b
 | .block _ c => fromRgn n c
 | .loop c => fromRgn n c
 | .scope c => fromRgn n c
 | _ => none
noncomputable def oFrom (n : Nat) : Code := (Tryz.f24.body.bind (fromRgn n)).getD .skip
noncomputable def oBlk (n : Nat) : Code := (Tryz.f24.body.bind (blkNo n)).getD .skip
noncomputable def oRgn (n : Nat) : Code := (Tryz.f24.body.bind (rgnNo n)).getD .skip
def At (n : Nat) (Q : Exit → Act → World → Prop) (a : Act) (w : World) : Prop :=
 ∀ K : Act → World → Prop, (∀ a' w', (oFrom n).wp Tryz.prog Q a' w' → K a' w') → (oRgn n).wp Tryz.prog (Exit.then K Q) a w
theorem ks_nil (a : Act) : ∀ p ∈ ([] : List (Nat × Value)), a.tmps.getD p.1 undef = p.2 := fun p h => by cases h
theorem ks_cons {a : Act} {i : Nat} {v : Value} {ks : List (Nat × Value)} (h : a.tmps.getD i undef = v) (r : ∀ p ∈ ks, a.tmps.getD p.1 undef = p.2) : ∀ p ∈ (i, v) :: ks, a.tmps.getD p.1 undef = p.2 := by
 intro p hp
 rcases List.mem_cons.1 hp with rfl | hp
 ·exact h
 ·exact r p hp
structure OH (w0 : World) (b B0 : Nat) (f : Value → Option Value) (ks : List S56) (vs : List Value) (eM : Value) (AT : Option Addr) (tx : List UInt8) : Prop where
 hU : Utf8Tabs 3 4 w0
 hW : WhiteTab 6 w0
 hE : w0.cell? ⟨0, 0, none⟩ = some eM
 hm : MapR Tryz.prog 126 w0 b f
 hv : VM w0 B0 ks vs ks.length f
 hvs : Vs w0 ks vs
 hap : Apart ks
 hok : KeyOk ks
 hl : ∀ x ∈ ks, x.f2.length ≤ 2147483647 ∧ x.f3.length ≤ 2147483647
 hT : RB w0 AT tx
 hTl : tx.length ≤ 2147483647
def OPost (w0 : World) (eM : Value) (text : ByteArray) (tot : ORes) (e : Ending) (w' : World) : Prop :=
 Below w0.heap.size w0 w' ∧ match tot with
 | .bad => e = .returned (.tuple #[.pointer none, eM])
 | .inv nm h => ∃ g, e = .returned (.tuple #[.pointer none, .iface 79 (.pointer (some ⟨g, 0, none⟩))]) ∧ w'.heap[g]? = some (.cells #[.string nm, .int .u32 h] 81 (0, 0))
 | .ok sigs unv => ∃ (gN : Nat) (vS vU : Value), w'.heap[gN]? = some (.cells #[.string text, vS, vU] 94 (0, 0)) ∧ Kd.R k122 122 w' w0.heap.size (fun _ => True) vS sigs ∧ Kd.R k122 122 w' w0.heap.size (fun _ => True) vU unv ∧
   ((sigs = [] ∧ ∃ g2, e = .returned (.tuple #[.pointer none, .iface 83 (.pointer (some ⟨g2, 0, none⟩))]) ∧ w'.heap[g2]? = some (.cells #[.pointer (some ⟨gN, 0, none⟩)] 85 (0, 0))) ∨
    (sigs ≠ [] ∧ e = .returned (.tuple #[.pointer (some ⟨gN, 0, none⟩), .nilIface])))
theorem OPost.bad {w0 : World} {eM : Value} {text : ByteArray} {tot : ORes} {w' : World} (h : tot = .bad) (hb : Below w0.heap.size w0 w') : OPost w0 eM text tot (.returned (.tuple #[.pointer none, eM])) w' := by
 subst h; exact ⟨hb, rfl⟩
abbrev FrL (b : Nat) (AT : Option Addr) (tl cT : Nat) (A : Option Addr) (n c gN bS bU : Nat) (num : Nat) : List (Nat × Value) :=
 [(1, .iface 128 (.map (some b))), (10, .slice AT tl cT), (11, .slice A n c), (12, .pointer (some ⟨gN, 0, none⟩)), (13, .map (some bS)), (14, .map (some bU)), (15, .int .i64 (num : Int))]
structure LSt (w0 w : World) (gN bS bU : Nat) (text : ByteArray) (vS vU : Value) (sigs unv : List S122) (seen : List (ByteArray × Int)) (num : Nat) (gS gU : Value → Option Value) : Prop where
 below : Below w0.heap.size w0 w
 note : NoteW w w0.heap.size gN bS bU text vS vU sigs unv gS gU
 su : SeenU gU unv
 ss : SeenS gS seen
 okU : ∀ x ∈ unv, SgOk x
 lS : sigs.length ≤ num
 lU : unv.length ≤ num
theorem LSt.step {w0 w w' : World} {gN bS bU : Nat} {text : ByteArray} {vS vU : Value} {sigs unv : List S122} {seen : List (ByteArray × Int)} {num : Nat} {gS gU : Value → Option Value} (h : LSt w0 w gN bS bU text vS vU sigs unv seen num gS gU) (hb : Below w.heap.size w w') : LSt w0 w' gN bS bU text vS vU sigs unv seen num gS gU :=
 ⟨h.below.trans (hb.mono h.below.size), h.note.below hb, h.su, h.ss, h.okU, h.lS, h.lU⟩
theorem LSt.more {w0 w : World} {gN bS bU : Nat} {text : ByteArray} {vS vU : Value} {sigs unv : List S122} {seen : List (ByteArray × Int)} {num : Nat} {gS gU : Value → Option Value} (h : LSt w0 w gN bS bU text vS vU sigs unv seen num gS gU) (n : Nat) (hn : num ≤ n) : LSt w0 w gN bS bU text vS vU sigs unv seen n gS gU :=
 ⟨h.below, h.note, h.su, h.ss, h.okU, Nat.le_trans h.lS hn, Nat.le_trans h.lU hn⟩
structure RSt (w0 : World) (ks : List S56) (text : ByteArray) (tot : ORes) (A : Option Addr) (rest : List UInt8) (c num : Nat) (sigs unv : List S122) (seen : List (ByteArray × Int)) : Prop where
 rb : RB w0 A rest
 cap : rest.length ≤ c
 ends : endsNl rest
 small : rest.length ≤ 2147483647
 low : lowD rest = true
 cnt : num + (linesD rest).length ≤ 100
 res : tot = openL ks text (linesD rest) seen sigs unv
def LO (w0 : World) (ks : List S56) (text : ByteArray) (tot : ORes) (b : Nat) (AT : Option Addr) (tl cT gN bS bU : Nat) (a : Act) (w : World) : Prop :=
 ∃ (A : Option Addr) (rest : List UInt8) (c num : Nat) (vS vU : Value) (sigs unv : List S122) (seen : List (ByteArray × Int)) (gS gU : Value → Option Value),
  Fr (FrL b AT tl cT A rest.length c gN bS bU num) a ∧ LSt w0 w gN bS bU text vS vU sigs unv seen num gS gU ∧ RSt w0 ks text tot A rest c num sigs unv seen
def lenV : Value → Nat
 | .slice _ n _ => n
 | _ => 0
def Omu (a : Act) (_ : World) : Nat := lenV (a.tmps.getD 11 undef)
theorem OH.err {w0 w : World} {b B0 : Nat} {f : Value → Option Value} {ks : List S56} {vs : List Value} {eM : Value} {AT : Option Addr} {tx : List UInt8} (H : OH w0 b B0 f ks vs eM AT tx) (hb : Below w0.heap.size w0 w) : w.cell? ⟨0, 0, none⟩ = some eM := cell_keep hb H.hE
theorem line_nodash' (l : List UInt8) (h : l.take 4 ≠ dashL) : (lineD l).2.2.2.2.1 = false := by unfold lineD; rw [if_neg h]
theorem line_noblank (l : List UInt8) (h : l.take 4 = dashL) (hb : blank (l.drop 4) = (l.drop 4).length) : (lineD l).2.2.2.2.1 = false := by unfold lineD; rw [if_pos h, if_pos hb]
theorem line_nostd (l : List UInt8) (h : l.take 4 = dashL) (hs : Nt.std ((l.drop 4).drop (blank (l.drop 4) + 1)) = none) : (lineD l).2.2.2.2.1 = false := by
 unfold lineD; rw [if_pos h]
 by_cases hb : blank (l.drop 4) = (l.drop 4).length
 ·rw [if_pos hb]
 ·rw [if_neg hb, hs]
theorem line_noname (l : List UInt8) (h : l.take 4 = dashL) (hn : nameD ((l.drop 4).take (blank (l.drop 4))) = false) : (lineD l).2.2.2.2.1 = false := by
 unfold lineD; rw [if_pos h]
 by_cases hb : blank (l.drop 4) = (l.drop 4).length
 ·rw [if_pos hb]
 ·rw [if_neg hb]
  cases Nt.std ((l.drop 4).drop (blank (l.drop 4) + 1)) with
  | none => rfl
  | some raw => simp only; rw [if_neg (fun e => by rw [hn] at e; cases e.1)]
theorem line_short5 (l : List UInt8) (h : l.take 4 = dashL) (raw : List UInt8) (hs : Nt.std ((l.drop 4).drop (blank (l.drop 4) + 1)) = some raw) (h5 : raw.length < 5) : (lineD l).2.2.2.2.1 = false := by
 unfold lineD; rw [if_pos h]
 by_cases hb : blank (l.drop 4) = (l.drop 4).length
 ·rw [if_pos hb]
 ·rw [if_neg hb, hs]; simp only; rw [if_neg (fun e => by omega)]
theorem line_fine (l : List UInt8) (h : l.take 4 = dashL) (hb : blank (l.drop 4) < (l.drop 4).length) (raw : List UInt8) (hs : Nt.std ((l.drop 4).drop (blank (l.drop 4) + 1)) = some raw) (hn : nameD ((l.drop 4).take (blank (l.drop 4))) = true) (h5 : 5 ≤ raw.length) :
  (lineD l).2.2.2.2.1 = true ∧ (lineD l).1 = (l.drop 4).take (blank (l.drop 4)) ∧ (lineD l).2.1 = hashL raw ∧ (lineD l).2.2.1 = (l.drop 4).drop (blank (l.drop 4) + 1) ∧ (lineD l).2.2.2.1 = raw.drop 4 := by
 unfold lineD; rw [if_pos h, if_neg (by omega), hs]; simp only; rw [if_pos ⟨hn, h5⟩]; exact ⟨rfl, rfl, rfl, rfl, rfl⟩
end Go.Proofs.YtkbegfihdpiacaaGreatDoor.PX
