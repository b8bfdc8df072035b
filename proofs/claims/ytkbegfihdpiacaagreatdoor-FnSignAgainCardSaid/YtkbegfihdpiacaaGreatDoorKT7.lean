/- Part 7 of the proof: what the theorem reaches of the texts KR11. -/
import Derived.Shelf.Strings.FuncGrows
import Derived.Ground.GgwProg
import Derived.Shelf.Unicode.IsSpaceAny
import Derived.Shelf.Bytes.SlIndexAt
import Derived.Shelf.Unicode.ValidAny
import Derived.Shelf.Spec.DecodeRune
import Derived.Ground.NamesProg
import Derived.Ground.Names7Prog
import Derived.Test.YtkbegfihdpiacaaGreatDoorProg
import Derived.Lib.LazyBuf
import Derived.BigQuiet
import Derived.Deep.QuietTactic
import Derived.StillTailTactics
import Derived.Deep.RegionWith
import Derived.Lib.IndexLaws
import Derived.Laws.CopyOwn
import Derived.Laws.CopyRow
import Derived.Lib.BufferWrite
import Derived.Test.YtkbegfihdpiacaaGreatDoorKT1
import Derived.Test.YtkbegfihdpiacaaGreatDoorKT3
import Derived.Test.YtkbegfihdpiacaaGreatDoorKT4
import Derived.Test.YtkbegfihdpiacaaGreatDoorKT5
import Derived.Test.YtkbegfihdpiacaaGreatDoorKT6
set_option linter.unusedVariables false
set_option linter.unusedSimpArgs false
namespace Go.Proofs
open Go.Shelf
def Tryz.laysGw15_ren : Go.Shelf.Ren := ⟨fun | 15 => 64 | 20 => 80 | n => n, fun | 9 => 9 | 23 => 102 | 3 => 3 | 4 => 4 | 0 => 0 | 21 => 21 | n => n, fun | n => n⟩
theorem Tryz.laysGw15 : Go.Proofs.LaysGw.n15 Tryz.prog Tryz.laysGw15_ren := {
 mixed := by kernel_rfl
 f15 := Tryz.func64.trans (congrArg some (by kernel_rfl))
 f20 := Tryz.func80.trans (congrArg some (by kernel_rfl))
 t0 := Tryz.underlying0
 a0 := Tryz.isAgg0
 z0 := Tryz.sizeOf0
 v0 := Tryz.zeroValue0
 i0 := by kernel_rfl
 t3 := Tryz.underlying3
 a3 := Tryz.isAgg3
 z3 := Tryz.sizeOf3
 v3 := Tryz.zeroValue3
 i3 := by kernel_rfl
 t4 := Tryz.underlying4
 a4 := Tryz.isAgg4
 z4 := Tryz.sizeOf4
 v4 := Tryz.zeroValue4
 i4 := by kernel_rfl
 t9 := Tryz.underlying9
 a9 := Tryz.isAgg9
 z9 := Tryz.sizeOf9
 v9 := Tryz.zeroValue9
 i9 := by kernel_rfl
 t21 := Tryz.underlying21
 a21 := Tryz.isAgg21
 z21 := Tryz.sizeOf21
 v21 := Tryz.zeroValue21
 i21 := by kernel_rfl
 t23 := Tryz.underlying102
 a23 := Tryz.isAgg102
 z23 := Tryz.sizeOf102
 v23 := Tryz.zeroValue102
 i23 := by kernel_rfl }
open Go.RowKit Go.Lib in
theorem Tryz.strings_IndexFunc_grows (g : Nat) (lb : Array Value) (eg : ∀ args w, (callFunc g args).run Tryz.prog w = .ok (.enter g args) w) (p : Nat → Bool) (s : ByteArray) (w : World) (hp : PredGrows Tryz.prog g lb p w) :
  Calls Tryz.prog 64 #[.string s, .func (.func g) #[] lb] w fun e w' => e = .returned (.int .i64 (Lib.idxFunc p true s)) ∧ Below w.heap.size w w' := Any.strings_IndexFunc_grows Tryz.laysGw15 g lb eg p s w hp
def Tryz.lays199_ren : Go.Shelf.Ren := ⟨fun | 199 => 65 | 261 => 81 | 311 => 85 | 312 => 86 | n => n, fun | 21 => 21 | 4 => 4 | 51 => 23 | 141 => 180 | 0 => 0 | 196 => 187 | 193 => 184 | 3 => 3 | 198 => 190 | 49 => 188 | 194 => 185 | 201 => 193 | 226 => 195 | 46 => 148 | 227 => 196 | n => n, fun | 6 => 6 | n => n⟩
theorem Tryz.lays199 : Go.Proofs.Lays.n199 Tryz.prog Tryz.lays199_ren := {
 mixed := by kernel_rfl
 f199 := Tryz.func65.trans (congrArg some (by kernel_rfl))
 f261 := Tryz.func81.trans (congrArg some (by kernel_rfl))
 f311 := Tryz.func85.trans (congrArg some (by kernel_rfl))
 f312 := Tryz.func86.trans (congrArg some (by kernel_rfl))
 t0 := Tryz.underlying0
 a0 := Tryz.isAgg0
 z0 := Tryz.sizeOf0
 v0 := Tryz.zeroValue0
 t3 := Tryz.underlying3
 a3 := Tryz.isAgg3
 z3 := Tryz.sizeOf3
 v3 := Tryz.zeroValue3
 t4 := Tryz.underlying4
 a4 := Tryz.isAgg4
 z4 := Tryz.sizeOf4
 v4 := Tryz.zeroValue4
 t21 := Tryz.underlying21
 a21 := Tryz.isAgg21
 z21 := Tryz.sizeOf21
 v21 := Tryz.zeroValue21
 t46 := Tryz.underlying148
 a46 := Tryz.isAgg148
 z46 := Tryz.sizeOf148
 v46 := Tryz.zeroValue148
 t49 := Tryz.underlying188
 a49 := Tryz.isAgg188
 z49 := Tryz.sizeOf188
 v49 := Tryz.zeroValue188
 t51 := Tryz.underlying23
 a51 := Tryz.isAgg23
 z51 := Tryz.sizeOf23
 v51 := Tryz.zeroValue23
 t141 := Tryz.underlying180
 a141 := Tryz.isAgg180
 z141 := Tryz.sizeOf180
 v141 := Tryz.zeroValue180
 t193 := Tryz.underlying184
 a193 := Tryz.isAgg184
 z193 := Tryz.sizeOf184
 v193 := Tryz.zeroValue184
 t194 := Tryz.underlying185
 a194 := Tryz.isAgg185
 z194 := Tryz.sizeOf185
 v194 := Tryz.zeroValue185
 t196 := Tryz.underlying187
 a196 := Tryz.isAgg187
 z196 := Tryz.sizeOf187
 v196 := Tryz.zeroValue187
 t198 := Tryz.underlying190
 a198 := Tryz.isAgg190
 z198 := Tryz.sizeOf190
 v198 := Tryz.zeroValue190
 t201 := Tryz.underlying193
 a201 := Tryz.isAgg193
 z201 := Tryz.sizeOf193
 v201 := Tryz.zeroValue193
 t226 := Tryz.underlying195
 a226 := Tryz.isAgg195
 z226 := Tryz.sizeOf195
 v226 := Tryz.zeroValue195
 t227 := Tryz.underlying196
 a227 := Tryz.isAgg196
 z227 := Tryz.sizeOf196
 v227 := Tryz.zeroValue196
 g6 := by kernel_rfl }
open Go.RowKit Go.Lib in
theorem Tryz.unicode_IsSpace_any (r : Int) (w : World) (hlo : -2147483648 ≤ r) (hhi : r ≤ 2147483647) (hW : Lib.WhiteTab 6 w) :
  Calls Tryz.prog 65 #[.int .i32 r] w fun e w' => e = .returned (.bool (Lib.isSpaceZ r)) ∧ Below w.heap.size w w' := Any.unicode_IsSpace_any Tryz.lays199 r w hlo hhi hW
def Tryz.lays187_ren : Go.Shelf.Ren := ⟨fun | 187 => 39 | 255 => 58 | n => n, fun | 37 => 72 | 5 => 5 | 3 => 3 | n => n, fun | n => n⟩
theorem Tryz.lays187 : Go.Proofs.Lays.n187 Tryz.prog Tryz.lays187_ren := {
 mixed := by kernel_rfl
 f187 := Tryz.func39.trans (congrArg some (by kernel_rfl))
 f255 := Tryz.func58.trans (congrArg some (by kernel_rfl))
 t3 := Tryz.underlying3
 a3 := Tryz.isAgg3
 z3 := Tryz.sizeOf3
 v3 := Tryz.zeroValue3
 t5 := Tryz.underlying5
 a5 := Tryz.isAgg5
 z5 := Tryz.sizeOf5
 v5 := Tryz.zeroValue5
 t37 := Tryz.underlying72
 a37 := Tryz.isAgg72
 z37 := Tryz.sizeOf72
 v37 := Tryz.zeroValue72 }
open Go.RowKit Go.Lib in
theorem Tryz.bytes_IndexByte_at (a : Addr) (n c : Nat) (xs : List Int) (cv : Int) (w : World) (hx : xs.length = n) (hc : ∀ i, i < n → w.cell? (a.add i) = some (.int .u8 (xs.getD i 0))) :
  Calls Tryz.prog 39 #[.slice (some a) n c, .int .u8 cv] w fun e w' => e = .returned (.int .i64 (Lib.indexByte (Lib.bytesOf xs) cv.toNat.toUInt8)) ∧ w' = w := Any.bytes_IndexByte_at Tryz.lays187 a n c xs cv w hx hc
def Tryz.lays196_ren : Go.Shelf.Ren := ⟨fun | 196 => 63 | 259 => 79 | n => n, fun | 9 => 9 | 4 => 4 | 3 => 3 | 5 => 5 | 12 => 12 | 119 => 159 | 0 => 0 | 46 => 148 | 139 => 162 | 138 => 161 | 53 => 169 | n => n, fun | 3 => 3 | 4 => 4 | n => n⟩
theorem Tryz.lays196 : Go.Proofs.Lays.n196 Tryz.prog Tryz.lays196_ren := {
 mixed := by kernel_rfl
 f196 := Tryz.func63.trans (congrArg some (by kernel_rfl))
 f259 := Tryz.func79.trans (congrArg some (by kernel_rfl))
 t0 := Tryz.underlying0
 a0 := Tryz.isAgg0
 z0 := Tryz.sizeOf0
 v0 := Tryz.zeroValue0
 t3 := Tryz.underlying3
 a3 := Tryz.isAgg3
 z3 := Tryz.sizeOf3
 v3 := Tryz.zeroValue3
 t4 := Tryz.underlying4
 a4 := Tryz.isAgg4
 z4 := Tryz.sizeOf4
 v4 := Tryz.zeroValue4
 t5 := Tryz.underlying5
 a5 := Tryz.isAgg5
 z5 := Tryz.sizeOf5
 v5 := Tryz.zeroValue5
 t9 := Tryz.underlying9
 a9 := Tryz.isAgg9
 z9 := Tryz.sizeOf9
 v9 := Tryz.zeroValue9
 t12 := Tryz.underlying12
 a12 := Tryz.isAgg12
 z12 := Tryz.sizeOf12
 v12 := Tryz.zeroValue12
 t46 := Tryz.underlying148
 a46 := Tryz.isAgg148
 z46 := Tryz.sizeOf148
 v46 := Tryz.zeroValue148
 t53 := Tryz.underlying169
 a53 := Tryz.isAgg169
 z53 := Tryz.sizeOf169
 v53 := Tryz.zeroValue169
 t119 := Tryz.underlying159
 a119 := Tryz.isAgg159
 z119 := Tryz.sizeOf159
 t138 := Tryz.underlying161
 a138 := Tryz.isAgg161
 z138 := Tryz.sizeOf161
 v138 := Tryz.zeroValue161
 t139 := Tryz.underlying162
 a139 := Tryz.isAgg162
 z139 := Tryz.sizeOf162
 v139 := Tryz.zeroValue162
 g3 := by kernel_rfl
 g4 := by kernel_rfl }
open Go.RowKit in
theorem Tryz.utf8_ValidString (s : ByteArray) (w : World) (hs : s.size ≤ 9223372036854775807) (hT : Lib.Utf8Tabs 3 4 w) :
  Calls Tryz.prog 63 #[.string s] w fun e w' => e = .returned (.bool (Lib.validD s.data.toList)) ∧ Below w.heap.size w w' := Any.utf8_ValidString Tryz.lays196 s w hs hT
def Tryz.lays7n32_ren : Go.Shelf.Ren := ⟨fun | 32 => 37 | 49 => 54 | n => n, fun | 30 => 72 | 21 => 21 | 3 => 3 | 0 => 0 | 5 => 5 | 4 => 4 | 33 => 103 | 66 => 159 | 25 => 148 | 69 => 162 | 68 => 161 | n => n, fun | 2 => 3 | 3 => 4 | n => n⟩
theorem Tryz.lays7n32 : Go.Proofs.Lays7.n32 Tryz.prog Tryz.lays7n32_ren := {
 mixed := by kernel_rfl
 f32 := Tryz.func37.trans (congrArg some (by kernel_rfl))
 f49 := Tryz.func54.trans (congrArg some (by kernel_rfl))
 t0 := Tryz.underlying0
 a0 := Tryz.isAgg0
 z0 := Tryz.sizeOf0
 v0 := Tryz.zeroValue0
 i0 := by kernel_rfl
 t3 := Tryz.underlying3
 a3 := Tryz.isAgg3
 z3 := Tryz.sizeOf3
 v3 := Tryz.zeroValue3
 i3 := by kernel_rfl
 t4 := Tryz.underlying4
 a4 := Tryz.isAgg4
 z4 := Tryz.sizeOf4
 v4 := Tryz.zeroValue4
 i4 := by kernel_rfl
 t5 := Tryz.underlying5
 a5 := Tryz.isAgg5
 z5 := Tryz.sizeOf5
 v5 := Tryz.zeroValue5
 i5 := by kernel_rfl
 t21 := Tryz.underlying21
 a21 := Tryz.isAgg21
 z21 := Tryz.sizeOf21
 v21 := Tryz.zeroValue21
 i21 := by kernel_rfl
 t25 := Tryz.underlying148
 a25 := Tryz.isAgg148
 z25 := Tryz.sizeOf148
 v25 := Tryz.zeroValue148
 i25 := by kernel_rfl
 t30 := Tryz.underlying72
 a30 := Tryz.isAgg72
 z30 := Tryz.sizeOf72
 v30 := Tryz.zeroValue72
 i30 := by kernel_rfl
 t33 := Tryz.underlying103
 a33 := Tryz.isAgg103
 z33 := Tryz.sizeOf103
 v33 := Tryz.zeroValue103
 i33 := by kernel_rfl
 t66 := Tryz.underlying159
 a66 := Tryz.isAgg159
 z66 := Tryz.sizeOf159
 t68 := Tryz.underlying161
 a68 := Tryz.isAgg161
 z68 := Tryz.sizeOf161
 v68 := Tryz.zeroValue161
 i68 := by kernel_rfl
 t69 := Tryz.underlying162
 a69 := Tryz.isAgg162
 z69 := Tryz.sizeOf162
 v69 := Tryz.zeroValue162
 i69 := by kernel_rfl
 g2 := by kernel_rfl
 g3 := by kernel_rfl }
open Go.RowKit in
theorem Tryz.utf8_DecodeRune (s : ByteArray) (b off cap : Nat) (w : World) (hT : Lib.Utf8Tabs 3 4 w) (hp : ∀ j, j < s.size → w.cell? ⟨b, off + j, none⟩ = some (.int .u8 (s.get! j).toNat)) :
  Calls Tryz.prog 37 #[.slice (some ⟨b, off, none⟩) s.size cap] w fun e w' => e = .returned (.tuple #[.int .i32 (Lib.decodeGo s).1, .int .i64 (Lib.decodeGo s).2]) ∧ Below w.heap.size w w' := Any7.utf8_DecodeRune Tryz.lays7n32 s b off cap w hT hp
end Go.Proofs
namespace Go.Proofs.YtkbegfihdpiacaaGreatDoor.PX
open Go.RowKit Nt Go.Lib Go.Proofs.YtkbegfihdpiacaaGreatDoorW.PrintWords Go.Proofs.YtkbegfihdpiacaaGreatDoorW.PrintLast
theorem idx_none (p : Nat → Bool) (s : ByteArray) : ∀ (f pos : Nat), (decide (idxFuncFrom p true s f pos < 0)) = (runesN f (s.data.toList.drop pos)).all (fun r => !p r)
 | 0, pos => by simp [idxFuncFrom, runesN]
 | f + 1, pos => by
  have hsz : s.data.toList.length = s.size := by rw [Array.length_toList]; rfl
  by_cases h : pos < s.size
  ·have hne : s.data.toList.drop pos ≠ [] := by
    intro e
    have := congrArg List.length e
    rw [List.length_drop, hsz] at this
    simp at this
    omega
   unfold idxFuncFrom
   rw [if_pos h, runesN_cons f hne, List.all_cons, decodeL_drop]
   by_cases hp : p (Utf8.decode s pos).1 = true
   ·rw [if_pos hp, hp]; simp
   ·rw [if_neg hp, idx_none p s f, List.drop_drop]
    simp [hp]
  ·have he : s.data.toList.drop pos = [] := List.drop_eq_nil_of_le (by omega)
   rw [idxFuncFrom_end p true s _ _ h, he, runesN_nil]
   rfl
theorem idx_top (p : Nat → Bool) (s : ByteArray) : (decide (idxFunc p true s < 0)) = (runesD s.data.toList).all (fun r => !p r) := by
 have hsz : s.data.toList.length = s.size := by rw [Array.length_toList]; rfl
 unfold idxFunc runesD
 rw [idx_none, List.drop_zero, hsz]
theorem enc_plus (r : Nat) : (43 : UInt8) ∈ encodeRune (r : Int) ↔ r = 43 := by
 unfold encodeRune
 by_cases h1 : r ≤ 127
 ·rw [encodeRuneZ_one (by omega) (by omega)]
  simp only [List.map_cons, List.map_nil, List.mem_singleton, Int.toNat_natCast]
  constructor
  ·intro h
   have := congrArg UInt8.toNat h
   simp at this
   omega
  ·rintro rfl; rfl
 ·have key : ∀ x ∈ encodeRuneZ (r : Int), 128 ≤ x ∧ x < 256 := by
   intro x hx
   unfold encodeRuneZ at hx
   repeat' split at hx
   all_goals simp at hx
   all_goals omega
  constructor
  ·intro h
   obtain ⟨x, hx, he⟩ := List.mem_map.1 h
   have hk := key x hx
   have := congrArg UInt8.toNat he
   simp at this
   omega
  ·omega
theorem plus_runes (l : List UInt8) (hv : validD l = true) : (runesD l).all (fun r => !(r == 43)) = !l.contains 43 := by
 have he : encs (runesD l) = l := by
  rcases encs_runes l.length l rfl with ⟨_, k⟩ | ⟨a, _⟩
  ·exact k
  ·rw [a] at hv; cases hv
 rw [Bool.eq_iff_iff]
 simp only [List.all_eq_true, Bool.not_eq_true', beq_eq_false_iff_ne, List.contains_eq_mem, decide_eq_false_iff_not]
 constructor
 ·intro h hm
  rw [← he] at hm
  simp only [Nt.encs, List.mem_flatten, List.mem_map] at hm
  obtain ⟨b, ⟨r, hr, rfl⟩, hb⟩ := hm
  exact h r hr ((enc_plus r).1 hb)
 ·intro h r hr e
  refine h ?_
  rw [← he]
  simp only [Nt.encs, List.mem_flatten, List.mem_map]
  exact ⟨_, ⟨r, hr, rfl⟩, (enc_plus r).2 e⟩
theorem name_split (l : List UInt8) : nameD l = (!l.isEmpty && validD l && (runesD l).all (fun r => !isSpaceR r) && !l.contains 43) := by
 unfold nameD
 cases hv : validD l with
 | false => simp
 | true =>
  rw [← plus_runes l hv]
  have : (runesD l).all (fun r => !(isSpaceR r || r == 43)) = ((runesD l).all (fun r => !isSpaceR r) && (runesD l).all (fun r => !(r == 43))) := by
   induction runesD l with
   | nil => rfl
   | cons a t ih => simp only [List.all_cons, ih]; cases isSpaceR a <;> cases (a == 43) <;> simp
  rw [this]
  cases (runesD l).all (fun r => !isSpaceR r) <;> cases (runesD l).all (fun r => !(r == 43)) <;> cases l.isEmpty <;> rfl
theorem zz_one (s : ByteArray) (c : UInt8) (hs : s.size ≤ 2147483647) : ∀ (d i : Nat), i + d = s.size →
  ∃ k r, sumdbnote_zzIndex.l0 k s ⟨#[c]⟩ (i : Int) = some r ∧ ((r = -1 ∧ ∀ j, i ≤ j → j < s.size → s.data.toList[j]? ≠ some c) ∨ (∃ n : Nat, r = (n : Int) ∧ i ≤ n ∧ n < s.size ∧ s.data.toList[n]? = some c ∧ ∀ j, i ≤ j → j < n → s.data.toList[j]? ≠ some c))
 | 0, i, h => by
  refine ⟨1, -1, ?_, .inl ⟨rfl, fun j h1 h2 => by omega⟩⟩
  unfold sumdbnote_zzIndex.l0
  have e1 : wrap64 ((i : Int) + ((⟨#[c]⟩ : ByteArray).size : Int)) = (i : Int) + 1 := by
   show wrap64 ((i : Int) + 1) = _
   exact IntWalk.wrap64_in _ ⟨by omega, by omega⟩
  rw [e1, if_neg (by omega)]
 | d + 1, i, h => by
  have e1 : wrap64 ((i : Int) + ((⟨#[c]⟩ : ByteArray).size : Int)) = (i : Int) + 1 := by
   show wrap64 ((i : Int) + 1) = _
   exact IntWalk.wrap64_in _ ⟨by omega, by omega⟩
  have e2 : wrap64 ((i : Int) + 1) = ((i + 1 : Nat) : Int) := by rw [IntWalk.wrap64_in _ ⟨by omega, by omega⟩]; rfl
  have hsz : s.data.toList.length = s.size := by rw [Array.length_toList]; rfl
  have hx : (s.extract i (i + 1)).toList = [s.data.toList[i]'(by omega)] := by
   rw [ByteArray.toList_eq, ByteArray.data_extract, Array.toList_extract]
   simp only [List.extract]
   rw [show i + 1 - i = 1 by omega, List.drop_eq_getElem_cons (by omega)]
   rfl
  have hc : (⟨#[c]⟩ : ByteArray).toList = [c] := by rw [ByteArray.toList_eq]
  have hget : s.data.toList[i]? = some (s.data.toList[i]'(by omega)) := List.getElem?_eq_getElem (by omega)
  by_cases hb : s.data.toList[i]'(by omega) = c
  ·refine ⟨1, i, ?_, .inr ⟨i, rfl, Nat.le_refl _, by omega, by rw [hget, hb], fun j h1 h2 => by omega⟩⟩
   unfold sumdbnote_zzIndex.l0
   rw [e1, if_pos (by omega), if_pos (by omega), if_pos (by omega)]
   rw [show ((i : Int)).toNat = i by omega, show ((i : Int) + 1).toNat = i + 1 by omega, hx, hc, hb, if_pos rfl]
  ·obtain ⟨k, r, hr, hcase⟩ := zz_one s c hs d (i + 1) (by omega)
   refine ⟨k + 1, r, ?_, ?_⟩
   ·unfold sumdbnote_zzIndex.l0
    rw [e1, if_pos (by omega), if_pos (by omega), if_pos (by omega)]
    rw [show ((i : Int)).toNat = i by omega, show ((i : Int) + 1).toNat = i + 1 by omega, hx, hc, if_neg (by simpa using hb), e2]
    exact hr
   ·rcases hcase with ⟨h1, h2⟩ | ⟨n, h1, h2, h3, h4, h5⟩
    ·refine .inl ⟨h1, fun j hj hj' => ?_⟩
     rcases Nat.eq_or_lt_of_le hj with rfl | hlt
     ·rw [hget]; simpa using hb
     ·exact h2 j hlt hj'
    ·refine .inr ⟨n, h1, by omega, h3, h4, fun j hj hj' => ?_⟩
     rcases Nat.eq_or_lt_of_le hj with rfl | hlt
     ·rw [hget]; simpa using hb
     ·exact h5 j hlt hj'
theorem contains_one (s : ByteArray) (c : UInt8) (hs : s.size ≤ 2147483647) : ∃ k, sumdbnote_zzContains.f k s ⟨#[c]⟩ = some (s.data.toList.contains c) := by
 have hsz : s.data.toList.length = s.size := by rw [Array.length_toList]; rfl
 obtain ⟨k, r, hr, hcase⟩ := zz_one s c hs s.size 0 (by omega)
 refine ⟨k, ?_⟩
 unfold sumdbnote_zzContains.f sumdbnote_zzIndex.f
 rw [show (0 : Int) = ((0 : Nat) : Int) from rfl, hr]
 simp only [Option.bind_some]
 congr 1
 rcases hcase with ⟨rfl, h2⟩ | ⟨n, rfl, _, h3, h4, _⟩
 ·rw [Bool.eq_iff_iff]
  simp only [decide_eq_true_eq, List.contains_eq_mem]
  constructor
  ·intro h; omega
  ·intro h
   obtain ⟨j, hj, he⟩ := List.getElem_of_mem h
   exact absurd (by rw [List.getElem?_eq_getElem hj, he]) (h2 j (Nat.zero_le _) (by omega))
 ·rw [Bool.eq_iff_iff]
  simp only [decide_eq_true_eq, List.contains_eq_mem]
  exact ⟨fun _ => List.mem_of_getElem? h4, fun _ => by omega⟩
theorem cell_keep {w W : World} (hb : Below w.heap.size w W) {a : Addr} {v : Value} (h : w.cell? a = some v) : W.cell? a = some v := by
 rw [hb.cell (World.block_lt_of_cell? w a h)]
 exact h
theorem white_keep {w W : World} (h : WhiteTab 6 w) (hb : Below w.heap.size w W) : WhiteTab 6 W := by
 obtain ⟨T, oT, R, oR, h1, h2, h3, h4, h5⟩ := h
 exact ⟨T, oT, R, oR, cell_keep hb h1, cell_keep hb h2, cell_keep hb h3, cell_keep hb h4, fun i hi => cell_keep hb (h5 i hi)⟩
theorem utf8_keep {w W : World} (h : Utf8Tabs 3 4 w) (hb : Below w.heap.size w W) : Utf8Tabs 3 4 W :=
 ⟨fun c hc => cell_keep hb (h.1 c hc), fun i hi => ⟨cell_keep hb (h.2 i hi).1, cell_keep hb (h.2 i hi).2⟩⟩
theorem enter_space : ∀ args w, (callFunc 65 args).run Tryz.prog w = .ok (.enter 65 args) w := by
 intro args w
 simp [go_sem, Tryz.func65]
theorem space_grows (w : World) (hW : WhiteTab 6 w) : PredGrows Tryz.prog 65 #[] (fun r => isSpaceR r) w := by
 intro W x hx hb
 refine (Tryz.unicode_IsSpace_any (x : Int) W (by omega) (by omega) (white_keep hW hb)).mono ?_
 rintro e w' ⟨rfl, h⟩
 exact ⟨by rw [isSpaceZ_nat], h⟩
theorem ret_bool {a b : Bool} (h : a = b) : Ending.returned (.bool a) = Ending.returned (.bool b) := by rw [h]
set_option maxRecDepth 100000 in
set_option maxHeartbeats 1000000 in
theorem valid_any (s : ByteArray) (w : World) (hs : s.size ≤ 2147483647) (hU : Utf8Tabs 3 4 w) (hW : WhiteTab 6 w) :
  Calls Tryz.prog 44 #[.string s] w fun e w' => e = .returned (.bool (nameD s.data.toList)) ∧ Below w.heap.size w w' := by
 have hn := name_split s.data.toList
 generalize hN : nameD s.data.toList = nm at *
 clear hN
 have hx := idx_top (fun r => isSpaceR r) s
 have cV := fun W hU => Tryz.utf8_ValidString s W (by omega) hU
 have cI := fun W hp => Tryz.strings_IndexFunc_grows 65 #[] enter_space (fun r => isSpaceR r) s W hp
 obtain ⟨kc, hc⟩ := contains_one s 43 hs
 have cC := fun W => sumdbnote_zzContains.calls kc s ⟨#[43]⟩ _ W hc
 clear hc
 generalize hv : validD s.data.toList = v at *
 generalize hi : Lib.idxFunc (fun r => isSpaceR r) true s = ix at *
 generalize hal : (runesD s.data.toList).all (fun r => !isSpaceR r) = al at *
 generalize hct : s.data.toList.contains 43 = ct at *
 clear hv hi hal hct
 have hem : s.data.toList.isEmpty = s.toList.isEmpty := by rw [← ByteArray.toList_eq]
 rw [hem] at hn
 clear hem
 have HN := Lib.hid hn
 clear hn
 cases he : s.toList.isEmpty with
 | true =>
  rw [he] at HN
  go_enter Tryz.func44, Tryz.ntmps44
  go_wp2
  go_ret
  exact ⟨ret_bool (by rw [HN.out]; rfl), Below.refl _ _⟩
 | false =>
  rw [he] at HN
  cases v with
  | false =>
   go_enter Tryz.func44, Tryz.ntmps44
   go_wp2_with (go_at_call 63; refine (cV _ hU).mono ?_; rintro e w1 ⟨rfl, hb1⟩)
   go_ret
   exact ⟨ret_bool (by rw [HN.out]; rfl), hb1⟩
  | true =>
   cases al with
   | false =>
    go_enter Tryz.func44, Tryz.ntmps44
    go_wp2_with (first | (go_at_call 63; refine (cV _ hU).mono ?_; rintro e w1 ⟨rfl, hb1⟩; have hW1 := white_keep hW hb1) | (go_at_call 64; refine (cI _ (space_grows _ hW1)).mono ?_; rintro e w2 ⟨rfl, hb2⟩))
    go_ret
    exact ⟨ret_bool (by rw [HN.out]; rfl), hb1.trans (hb2.mono hb1.size)⟩
   | true =>
    go_enter Tryz.func44, Tryz.ntmps44
    go_wp2_with (first | (go_at_call 63; refine (cV _ hU).mono ?_; rintro e w1 ⟨rfl, hb1⟩; have hW1 := white_keep hW hb1) | (go_at_call 64; refine (cI _ (space_grows _ hW1)).mono ?_; rintro e w2 ⟨rfl, hb2⟩) | (go_at_call 66; refine (cC _).mono ?_; rintro e w3 ⟨rfl, hb3⟩))
    go_ret
    exact ⟨ret_bool (by rw [HN.out]; cases ct <;> rfl), hb1.trans ((hb2.trans (hb3.below.mono hb2.size)).mono hb1.size)⟩
def figZ (b : UInt8) : Int := if fg b = 255 then -1 else fg b
set_option maxRecDepth 100000 in
theorem fig_table : ∀ i : Fin 256, spec_figure.f 4 (i.val : Int) = some (figZ (UInt8.ofNat i.val)) := by decide +kernel
theorem fig_ev (b : UInt8) : Ev (fun k => spec_figure.f k (b.toNat : Int)) (figZ b) := by
 have h := fig_table ⟨b.toNat, b.toNat_lt⟩
 simp only [UInt8.ofNat_toNat] at h
 exact Ev.of (spec_figure.mono (b.toNat : Int)) h
theorem figZ_neg (b : UInt8) : figZ b < 0 ↔ fg b = 255 := by
 unfold figZ
 split
 ·constructor <;> intro <;> first | assumption | omega
 ·constructor <;> intro <;> first | contradiction | omega
theorem figZ_of (b : UInt8) (h : fg b ≠ 255) : figZ b = (fg b : Int) := by unfold figZ; rw [if_neg h]
theorem fg_ne (b : UInt8) (h : fg b ≠ 255) : fg b < 64 := by rcases fg_lt b with h1 | h1 <;> omega
theorem wraps_i64' (n : Int) (h₀ : 0 ≤ n) (h₁ : n < 2 ^ 62) : IntKind.i64.wrap n = n := IntWalk.i64_in n ⟨by omega, by omega⟩
theorem or_fig (n : Nat) (t : Nat) (hn : n < 262144) (ht : t < 64) : Go.bits .or .i64 (wrap64 ((n : Int) * 64)) (t : Int) = ((n * 64 + t : Nat) : Int) := by
 rw [IntWalk.wrap64_in _ ⟨by omega, by omega⟩]
 have := bits_join .i64 62 (by decide) wraps_i64' 6 ((n : Int) * 64) (t : Int) (by omega) (by omega) (by omega) (by omega) (by omega) (by omega)
 rw [this]
 push_cast
 rfl
theorem and_255 (n : Nat) (hn : n < 16777216) : Go.bits .and .i64 (n : Int) 255 = ((n % 256 : Nat) : Int) := by
 have := bits_mask .i64 62 (by decide) wraps_i64' 8 (by decide) (n : Int) (by omega) (by omega)
 rw [show (2 : Int) ^ 8 - 1 = 255 from rfl, show (2 : Int) ^ 8 = 256 from rfl] at this
 rw [this]
 omega
theorem and_65535 (n : Nat) (hn : n < 16777216) : Go.bits .and .i64 (n : Int) 65535 = ((n % 65536 : Nat) : Int) := by
 have := bits_mask .i64 62 (by decide) wraps_i64' 16 (by decide) (n : Int) (by omega) (by omega)
 rw [show (2 : Int) ^ 16 - 1 = 65535 from rfl, show (2 : Int) ^ 16 = 65536 from rfl] at this
 rw [this]
 omega
theorem bt_get (s : ByteArray) (i : Nat) (h : i < s.size) : bt s (i : Int) = ((s.data.toList[i]'(by rw [data_length]; exact h)).toNat : Int) := by
 unfold bt
 rw [dif_pos (by simpa using h)]
 rfl
theorem round_ok (s : ByteArray) (p : Int) (o : List Int) (c : Bool) (i n kk j : Nat) (b : UInt8) (r : ByteArray × Bool × Bool) (hs : s.size ≤ 2147483647) (hj : j < 4) (hk : j < kk) (hi : i + j < s.size) (hb : s.data.toList[i + j]? = some b) (hf : fg b ≠ 255) (hn : n < 262144)
  (h : Ev (fun k => spec_Decode.l2 k s p o c (i : Int) ((n * 64 + fg b : Nat) : Int) (kk : Int) ((j + 1 : Nat) : Int)) r) :
  Ev (fun k => spec_Decode.l2 k s p o c (i : Int) (n : Int) (kk : Int) (j : Int)) r := by
 have e1 : wrap64 ((i : Int) + (j : Int)) = ((i + j : Nat) : Int) := by rw [IntWalk.wrap64_in _ ⟨by omega, by omega⟩]; push_cast; rfl
 have e2 : wrap64 ((j : Int) + 1) = ((j + 1 : Nat) : Int) := by rw [IntWalk.wrap64_in _ ⟨by omega, by omega⟩]; push_cast; rfl
 have hget : bt s ((i + j : Nat) : Int) = (b.toNat : Int) := by
  rw [bt_get s _ hi]
  have := List.getElem?_eq_some_iff.1 hb
  obtain ⟨_, e⟩ := this
  rw [e]
 refine Ev.step (f := fun k => (spec_figure.f k (b.toNat : Int)).bind fun t => if t < 0 then some (⟨#[]⟩, false, true) else spec_Decode.l2 k s p o c (i : Int) (Go.bits .or .i64 (wrap64 ((n : Int) * 64)) t) (kk : Int) (wrap64 ((j : Int) + 1))) (fun k => by
  rw [spec_Decode.l2]
  rw [if_pos (by omega), if_pos (by omega), e1, if_pos (by omega), if_pos (by omega), hget]) ?_
 refine Ev.bind (fig_ev b) ?_
 exact Ev.congr (fun k => by
  rw [if_neg (by rw [figZ_neg]; exact hf), figZ_of b hf, or_fig n (fg b) hn (fg_ne b hf), e2]) h
theorem round_bad (s : ByteArray) (p : Int) (o : List Int) (c : Bool) (i n kk j : Nat) (b : UInt8) (hs : s.size ≤ 2147483647) (hj : j < 4) (hk : j < kk) (hi : i + j < s.size) (hb : s.data.toList[i + j]? = some b) (hf : fg b = 255) :
  Ev (fun k => spec_Decode.l2 k s p o c (i : Int) (n : Int) (kk : Int) (j : Int)) (⟨#[]⟩, false, true) := by
 have e1 : wrap64 ((i : Int) + (j : Int)) = ((i + j : Nat) : Int) := by rw [IntWalk.wrap64_in _ ⟨by omega, by omega⟩]; push_cast; rfl
 have hget : bt s ((i + j : Nat) : Int) = (b.toNat : Int) := by
  rw [bt_get s _ hi]
  have := List.getElem?_eq_some_iff.1 hb
  obtain ⟨_, e⟩ := this
  rw [e]
 refine Ev.step (f := fun k => (spec_figure.f k (b.toNat : Int)).bind fun t => if t < 0 then some (⟨#[]⟩, false, true) else spec_Decode.l2 k s p o c (i : Int) (Go.bits .or .i64 (wrap64 ((n : Int) * 64)) t) (kk : Int) (wrap64 ((j : Int) + 1))) (fun k => by
  rw [spec_Decode.l2]
  rw [if_pos (by omega), if_pos (by omega), e1, if_pos (by omega), if_pos (by omega), hget]) ?_
 refine Ev.bind (fig_ev b) ?_
 exact Ev.congr (fun k => by rw [if_pos ((figZ_neg b).2 hf)]) (Ev.now _)
theorem round_pad (s : ByteArray) (p : Int) (o : List Int) (c : Bool) (i n kk j : Nat) (r : ByteArray × Bool × Bool) (hj : j < 4) (hk : kk ≤ j) (hn : n < 262144)
  (h : Ev (fun k => spec_Decode.l2 k s p o c (i : Int) ((n * 64 + 0 : Nat) : Int) (kk : Int) ((j + 1 : Nat) : Int)) r) :
  Ev (fun k => spec_Decode.l2 k s p o c (i : Int) (n : Int) (kk : Int) (j : Int)) r := by
 have e2 : wrap64 ((j : Int) + 1) = ((j + 1 : Nat) : Int) := by rw [IntWalk.wrap64_in _ ⟨by omega, by omega⟩]; push_cast; rfl
 have e3 := or_fig n 0 hn (by omega)
 exact Ev.step (fun k => by
  rw [spec_Decode.l2]
  rw [if_pos (by omega), if_neg (by omega), e2]
  rw [show Go.bits .or .i64 (wrap64 ((n : Int) * 64)) 0 = ((n * 64 + 0 : Nat) : Int) from e3]) h
def qby (n kk : Nat) : List UInt8 := [by0 n, by1 n, by2 n].take (kk - 1)
def numsOf (l : List UInt8) : List Int := l.map fun b => (b.toNat : Int)
theorem round_end (s : ByteArray) (p : Int) (o : List Int) (c : Bool) (i n kk : Nat) (r : ByteArray × Bool × Bool) (hs : s.size ≤ 2147483647) (hk : 2 ≤ kk) (hk' : kk ≤ 4) (hn : n < 16777216) (hi : i + 4 ≤ s.size) (ho : o.length ≤ s.size)
  (h : Ev (fun k => spec_Decode.l1 k s p (o ++ numsOf (qby n kk)) (c && (kk != 3 || n % 256 == 0) && (kk != 2 || n % 65536 == 0)) ((i + 4 : Nat) : Int)) r) :
  Ev (fun k => spec_Decode.l2 k s p o c (i : Int) (n : Int) (kk : Int) 4) r := by
 have e1 : wrap64 ((i : Int) + 4) = ((i + 4 : Nat) : Int) := by rw [IntWalk.wrap64_in _ ⟨by omega, by omega⟩]; push_cast; rfl
 have e2 : wrap64 ((kk : Int) - 1) = ((kk - 1 : Nat) : Int) := by rw [IntWalk.wrap64_in _ ⟨by omega, by omega⟩]; omega
 have hl : ([((n : Int) / 65536) % 256, ((n : Int) / 256) % 256, ((n : Int)) % 256] : List Int).take ((kk - 1 : Nat) : Int).toNat = numsOf (qby n kk) := by
  have b0 : ((by0 n).toNat : Int) = ((n : Int) / 65536) % 256 := by unfold by0; simp
  have b1 : ((by1 n).toNat : Int) = ((n : Int) / 256) % 256 := by unfold by1; simp
  have b2 : ((by2 n).toNat : Int) = ((n : Int)) % 256 := by unfold by2; simp
  unfold numsOf qby
  rw [List.map_take, Int.toNat_natCast]
  simp only [List.map_cons, List.map_nil, b0, b1, b2]
 have hq : (numsOf (qby n kk)).length ≤ 3 := by unfold numsOf qby; simp; omega
 refine Ev.step (fun k => ?_) h
 rw [spec_Decode.l2]
 rw [if_neg (by omega)]
 simp only [Option.bind_some, e1, e2, hl, and_255 n hn, and_65535 n hn]
 have c0 : (0 : Int) ≤ ((kk - 1 : Nat) : Int) := by omega
 have c1 : ((kk - 1 : Nat) : Int) ≤ (([((n : Int) / 65536) % 256, ((n : Int) / 256) % 256, ((n : Int)) % 256] : List Int).length : Int) := by simp; omega
 have c2 : o.length + (numsOf (qby n kk)).length < 140737488355328 := by omega
 simp only [if_pos c0, if_pos c1, if_pos c2]
 have h3 : ((kk : Int) = 3) ↔ kk = 3 := by omega
 have h2 : ((kk : Int) = 2) ↔ kk = 2 := by omega
 have n1 : (((n % 256 : Nat) : Int) = 0) ↔ n % 256 = 0 := by omega
 have n2 : ((((n % 65536 : Nat) : Int) == 0)) = (n % 65536 == 0) := by rw [Bool.eq_iff_iff]; simp only [beq_iff_eq]; omega
 simp only [h3, h2, n1, n2]
 clear h h3 h2 n1 n2 c0 c1 c2 hl e2
 obtain rfl | rfl | rfl : kk = 2 ∨ kk = 3 ∨ kk = 4 := by omega
 ·cases c <;> simp
 ·cases c
  ·simp
  ·by_cases b : n % 256 = 0
   ·simp [b]
   ·have b' : (n % 256 == 0) = false := beq_eq_false_iff_ne.2 b
    simp [b, b']
 ·cases c <;> simp
theorem quant_ok (s : ByteArray) (p : Int) (o : List Int) (cl : Bool) (i kk : Nat) (a b c d : UInt8) (r : ByteArray × Bool × Bool) (hs : s.size ≤ 2147483647) (hk : 2 ≤ kk) (hk' : kk ≤ 4) (hi : i + 4 ≤ s.size) (ho : o.length ≤ s.size)
  (ha : s.data.toList[i]? = some a) (hb : s.data.toList[i + 1]? = some b) (hc : s.data.toList[i + 2]? = some c) (hd : s.data.toList[i + 3]? = some d)
  (va : fg a ≠ 255) (vb : fg b ≠ 255) (vc : 3 ≤ kk → fg c ≠ 255) (vd : kk = 4 → fg d ≠ 255) (N : Nat) (hN : N = q4 (fg a) (fg b) (if 3 ≤ kk then fg c else 0) (if kk = 4 then fg d else 0))
  (h : Ev (fun k => spec_Decode.l1 k s p (o ++ numsOf (qby N kk)) (cl && (kk != 3 || N % 256 == 0) && (kk != 2 || N % 65536 == 0)) ((i + 4 : Nat) : Int)) r) :
  Ev (fun k => spec_Decode.l2 k s p o cl (i : Int) 0 (kk : Int) 0) r := by
 have la := fg_ne a va
 have lb := fg_ne b vb
 have s0 := round_ok s p o cl i 0 kk 0 a r hs (by omega) (by omega) (by omega) ha va (by omega)
 have s1 := round_ok s p o cl i (0 * 64 + fg a) kk 1 b r hs (by omega) (by omega) (by omega) hb vb (by omega)
 refine s0 (s1 ?_)
 obtain rfl | rfl | rfl : kk = 2 ∨ kk = 3 ∨ kk = 4 := by omega
 ·have s2 := round_pad s p o cl i ((0 * 64 + fg a) * 64 + fg b) 2 2 r (by omega) (by omega) (by omega)
  have s3 := round_pad s p o cl i (((0 * 64 + fg a) * 64 + fg b) * 64 + 0) 2 3 r (by omega) (by omega) (by omega)
  refine s2 (s3 ?_)
  have hN' : ((((0 * 64 + fg a) * 64 + fg b) * 64 + 0) * 64 + 0) = N := by rw [hN]; unfold q4; simp; omega
  rw [hN']
  exact round_end s p o cl i N 2 r hs (by omega) (by omega) (by rw [← hN']; omega) hi ho h
 ·have lc := fg_ne c (vc (by omega))
  have s2 := round_ok s p o cl i ((0 * 64 + fg a) * 64 + fg b) 3 2 c r hs (by omega) (by omega) (by omega) hc (vc (by omega)) (by omega)
  have s3 := round_pad s p o cl i (((0 * 64 + fg a) * 64 + fg b) * 64 + fg c) 3 3 r (by omega) (by omega) (by omega)
  refine s2 (s3 ?_)
  have hN' : ((((0 * 64 + fg a) * 64 + fg b) * 64 + fg c) * 64 + 0) = N := by rw [hN]; unfold q4; simp; omega
  rw [hN']
  exact round_end s p o cl i N 3 r hs (by omega) (by omega) (by rw [← hN']; omega) hi ho h
 ·have lc := fg_ne c (vc (by omega))
  have ld := fg_ne d (vd (by omega))
  have s2 := round_ok s p o cl i ((0 * 64 + fg a) * 64 + fg b) 4 2 c r hs (by omega) (by omega) (by omega) hc (vc (by omega)) (by omega)
  have s3 := round_ok s p o cl i (((0 * 64 + fg a) * 64 + fg b) * 64 + fg c) 4 3 d r hs (by omega) (by omega) (by omega) hd (vd (by omega)) (by omega)
  refine s2 (s3 ?_)
  have hN' : ((((0 * 64 + fg a) * 64 + fg b) * 64 + fg c) * 64 + fg d) = N := by rw [hN]; unfold q4; simp; omega
  rw [hN']
  exact round_end s p o cl i N 4 r hs (by omega) (by omega) (by rw [← hN']; omega) hi ho h
theorem quant_bad (s : ByteArray) (p : Int) (o : List Int) (cl : Bool) (i kk : Nat) (a b c d : UInt8) (hs : s.size ≤ 2147483647) (hk : 2 ≤ kk) (hk' : kk ≤ 4) (hi : i + 4 ≤ s.size)
  (ha : s.data.toList[i]? = some a) (hb : s.data.toList[i + 1]? = some b) (hc : s.data.toList[i + 2]? = some c) (hd : s.data.toList[i + 3]? = some d)
  (v : fg a = 255 ∨ fg b = 255 ∨ (3 ≤ kk ∧ fg c = 255) ∨ (kk = 4 ∧ fg d = 255)) :
  Ev (fun k => spec_Decode.l2 k s p o cl (i : Int) 0 (kk : Int) 0) (⟨#[]⟩, false, true) := by
 by_cases va : fg a = 255
 ·exact round_bad s p o cl i 0 kk 0 a hs (by omega) (by omega) (by omega) ha va
 have la := fg_ne a va
 refine round_ok s p o cl i 0 kk 0 a _ hs (by omega) (by omega) (by omega) ha va (by omega) ?_
 by_cases vb : fg b = 255
 ·exact round_bad s p o cl i _ kk 1 b hs (by omega) (by omega) (by omega) hb vb
 have lb := fg_ne b vb
 refine round_ok s p o cl i (0 * 64 + fg a) kk 1 b _ hs (by omega) (by omega) (by omega) hb vb (by omega) ?_
 have hk3 : 3 ≤ kk := by rcases v with v | v | v | v <;> omega
 by_cases vc : fg c = 255
 ·exact round_bad s p o cl i _ kk 2 c hs (by omega) (by omega) (by omega) hc vc
 have lc := fg_ne c vc
 refine round_ok s p o cl i ((0 * 64 + fg a) * 64 + fg b) kk 2 c _ hs (by omega) (by omega) (by omega) hc vc (by omega) ?_
 have hk4 : kk = 4 ∧ fg d = 255 := by rcases v with v | v | v | v <;> omega
 obtain ⟨rfl, vd⟩ := hk4
 exact round_bad s p o cl i _ 4 3 d hs (by omega) (by omega) (by omega) hd vd
def padN (l : List UInt8) : Nat := if l.getLast? = some 61 then (if 2 ≤ l.length ∧ l[l.length - 2]? = some 61 then 2 else 1) else 0
theorem fg_61 : fg 61 = 255 := by decide
theorem is61 (b : UInt8) : b.toNat = 61 ↔ b = 61 := by
 constructor
 ·intro h; exact UInt8.toNat_inj.1 h
 ·rintro rfl; rfl
def decR (out : List UInt8) (cl : Bool) (l : List UInt8) : ByteArray × Bool × Bool :=
 match std l with
 | some b => (⟨(out ++ b).toArray⟩, true, cl && clr l)
 | none => (⟨#[]⟩, false, true)
theorem numsOf_append (a b : List UInt8) : numsOf (a ++ b) = numsOf a ++ numsOf b := by unfold numsOf; simp
theorem l1_ev (s : ByteArray) (hs : s.size ≤ 2147483647) (hm : s.size % 4 = 0) : ∀ (q i : Nat) (out : List UInt8) (cl : Bool), i + 4 * q = s.size → out.length ≤ i → (q = 0 → True) →
  Ev (fun k => spec_Decode.l1 k s ((padN s.data.toList : Nat) : Int) (numsOf out) cl (i : Int)) (decR out cl (s.data.toList.drop i))
 | 0, i, out, cl, h, ho, _ => by
  have hsz := data_length s
  have he : s.data.toList.drop i = [] := List.drop_eq_nil_of_le (by omega)
  rw [he]
  refine Ev.step (f := fun _ => some (strOfNums (numsOf out), true, cl)) (fun k => by rw [spec_Decode.l1, if_neg (by omega)]) ?_
  have : strOfNums (numsOf out) = ⟨out.toArray⟩ := Go.Lib.Lz.strOfNums_map out
  rw [this]
  unfold decR
  simp only [std, clr, List.append_nil, Bool.and_true]
  exact Ev.now _
 | q + 1, i, out, cl, h, ho, _ => by
  have hsz := data_length s
  have e4 : wrap64 ((i : Int) + 4) = ((i + 4 : Nat) : Int) := by rw [IntWalk.wrap64_in _ ⟨by omega, by omega⟩]; push_cast; rfl
  obtain ⟨a, ha⟩ : ∃ a, s.data.toList[i]? = some a := ⟨_, List.getElem?_eq_getElem (by omega)⟩
  obtain ⟨b, hb⟩ : ∃ a, s.data.toList[i + 1]? = some a := ⟨_, List.getElem?_eq_getElem (by omega)⟩
  obtain ⟨c, hc⟩ : ∃ a, s.data.toList[i + 2]? = some a := ⟨_, List.getElem?_eq_getElem (by omega)⟩
  obtain ⟨d, hd⟩ : ∃ a, s.data.toList[i + 3]? = some a := ⟨_, List.getElem?_eq_getElem (by omega)⟩
  have hdrop : s.data.toList.drop i = a :: b :: c :: d :: s.data.toList.drop (i + 4) := by
   have g : ∀ j x, s.data.toList[j]? = some x → s.data.toList.drop j = x :: s.data.toList.drop (j + 1) := by
    intro j x hx
    obtain ⟨hlt, e⟩ := List.getElem?_eq_some_iff.1 hx
    rw [List.drop_eq_getElem_cons hlt, e]
   rw [g i a ha, g (i + 1) b hb, g (i + 2) c hc, g (i + 3) d hd]
  have hlen : (numsOf out).length ≤ s.size := by unfold numsOf; rw [List.length_map]; omega
  by_cases hq : q = 0
  ·
   subst hq
   have hnil : s.data.toList.drop (i + 4) = [] := List.drop_eq_nil_of_le (by omega)
   have hlast : s.data.toList.getLast? = some d := by rw [List.getLast?_eq_getElem?, hsz, show s.size - 1 = i + 3 by omega]; exact hd
   have hprev : s.data.toList[s.data.toList.length - 2]? = some c := by rw [hsz, show s.size - 2 = i + 2 by omega]; exact hc
   have hpad : padN s.data.toList = if d = 61 then (if c = 61 then 2 else 1) else 0 := by
    unfold padN
    rw [hlast, hprev]
    have h2 : 2 ≤ s.data.toList.length := by omega
    simp only [Option.some.injEq, h2, true_and]
   have ih := fun o2 c2 => l1_ev s hs hm 0 (i + 4) o2 c2 (by omega)
   rw [hnil] at ih
   rw [hdrop, hnil]
   generalize padN s.data.toList = pN at hpad ih ⊢
   have go : ∀ kk : Nat, 2 ≤ kk → kk ≤ 4 → kk + pN = 4 → Ev (fun k => spec_Decode.l2 k s (pN : Int) (numsOf out) cl (i : Int) 0 (kk : Int) 0) (decR out cl [a, b, c, d]) → Ev (fun k => spec_Decode.l1 k s (pN : Int) (numsOf out) cl (i : Int)) (decR out cl [a, b, c, d]) := by
    intro kk k2 k4 hkp hev
    have hone : wrap64 (4 - (pN : Int)) = (kk : Int) := by rw [IntWalk.wrap64_in _ ⟨by omega, by omega⟩]; omega
    refine Ev.step (f := fun k => spec_Decode.j3 k s (pN : Int) (numsOf out) cl (i : Int) 0 (kk : Int)) (fun k => by rw [spec_Decode.l1, if_pos (by omega), e4, if_pos (by omega), hone]) ?_
    exact Ev.step (fun k => by rw [spec_Decode.j3]) hev
   have fin : ∀ (kk N : Nat) (bs : List UInt8) (t : Bool), qby N kk = bs → bs.length ≤ 3 → (cl && (kk != 3 || N % 256 == 0) && (kk != 2 || N % 65536 == 0)) = t → std [a, b, c, d] = some bs → t = (cl && clr [a, b, c, d]) →
     Ev (fun k => spec_Decode.l1 k s (pN : Int) (numsOf out ++ numsOf (qby N kk)) (cl && (kk != 3 || N % 256 == 0) && (kk != 2 || N % 65536 == 0)) ((i + 4 : Nat) : Int)) (decR out cl [a, b, c, d]) := by
    intro kk N bs t hbs hbl ht hstd htc
    rw [hbs, ht, ← numsOf_append]
    have := ih (out ++ bs) t (by rw [List.length_append]; omega) (fun _ => trivial)
    have e : decR out cl [a, b, c, d] = decR (out ++ bs) t [] := by
     unfold decR
     rw [hstd, htc]
     simp [std, clr]
    rw [e]
    exact this
   have bad : std [a, b, c, d] = none → (⟨#[]⟩, false, true) = decR out cl [a, b, c, d] := by
    intro h
    unfold decR
    rw [h]
   by_cases hab : fg a = 255 ∨ fg b = 255
   ·have hstd : std [a, b, c, d] = none := by rw [std, if_pos hab]
    have hp2 : pN ≤ 2 := by rw [hpad]; split; split; all_goals omega
    refine go (4 - pN) (by omega) (by omega) (by omega) ?_
    rw [← bad hstd]
    exact quant_bad s (pN : Int) (numsOf out) cl i (4 - pN) a b c d hs (by omega) (by omega) (by omega) ha hb hc hd (by rcases hab with h | h; exact .inl h; exact .inr (.inl h))
   ·have va : fg a ≠ 255 := fun e => hab (.inl e)
    have vb : fg b ≠ 255 := fun e => hab (.inr e)
    by_cases hd61 : d = 61
    ·have hd255 : fg d = 255 := by rw [hd61]; exact fg_61
     by_cases hc61 : c = 61
     ·have hc255 : fg c = 255 := by rw [hc61]; exact fg_61
      rw [if_pos hd61, if_pos hc61] at hpad
      subst hpad
      have hstd : std [a, b, c, d] = some [by0 (q4 (fg a) (fg b) 0 0)] := by rw [std, if_neg hab, if_pos hc255, if_pos ⟨(is61 c).2 hc61, (is61 d).2 hd61, rfl⟩]
      have hclr : clr [a, b, c, d] = (q4 (fg a) (fg b) 0 0 % 65536 == 0) := by rw [clr, if_pos hc255]
      refine go 2 (by omega) (by omega) (by omega) ?_
      refine quant_ok s 2 (numsOf out) cl i 2 a b c d _ hs (by omega) (by omega) (by omega) hlen ha hb hc hd va vb (fun h => by omega) (fun h => by omega) (q4 (fg a) (fg b) 0 0) (by simp) ?_
      exact fin 2 _ _ _ rfl (by simp [qby]) rfl hstd (by rw [hclr]; simp)
     ·rw [if_pos hd61, if_neg hc61] at hpad
      subst hpad
      refine go 3 (by omega) (by omega) (by omega) ?_
      by_cases hc255 : fg c = 255
      ·have hstd : std [a, b, c, d] = none := by rw [std, if_neg hab, if_pos hc255, if_neg (fun h => hc61 ((is61 c).1 h.1))]
       rw [← bad hstd]
       exact quant_bad s 1 (numsOf out) cl i 3 a b c d hs (by omega) (by omega) (by omega) ha hb hc hd (.inr (.inr (.inl ⟨by omega, hc255⟩)))
      ·have hstd : std [a, b, c, d] = some [by0 (q4 (fg a) (fg b) (fg c) 0), by1 (q4 (fg a) (fg b) (fg c) 0)] := by rw [std, if_neg hab, if_neg hc255, if_pos hd255, if_pos ⟨(is61 d).2 hd61, rfl⟩]
       have hclr : clr [a, b, c, d] = (q4 (fg a) (fg b) (fg c) 0 % 256 == 0) := by rw [clr, if_neg hc255, if_pos hd255]
       refine quant_ok s 1 (numsOf out) cl i 3 a b c d _ hs (by omega) (by omega) (by omega) hlen ha hb hc hd va vb (fun _ => hc255) (fun h => by omega) (q4 (fg a) (fg b) (fg c) 0) (by simp) ?_
       exact fin 3 _ _ _ rfl (by simp [qby]) rfl hstd (by rw [hclr]; simp)
    ·rw [if_neg hd61] at hpad
     subst hpad
     refine go 4 (by omega) (by omega) (by omega) ?_
     by_cases hc255 : fg c = 255
     ·have hstd : std [a, b, c, d] = none := by rw [std, if_neg hab, if_pos hc255, if_neg (fun h => hd61 ((is61 d).1 h.2.1))]
      rw [← bad hstd]
      exact quant_bad s 0 (numsOf out) cl i 4 a b c d hs (by omega) (by omega) (by omega) ha hb hc hd (.inr (.inr (.inl ⟨by omega, hc255⟩)))
     ·by_cases hd255 : fg d = 255
      ·have hstd : std [a, b, c, d] = none := by rw [std, if_neg hab, if_neg hc255, if_pos hd255, if_neg (fun h => hd61 ((is61 d).1 h.1))]
       rw [← bad hstd]
       exact quant_bad s 0 (numsOf out) cl i 4 a b c d hs (by omega) (by omega) (by omega) ha hb hc hd (.inr (.inr (.inr ⟨rfl, hd255⟩)))
      ·have hstd : std [a, b, c, d] = some [by0 (q4 (fg a) (fg b) (fg c) (fg d)), by1 (q4 (fg a) (fg b) (fg c) (fg d)), by2 (q4 (fg a) (fg b) (fg c) (fg d))] := by rw [std, if_neg hab, if_neg hc255, if_neg hd255]; rfl
       have hclr : clr [a, b, c, d] = true := by rw [clr, if_neg hc255, if_neg hd255, clr]; intro _ _ _ _ _ h; cases h
       refine quant_ok s 0 (numsOf out) cl i 4 a b c d _ hs (by omega) (by omega) (by omega) hlen ha hb hc hd va vb (fun _ => hc255) (fun _ => hd255) (q4 (fg a) (fg b) (fg c) (fg d)) (by simp) ?_
       exact fin 4 _ _ _ rfl (by simp [qby]) rfl hstd (by rw [hclr]; simp)
  ·
   have hne : s.data.toList.drop (i + 4) ≠ [] := by
    intro e
    have := congrArg List.length e
    rw [List.length_drop, hsz] at this
    simp at this
    omega
   rw [hdrop]
   refine Ev.step (f := fun k => spec_Decode.j3 k s ((padN s.data.toList : Nat) : Int) (numsOf out) cl (i : Int) 0 ((4 : Nat) : Int)) (fun k => by rw [spec_Decode.l1, if_pos (by omega), e4, if_neg (by omega)]; rfl) ?_
   refine Ev.step (f := fun k => spec_Decode.l2 k s ((padN s.data.toList : Nat) : Int) (numsOf out) cl (i : Int) 0 ((4 : Nat) : Int) 0) (fun k => by rw [spec_Decode.j3]) ?_
   by_cases v : fg a = 255 ∨ fg b = 255 ∨ (3 ≤ 4 ∧ fg c = 255) ∨ (4 = 4 ∧ fg d = 255)
   ·have hbad := quant_bad s ((padN s.data.toList : Nat) : Int) (numsOf out) cl i 4 a b c d hs (by omega) (by omega) (by omega) ha hb hc hd v
    have hnone : std (a :: b :: c :: d :: s.data.toList.drop (i + 4)) = none := by
     rw [std]
     by_cases hab : fg a = 255 ∨ fg b = 255
     ·rw [if_pos hab]
     ·rw [if_neg hab]
      by_cases hc255 : fg c = 255
      ·rw [if_pos hc255, if_neg (fun h => hne h.2.2)]
      ·rw [if_neg hc255]
       by_cases hd255 : fg d = 255
       ·rw [if_pos hd255, if_neg (fun h => hne h.2)]
       ·exfalso
        rcases v with v | v | v | v <;> first | exact hab (.inl v) | exact hab (.inr v) | exact hc255 v.2 | exact hd255 v.2
    unfold decR
    rw [hnone]
    exact hbad
   ·have va : fg a ≠ 255 := fun e => v (.inl e)
    have vb : fg b ≠ 255 := fun e => v (.inr (.inl e))
    have vc : fg c ≠ 255 := fun e => v (.inr (.inr (.inl ⟨by omega, e⟩)))
    have vd : fg d ≠ 255 := fun e => v (.inr (.inr (.inr ⟨rfl, e⟩)))
    refine quant_ok s ((padN s.data.toList : Nat) : Int) (numsOf out) cl i 4 a b c d _ hs (by omega) (by omega) (by omega) hlen ha hb hc hd va vb (fun _ => vc) (fun _ => vd) (q4 (fg a) (fg b) (fg c) (fg d)) (by simp) ?_
    rw [← numsOf_append]
    have hq3 : qby (q4 (fg a) (fg b) (fg c) (fg d)) 4 = [by0 (q4 (fg a) (fg b) (fg c) (fg d)), by1 (q4 (fg a) (fg b) (fg c) (fg d)), by2 (q4 (fg a) (fg b) (fg c) (fg d))] := rfl
    have ih := l1_ev s hs hm q (i + 4) (out ++ qby (q4 (fg a) (fg b) (fg c) (fg d)) 4) (cl && (4 != 3 || q4 (fg a) (fg b) (fg c) (fg d) % 256 == 0) && (4 != 2 || q4 (fg a) (fg b) (fg c) (fg d) % 65536 == 0)) (by omega) (by rw [List.length_append, hq3]; simp; omega) (fun _ => trivial)
    have hfin : decR out cl (a :: b :: c :: d :: s.data.toList.drop (i + 4)) = decR (out ++ qby (q4 (fg a) (fg b) (fg c) (fg d)) 4) (cl && (4 != 3 || q4 (fg a) (fg b) (fg c) (fg d) % 256 == 0) && (4 != 2 || q4 (fg a) (fg b) (fg c) (fg d) % 65536 == 0)) (s.data.toList.drop (i + 4)) := by
     unfold decR
     rw [std, if_neg (by rintro (h | h) <;> contradiction), if_neg vc, if_neg vd, clr, if_neg vc, if_neg vd, hq3]
     cases std (s.data.toList.drop (i + 4)) with
     | none => rfl
     | some l => simp
    rw [hfin]
    exact ih
theorem bt_at_get (s : ByteArray) (i : Nat) (h : i < s.size) (b : UInt8) (hb : s.data.toList[i]? = some b) : bt s (i : Int) = (b.toNat : Int) := by
 rw [bt_get s i h]
 obtain ⟨_, e⟩ := List.getElem?_eq_some_iff.1 hb
 rw [e]
theorem dec_ev (s : ByteArray) (hs : s.size ≤ 2147483647) : Ev (fun k => spec_Decode.f k s) (decR [] true s.data.toList) := by
 have hsz := data_length s
 by_cases hm : s.size % 4 = 0
 ·have key := l1_ev s hs hm (s.size / 4) 0 [] true (by omega) (by simp) (fun _ => trivial)
  rw [List.drop_zero] at key
  have kj : Ev (fun k => spec_Decode.j1 k s ((padN s.data.toList : Nat) : Int)) (decR [] true s.data.toList) := Ev.step (fun k => by rw [spec_Decode.j1]; rfl) key
  have w0 : wrap64 ((s.size : Int) - 1) = (s.size : Int) - 1 := IntWalk.wrap64_in _ ⟨by omega, by omega⟩
  refine Ev.congr (f := fun k => spec_Decode.l0 k s 0) (fun k => by unfold spec_Decode.f; rw [if_pos (by omega)]) ?_
  by_cases h0 : s.size = 0
  ·have hp : padN s.data.toList = 0 := by
    have : s.data.toList = [] := List.length_eq_zero_iff.1 (by omega)
    rw [this]; rfl
   rw [hp] at kj
   exact Ev.step (fun k => by rw [spec_Decode.l0, if_pos (by omega), if_neg (by omega)]; rfl) kj
  ·obtain ⟨d, hd⟩ : ∃ a, s.data.toList[s.size - 1]? = some a := ⟨_, List.getElem?_eq_getElem (by omega)⟩
   obtain ⟨c, hc⟩ : ∃ a, s.data.toList[s.size - 2]? = some a := ⟨_, List.getElem?_eq_getElem (by omega)⟩
   have bd := bt_at_get s (s.size - 1) (by omega) d hd
   have bc := bt_at_get s (s.size - 2) (by omega) c hc
   have hpad : padN s.data.toList = if d = 61 then (if c = 61 then 2 else 1) else 0 := by
    unfold padN
    rw [List.getLast?_eq_getElem?, hsz, hd, hc]
    have h2 : 2 ≤ s.size := by omega
    simp only [Option.some.injEq, h2, true_and]
   have w1 : wrap64 (wrap64 ((s.size : Int) - 1) - 0) = ((s.size - 1 : Nat) : Int) := by rw [w0, IntWalk.wrap64_in _ ⟨by omega, by omega⟩]; omega
   have w2 : wrap64 (wrap64 ((s.size : Int) - 1) - 1) = ((s.size - 2 : Nat) : Int) := by rw [w0, IntWalk.wrap64_in _ ⟨by omega, by omega⟩]; omega
   have e1 : wrap64 (0 + 1) = 1 := IntWalk.wrap64_in _ ⟨by omega, by omega⟩
   have e2 : wrap64 (1 + 1) = 2 := IntWalk.wrap64_in _ ⟨by omega, by omega⟩
   by_cases hd61 : d = 61
   ·have bd' : bt s ((s.size - 1 : Nat) : Int) = 61 := by rw [bd, hd61]; rfl
    refine Ev.step (f := fun k => spec_Decode.l0 k s 1) (fun k => by rw [spec_Decode.l0, if_pos (by omega), if_pos (by omega), w1, if_pos (by omega), if_pos (by omega), bd', if_pos rfl, e1]) ?_
    by_cases hc61 : c = 61
    ·have bc' : bt s ((s.size - 2 : Nat) : Int) = 61 := by rw [bc, hc61]; rfl
     rw [hpad, if_pos hd61, if_pos hc61] at kj
     refine Ev.step (f := fun k => spec_Decode.l0 k s 2) (fun k => by rw [spec_Decode.l0, if_pos (by omega), if_pos (by omega), w2, if_pos (by omega), if_pos (by omega), bc', if_pos rfl, e2]) ?_
     exact Ev.step (fun k => by rw [spec_Decode.l0, if_neg (by omega)]; rfl) kj
    ·have bc' : bt s ((s.size - 2 : Nat) : Int) ≠ 61 := by rw [bc]; exact fun h => hc61 ((is61 c).1 (by omega))
     rw [hpad, if_pos hd61, if_neg hc61] at kj
     exact Ev.step (fun k => by rw [spec_Decode.l0, if_pos (by omega), if_pos (by omega), w2, if_pos (by omega), if_pos (by omega), if_neg bc']; rfl) kj
   ·have bd' : bt s ((s.size - 1 : Nat) : Int) ≠ 61 := by rw [bd]; exact fun h => hd61 ((is61 d).1 (by omega))
    rw [hpad, if_neg hd61] at kj
    exact Ev.step (fun k => by rw [spec_Decode.l0, if_pos (by omega), if_pos (by omega), w1, if_pos (by omega), if_pos (by omega), if_neg bd']; rfl) kj
 ·have hnone : std s.data.toList = none := by
   cases h : std s.data.toList with
   | none => rfl
   | some l => exact absurd (by have := std_mod h; omega) hm
  unfold decR
  rw [hnone]
  exact Ev.congr (fun k => by unfold spec_Decode.f; rw [if_neg (by omega)]) (Ev.now _)
def be4 (a b c d : Nat) : Nat := ((a * 256 + b) * 256 + c) * 256 + d
theorem wraps_u32' (n : Int) (h₀ : 0 ≤ n) (h₁ : n < 2 ^ 32) : IntKind.u32.wrap n = n := by rw [IntKind.wrap_u32]; omega
theorem be_or (a b c d : Nat) (ha : a < 256) (hb : b < 256) (hc : c < 256) (hd : d < 256) :
  Go.bits .or .u32 (Go.bits .or .u32 (Go.bits .or .u32 (((((a : Nat) : Int) % 4294967296) * 16777216) % 4294967296) (((((b : Nat) : Int) % 4294967296) * 65536) % 4294967296)) (((((c : Nat) : Int) % 4294967296) * 256) % 4294967296)) (((d : Nat) : Int) % 4294967296) = ((be4 a b c d : Nat) : Int) := by
 rw [show (((((a : Nat) : Int) % 4294967296) * 16777216) % 4294967296) = (a : Int) * 16777216 by omega, show (((((b : Nat) : Int) % 4294967296) * 65536) % 4294967296) = (b : Int) * 65536 by omega, show (((((c : Nat) : Int) % 4294967296) * 256) % 4294967296) = (c : Int) * 256 by omega, show (((d : Nat) : Int) % 4294967296) = (d : Int) by omega]
 rw [bits_join .u32 32 (by decide) wraps_u32' 24 ((a : Int) * 16777216) ((b : Int) * 65536) (by omega) (by omega) (by omega) (by omega) (by omega) (by omega)]
 rw [bits_join .u32 32 (by decide) wraps_u32' 16 ((a : Int) * 16777216 + (b : Int) * 65536) ((c : Int) * 256) (by omega) (by omega) (by omega) (by omega) (by omega) (by omega)]
 rw [bits_join .u32 32 (by decide) wraps_u32' 8 ((a : Int) * 16777216 + (b : Int) * 65536 + (c : Int) * 256) (d : Int) (by omega) (by omega) (by omega) (by omega) (by omega) (by omega)]
 unfold be4
 omega
def hashL : List UInt8 → Nat
 | a :: b :: c :: d :: _ => be4 a.toNat b.toNat c.toNat d.toNat
 | _ => 0
theorem hash_eq (s : ByteArray) (h : 4 ≤ s.size) : spec_Hash.f s = some ((hashL s.data.toList : Nat) : Int) := by
 have hsz := data_length s
 unfold spec_Hash.f
 rw [if_pos (by omega), if_pos (by omega), if_pos (by omega), if_pos (by omega)]
 match hl : s.data.toList, (show 4 ≤ s.data.toList.length by omega) with
 | a :: b :: c :: d :: t, _ =>
  have e0 := bt_at_get s 0 (by omega) a (by rw [hl]; rfl)
  have e1 := bt_at_get s 1 (by omega) b (by rw [hl]; rfl)
  have e2 := bt_at_get s 2 (by omega) c (by rw [hl]; rfl)
  have e3 := bt_at_get s 3 (by omega) d (by rw [hl]; rfl)
  rw [show (0 : Int) = ((0 : Nat) : Int) from rfl, show (1 : Int) = ((1 : Nat) : Int) from rfl, show (2 : Int) = ((2 : Nat) : Int) from rfl, show (3 : Int) = ((3 : Nat) : Int) from rfl, e0, e1, e2, e3]
  have := be_or a.toNat b.toNat c.toNat d.toNat a.toNat_lt b.toNat_lt c.toNat_lt d.toNat_lt
  rw [this]
  rfl
def dashL : List UInt8 := [226, 128, 148, 32]
def blank : List UInt8 → Nat
 | [] => 0
 | a :: t => if a = 32 then 0 else blank t + 1
theorem blank_le : ∀ (l : List UInt8), blank l ≤ l.length
 | [] => Nat.le_refl _
 | a :: t => by
  have := blank_le t
  unfold blank
  split <;> simp <;> omega
theorem blank_lt : ∀ (l : List UInt8) (k : Nat), k < blank l → ∃ b, l[k]? = some b ∧ b ≠ 32
 | [], k, h => by simp [blank] at h
 | a :: t, k, h => by
  unfold blank at h
  split at h
  ·omega
  ·cases k with
   | zero => exact ⟨a, rfl, by assumption⟩
   | succ k =>
    obtain ⟨b, hb, hn⟩ := blank_lt t k (by omega)
    exact ⟨b, by simpa using hb, hn⟩
theorem blank_at : ∀ (l : List UInt8), blank l < l.length → l[blank l]? = some 32
 | [], h => by simp [blank] at h
 | a :: t, h => by
  unfold blank at h ⊢
  split
  ·rename_i e; simp [e]
  ·rename_i e
   rw [if_neg e] at h
   have := blank_at t (by simp at h; omega)
   simpa using this
def lineD (l : List UInt8) : List UInt8 × Nat × List UInt8 × List UInt8 × Bool × Bool :=
 if l.take 4 = dashL then
  if blank (l.drop 4) = (l.drop 4).length then ([], 0, [], [], false, true)
  else match std ((l.drop 4).drop (blank (l.drop 4) + 1)) with
   | none => ([], 0, [], [], false, true)
   | some raw =>
    if nameD ((l.drop 4).take (blank (l.drop 4))) = true ∧ 5 ≤ raw.length then
     ((l.drop 4).take (blank (l.drop 4)), hashL raw, (l.drop 4).drop (blank (l.drop 4) + 1), raw.drop 4, true, clr ((l.drop 4).drop (blank (l.drop 4) + 1)))
    else ([], 0, [], [], false, clr ((l.drop 4).drop (blank (l.drop 4) + 1)))
 else ([], 0, [], [], false, true)
def S (l : List UInt8) : ByteArray := ⟨l.toArray⟩
def spec_Line.f (a0 : ByteArray) : Option (ByteArray × Int × ByteArray × ByteArray × Bool × Bool) :=
 if a0.size ≤ 2147483647 then some (S (lineD a0.data.toList).1, ((lineD a0.data.toList).2.1 : Int), S (lineD a0.data.toList).2.2.1, S (lineD a0.data.toList).2.2.2.1, (lineD a0.data.toList).2.2.2.2.1, (lineD a0.data.toList).2.2.2.2.2) else none
def BadLine (t : Bool) (w : World) (e : Ending) (w' : World) : Prop := e = .returned (.tuple #[.agg #[.string (S []), .int .u32 0, .string (S [])], .string (S []), .bool false, .bool t]) ∧ Below w.heap.size w w'
set_option maxRecDepth 100000 in
theorem line_short (s : ByteArray) (w : World) (h : s.size < 4) :
  Calls Tryz.prog 19 #[.string s] w (BadLine true w) := by
 have h1 : decide ((s.size : Int) < 4) = true := decide_eq_true (by omega)
 go_enter Tryz.func19, Tryz.ntmps19
 go_wp2
 refine bodyPost_ret (v := .tuple #[.agg #[.string (S []), .int .u32 0, .string (S [])], .string (S []), .bool false, .bool true]) (by simp [results, Tryz.results19, go_sem, S]) rfl ⟨rfl, ?_⟩
 exact (Below.refl _ _).alloc (Nat.le_refl _) _
set_option maxRecDepth 100000 in
theorem line_nodash (s : ByteArray) (w : World) (h : 4 ≤ s.size) (hd : ((s.extract 0 4).toList == [226, 128, 148, 32]) = false) :
  Calls Tryz.prog 19 #[.string s] w (BadLine true w) := by
 have h1 : decide ((s.size : Int) < 4) = false := decide_eq_false (by omega)
 have h2 : (4 : Int) ≤ (s.size : Int) := by omega
 go_enter Tryz.func19, Tryz.ntmps19
 go_wp2
 refine bodyPost_ret (v := .tuple #[.agg #[.string (S []), .int .u32 0, .string (S [])], .string (S []), .bool false, .bool true]) (by simp [results, Tryz.results19, go_sem, S]) rfl ⟨rfl, ?_⟩
 exact (Below.refl _ _).alloc (Nat.le_refl _) _
def LineIs (d : List UInt8 × Nat × List UInt8 × List UInt8 × Bool × Bool) (w : World) (e : Ending) (w' : World) : Prop :=
 e = .returned (.tuple #[.agg #[.string (S d.1), .int .u32 (d.2.1 : Int), .string (S d.2.2.1)], .string (S d.2.2.2.1), .bool d.2.2.2.2.1, .bool d.2.2.2.2.2]) ∧ Below w.heap.size w w'
theorem S_data (s : ByteArray) : S s.data.toList = s := rfl
theorem S_extract (t : ByteArray) (a b : Nat) : (t.extract a b).data.toList = (t.data.toList.drop a).take (b - a) := by
 rw [ByteArray.data_extract, Array.toList_extract]
theorem cells3 {w : World} {g : Nat} {a b c : Value} {t : TypeId} (h : w.heap[g]? = some (.cells #[a, b, c] t (0, 0))) :
  w.cell? ⟨g, 0, none⟩ = some a ∧ w.cell? ⟨g, 1, none⟩ = some b ∧ w.cell? ⟨g, 2, none⟩ = some c ∧ w.frozen? ⟨g, 0, none⟩ = false ∧ w.frozen? ⟨g, 1, none⟩ = false ∧ w.frozen? ⟨g, 2, none⟩ = false :=
 ⟨cell_of_row w g 0 _ t _ h, cell_of_row w g 1 _ t _ h, cell_of_row w g 2 _ t _ h, frozen_of_row w g 0 _ t h, frozen_of_row w g 1 _ t h, frozen_of_row w g 2 _ t h⟩
theorem below3 {B : Nat} {w w1 : World} (h : Below B w w1) {g : Nat} (hg : B ≤ g) (a b c : Value) : Below B w (((w1.setCell ⟨g, 0, none⟩ a).setCell ⟨g, 1, none⟩ b).setCell ⟨g, 2, none⟩ c) :=
 ((h.setCell hg a).setCell hg b).setCell hg c
set_option maxRecDepth 100000 in
set_option maxHeartbeats 2000000 in
theorem line_dash (s : ByteArray) (w : World) (h : 4 ≤ s.size) (hs : s.size ≤ 2147483647) (hd : ((s.extract 0 4).toList == [226, 128, 148, 32]) = true) (t : ByteArray) (ht : s.extract 4 s.size = t) (hts : t.size ≤ 2147483647) (d : List UInt8 × Nat × List UInt8 × List UInt8 × Bool × Bool)
  (hA : blank t.data.toList = t.size → d = ([], 0, [], [], false, true))
  (hB : blank t.data.toList < t.size → std (t.extract (blank t.data.toList + 1) t.size).data.toList = none → d = ([], 0, [], [], false, true))
  (hC : blank t.data.toList < t.size → ∀ raw, std (t.extract (blank t.data.toList + 1) t.size).data.toList = some raw → (nameD (t.extract 0 (blank t.data.toList)).data.toList = false ∨ raw.length < 5) → d = ([], 0, [], [], false, clr (t.extract (blank t.data.toList + 1) t.size).data.toList))
  (hD : blank t.data.toList < t.size → ∀ raw, std (t.extract (blank t.data.toList + 1) t.size).data.toList = some raw → nameD (t.extract 0 (blank t.data.toList)).data.toList = true → 5 ≤ raw.length →
   d = ((t.extract 0 (blank t.data.toList)).data.toList, hashL raw, (t.extract (blank t.data.toList + 1) t.size).data.toList, raw.drop 4, true, clr (t.extract (blank t.data.toList + 1) t.size).data.toList)) :
  Calls Tryz.prog 19 #[.string s] w (LineIs d w) := by
 have h1 : decide ((s.size : Int) < 4) = false := decide_eq_false (by omega)
 have h2 : (4 : Int) ≤ (s.size : Int) := by omega
 have HA := Lib.hid hA
 have HB := Lib.hid hB
 have HC := Lib.hid hC
 have HD := Lib.hid hD
 clear hA hB hC hD
 have hbl := blank_le t.data.toList
 have hz : t.data.toList.length = t.size := data_length t
 rw [hz] at hbl
 have HBL := Lib.hid (blank_lt t.data.toList)
 have HBA := Lib.hid (blank_at t.data.toList)
 have HZ := Lib.hid hz
 clear hz
 generalize hbk : blank t.data.toList = bk at *
 have HBK := Lib.hid hbk
 clear hbk
 go_enter Tryz.func19, Tryz.ntmps19
 go_wp2
 go_loop [6] (fun i => ∃ k : Nat, k ≤ bk ∧ i = .int .i64 k) (fun i => t.size - (intOf i).toNat)
 case atStart => exact ⟨0, Nat.zero_le _, rfl⟩
 case round =>
  obtain ⟨k, hk, rfl⟩ := hrel
  by_cases hlt : k < bk
  ·obtain ⟨b, hb, hn⟩ := HBL.out k hlt
   have hks : (k : Int) < (t.size : Int) := by omega
   have hbt : t[k]'(by omega) = b := by
    obtain ⟨_, e⟩ := List.getElem?_eq_some_iff.1 hb
    exact e
   have hb32 : ((b.toNat : Int) == 32) = false := beq_eq_false_iff_ne.2 (fun e => hn (UInt8.toNat_inj.1 (by have : (32 : UInt8).toNat = 32 := rfl; omega)))
   have HN := Lib.hid hn
   have HBB := Lib.hid hb
   clear hb hn
   go_wp2
   go_round
   case rel => exact ⟨k + 1, by omega, by go_num⟩
   case measure => simp [intOf]; omega
  ·obtain rfl : k = bk := by omega
   clear hk hlt
   by_cases hfull : k = t.size
   ·have hd' := HA.out hfull
    subst hfull
    have HD' := Lib.hid hd'
    clear hd'
    go_wp2
    refine bodyPost_ret (v := .tuple #[.agg #[.string (S []), .int .u32 0, .string (S [])], .string (S []), .bool false, .bool true]) (by simp [results, Tryz.results19, go_sem, S]) rfl ⟨by rw [HD'.out]; rfl, ?_⟩
    exact (Below.refl _ _).alloc (Nat.le_refl _) _
   ·have hks : (k : Int) < (t.size : Int) := by omega
    have hks' : ((k : Int) == (t.size : Int)) = false := beq_eq_false_iff_ne.2 (by omega)
    have hkn : k < t.size := by omega
    have hbt : t[k]'(by omega) = 32 := by
     have := HBA.out (by rw [HZ.out]; exact hkn)
     obtain ⟨_, e⟩ := List.getElem?_eq_some_iff.1 this
     exact e
    have h321 : (k : Int) + 1 ≤ (t.size : Int) := by omega
    clear hfull hbl
    go_wp2_with fail
    have hBs : (t.extract (k + 1) t.size).size ≤ 2147483647 := by rw [ByteArray.size_extract]; omega
    have hNs : (t.extract 0 k).size ≤ 2147483647 := by rw [ByteArray.size_extract]; omega
    have cN := fun w => name_any (t.extract 0 k) w hNs
    generalize hBe : (t.extract (k + 1) t.size) = B at *
    have HBE := Lib.hid hBe
    clear hBe
    generalize hNm : nameD (t.extract 0 k).data.toList = nm at *
    have HNM := Lib.hid hNm
    clear hNm hNs
    obtain ⟨kd, hdec⟩ := (dec_ev B hBs).rounds
    cases hstd : std B.data.toList with
    | none =>
     have e1 : decR [] true B.data.toList = (⟨#[]⟩, false, true) := by unfold decR; rw [hstd]
     rw [e1] at hdec
     have HD' := Lib.hid (HB.out hkn hstd)
     clear hstd e1
     refine (spec_Decode.calls kd B _ _ _ _ hdec).mono ?_
     rintro e w1 ⟨rfl, hb1⟩
     have hk1 : w1.heap[w.heap.size]? = some (.cells #[.string ⟨#[]⟩, .int .u32 0, .string ⟨#[]⟩] 49) := (hb1.block w.heap.size (by simp)).trans (heap_alloc_new _ _)
     obtain ⟨c0, c1, c2, f0, f1, f2⟩ := cells3 hk1
     clear hk1
     go_wp2
     refine bodyPost_ret (v := .tuple #[.agg #[.string (S []), .int .u32 0, .string (S [])], .string (S []), .bool false, .bool true]) (by simp [results, Tryz.results19, go_sem, S, c0, c1, c2, f0, f1, f2]) rfl ⟨by rw [HD'.out]; rfl, ?_⟩
     exact below3 (((Below.refl _ _).alloc (Nat.le_refl _) _).trans (hb1.mono (by simp))) (Nat.le_refl _) _ _ _
    | some raw =>
     have e1 : decR [] true B.data.toList = (S raw, true, clr B.data.toList) := by unfold decR S; rw [hstd]; simp
     rw [e1] at hdec
     have HC' := Lib.hid (HC.out hkn raw hstd)
     have HD' := Lib.hid (HD.out hkn raw hstd)
     clear hstd e1
     have hrs : (S raw).size = raw.length := by simp [S, ByteArray.size]
     have hraw := hash_eq (S raw)
     rw [hrs, show (S raw).data.toList = raw from rfl] at hraw
     generalize hL : S raw = R at *
     have HL := Lib.hid hL
     clear hL
     generalize hcl : clr B.data.toList = cl at *
     have HCL := Lib.hid hcl
     clear hcl
     have HRS := Lib.hid hrs
     have HRAW := Lib.hid hraw
     clear hraw
     refine (spec_Decode.calls kd B _ _ _ _ hdec).mono ?_
     rintro e w1 ⟨rfl, hb1⟩
     have hk1 : w1.heap[w.heap.size]? = some (.cells #[.string ⟨#[]⟩, .int .u32 0, .string ⟨#[]⟩] 49) := (hb1.block w.heap.size (by simp)).trans (heap_alloc_new _ _)
     have hkk : (0 : Int) ≤ (k : Int) := by omega
     have hle1 : w.heap.size ≤ w1.heap.size := Nat.le_trans (by simp) hb1.size
     clear hrs
     cases nm with
     | false =>
      have hd' := HC'.out (.inl rfl)
      have HE := Lib.hid hd'
      clear hd'
      go_wp2_with (go_at_call 23; refine (cN _).mono ?_; rintro e w2 ⟨rfl, hb2⟩; have hk2 := (hb2.block w.heap.size (blk_lt hk1)).trans hk1; obtain ⟨c0, c1, c2, f0, f1, f2⟩ := cells3 hk2)
      refine bodyPost_ret (v := .tuple #[.agg #[.string (S []), .int .u32 0, .string (S [])], .string (S []), .bool false, .bool cl]) (by simp [results, Tryz.results19, go_sem, S, c0, c1, c2, f0, f1, f2]) rfl ⟨by rw [HE.out]; rfl, ?_⟩
      exact below3 ((((Below.refl _ _).alloc (Nat.le_refl _) _).trans (hb1.mono (by simp))).trans (hb2.mono hle1)) (Nat.le_refl _) _ _ _
     | true =>
      by_cases h5 : raw.length < 5
      ·have h5' : decide ((R.size : Int) < 5) = true := decide_eq_true (by rw [HRS.out]; omega)
       have HE := Lib.hid (HC'.out (.inr h5))
       clear h5
       go_wp2_with (go_at_call 23; refine (cN _).mono ?_; rintro e w2 ⟨rfl, hb2⟩; have hk2 := (hb2.block w.heap.size (blk_lt hk1)).trans hk1; obtain ⟨c0, c1, c2, f0, f1, f2⟩ := cells3 hk2)
       refine bodyPost_ret (v := .tuple #[.agg #[.string (S []), .int .u32 0, .string (S [])], .string (S []), .bool false, .bool cl]) (by simp [results, Tryz.results19, go_sem, S, c0, c1, c2, f0, f1, f2]) rfl ⟨by rw [HE.out]; rfl, ?_⟩
       exact below3 ((((Below.refl _ _).alloc (Nat.le_refl _) _).trans (hb1.mono (by simp))).trans (hb2.mono hle1)) (Nat.le_refl _) _ _ _
      ·have h5' : decide ((R.size : Int) < 5) = false := decide_eq_false (by rw [HRS.out]; omega)
       have h54 : (4 : Int) ≤ (R.size : Int) := by rw [HRS.out]; omega
       have HE := Lib.hid (HD'.out rfl (by omega))
       have HH := Lib.hid (HRAW.out (by omega))
       clear h5
       go_wp2_with (go_at_call 23; refine (cN _).mono ?_; rintro e w2 ⟨rfl, hb2⟩; have hk2 := (hb2.block w.heap.size (blk_lt hk1)).trans hk1; obtain ⟨c0, c1, c2, f0, f1, f2⟩ := cells3 hk2)
       have q1 : k ≤ t.size := by omega
       have q2 : k + 1 ≤ t.size := by omega
       have q3 : 4 ≤ R.size := by omega
       have q4 : (k : Int) ≤ (t.size : Int) := by omega
       have q5 : IntKind.i64.wrap ((k : Int) + 1) = (k : Int) + 1 := IntWalk.i64_in _ ⟨by omega, by omega⟩
       have q6 : (0 : Int) ≤ (k : Int) + 1 := by omega
       go_region_with (go_at_call 35; refine (spec_Hash.calls _ _ _ HH.out).mono ?_; rintro e w3 ⟨rfl, hb3⟩; have hk3 := (hb3.below.block w.heap.size (blk_lt hk2)).trans hk2; obtain ⟨d0, d1, d2, g0, g1, g2⟩ := cells3 hk3; have HB3 := Lib.hid hb3.below; clear hb3)
       go_wp2_with fail
       refine bodyPost_ret (v := .tuple #[.agg #[.string (t.extract 0 k), .int .u32 (hashL raw : Int), .string (t.extract (k + 1) t.size)], .string (R.extract 4 R.size), .bool true, .bool cl]) (by simp [results, Tryz.results19, go_sem, d0, d1, d2, g0, g1, g2]) rfl ⟨?_, ?_⟩
       ·rw [HE.out, HBE.out]
        have e2 : R.extract 4 R.size = S (raw.drop 4) := by
         apply ByteArray.ext; rw [ByteArray.data_extract]; simp [← HL.out, S, ByteArray.size, List.take_of_length_le]
        rw [e2]; rfl
       ·exact below3 (((((Below.refl _ _).alloc (Nat.le_refl _) _).trans (hb1.mono (by simp))).trans (hb2.mono hle1)).trans ((((Below.refl _ w2).drew).trans HB3.out).mono (Nat.le_trans hle1 hb2.size))) (Nat.le_refl _) _ _ _
theorem spec_Line.calls (a0 : ByteArray) (r1 : ByteArray) (r2 : Int) (r3 r4 : ByteArray) (r5 r6 : Bool) (w : World) (h : spec_Line.f a0 = some (r1, r2, r3, r4, r5, r6)) :
  Calls Tryz.prog 19 #[.string a0] w fun e w' => e = .returned (.tuple #[.agg #[.string r1, .int .u32 r2, .string r3], .string r4, .bool r5, .bool r6]) ∧ Below w.heap.size w w' := by
 unfold spec_Line.f at h
 by_cases hs : a0.size ≤ 2147483647
 ·rw [if_pos hs] at h
  simp only [Option.some.injEq, Prod.mk.injEq] at h
  obtain ⟨rfl, rfl, rfl, rfl, rfl, rfl⟩ := h
  have hz := data_length a0
  by_cases h4 : a0.size < 4
  ·have hd : ¬ (a0.data.toList.take 4 = dashL) := by
    intro e; have := congrArg List.length e; simp [dashL, hz] at this; omega
   unfold lineD; rw [if_neg hd]
   exact line_short a0 w h4
  ·have e4 : (a0.extract 0 4).data.toList = a0.data.toList.take 4 := by rw [S_extract]; simp
   have e5 : (a0.extract 0 4).toList = a0.data.toList.take 4 := by rw [ByteArray.toList_eq, e4]
   by_cases hd : a0.data.toList.take 4 = dashL
   ·have hd' : ((a0.extract 0 4).toList == [226, 128, 148, 32]) = true := by rw [e5, hd]; rfl
    have et : (a0.extract 4 a0.size).data.toList = a0.data.toList.drop 4 := by rw [S_extract, ← hz]; simp [List.take_of_length_le]
    have etz : (a0.extract 4 a0.size).size = (a0.data.toList.drop 4).length := by rw [← et]; exact (data_length _).symm
    have eA : ∀ k, ((a0.extract 4 a0.size).extract 0 k).data.toList = (a0.data.toList.drop 4).take k := fun k => by rw [S_extract, et]; simp
    have eB : ∀ k, ((a0.extract 4 a0.size).extract k (a0.extract 4 a0.size).size).data.toList = (a0.data.toList.drop 4).drop k := fun k => by rw [S_extract, et, etz]; exact List.take_of_length_le (by simp; omega)
    refine line_dash a0 w (by omega) hs hd' _ rfl (by rw [ByteArray.size_extract]; omega) (lineD a0.data.toList) ?_ ?_ ?_ ?_
    ·intro e; rw [et, etz] at e; unfold lineD; rw [if_pos hd, if_pos e]
    ·intro e; rw [et, etz] at e; rw [eB, et]; intro e1; unfold lineD; rw [if_pos hd, if_neg (by omega), e1]
    ·intro e; rw [et, etz] at e; rw [eB, et, eA]; intro raw e1 e2; unfold lineD; rw [if_pos hd, if_neg (by omega), e1]
     simp only; rw [if_neg]; rintro ⟨x, y⟩; rcases e2 with e2 | e2
     ·rw [e2] at x; cases x
     ·omega
    ·intro e; rw [et, etz] at e; rw [eB, et, eA]; intro raw e1 e2 e3; unfold lineD; rw [if_pos hd, if_neg (by omega), e1]
     simp only; rw [if_pos ⟨e2, e3⟩]
   ·have hd' : ((a0.extract 0 4).toList == [226, 128, 148, 32]) = false := by rw [e5]; exact beq_eq_false_iff_ne.2 hd
    unfold lineD; rw [if_neg hd]
    exact line_nodash a0 w (by omega) hd'
 ·rw [if_neg hs] at h; cases h
def lowD (l : List UInt8) : Bool := l.all fun b => decide (32 ≤ b.toNat) || b.toNat == 10
def plainD (l : List UInt8) : Bool := lowD l && validD l
theorem enc_low (r : Nat) (hr : r ≤ 1114111) : lowD (encodeRune (r : Int)) = (decide (32 ≤ r) || r == 10) := by
 unfold lowD encodeRune
 by_cases h1 : r ≤ 127
 ·rw [encodeRuneZ_one (by omega) (by omega)]
  have e : (UInt8.ofNat r).toNat = r := by rw [UInt8.toNat_ofNat']; omega
  show ((decide (32 ≤ ((r : Int).toNat.toUInt8).toNat) || ((r : Int).toNat.toUInt8).toNat == 10) && true) = _
  rw [Bool.and_true, Int.toNat_natCast, show r.toUInt8 = UInt8.ofNat r from rfl, e]
 ·have key : ∀ x ∈ encodeRuneZ (r : Int), 128 ≤ x ∧ x < 256 := by
   intro x hx
   unfold encodeRuneZ at hx
   repeat' split at hx
   all_goals simp at hx
   all_goals omega
  rw [show (decide (32 ≤ r) || r == 10) = true by rw [decide_eq_true (by omega)]; rfl]
  rw [List.all_map]
  refine List.all_eq_true.2 fun x hx => ?_
  have := key x hx
  show (decide (32 ≤ (x.toNat.toUInt8).toNat) || _) = true
  rw [show x.toNat.toUInt8 = UInt8.ofNat x.toNat from rfl, UInt8.toNat_ofNat', decide_eq_true (by omega)]
  rfl
theorem plain_step (l : List UInt8) (h : l ≠ []) : plainD l =
  if (decodeL l).1 = 65533 ∧ (decodeL l).2 = 1 then false
  else if (decodeL l).1 < 32 ∧ (decodeL l).1 ≠ 10 then false
  else plainD (l.drop (decodeL l).2) := by
 unfold plainD
 rw [validD_step l h]
 by_cases hv : (decodeL l).1 = 65533 ∧ (decodeL l).2 = 1
 ·rw [if_pos hv, if_pos hv, Bool.and_false]
 ·rw [if_neg hv, if_neg hv]
  have he := encode_decode l h hv
  have hl : lowD l = (lowD (l.take (decodeL l).2) && lowD (l.drop (decodeL l).2)) := by
   unfold lowD; rw [← List.all_append, List.take_append_drop]
  rw [hl, ← he, enc_low _ (decodeL_rune l)]
  by_cases h2 : (decodeL l).1 < 32 ∧ (decodeL l).1 ≠ 10
  ·rw [if_pos h2, decide_eq_false (by omega), beq_eq_false_iff_ne.2 h2.2]; rfl
  ·rw [if_neg h2]
   have : (decide (32 ≤ (decodeL l).1) || (decodeL l).1 == 10) = true := by
    rcases Nat.lt_or_ge (decodeL l).1 32 with h3 | h3
    ·have : (decodeL l).1 = 10 := Classical.byContradiction fun e => h2 ⟨h3, e⟩
     rw [this]; rfl
    ·rw [decide_eq_true h3]; rfl
   rw [this, Bool.true_and]
theorem decodeGo_L (l : List UInt8) (h : l ≠ []) : decodeGo ⟨l.toArray⟩ = decodeL l := by
 unfold decodeGo decodeL
 rw [if_neg]
 intro e
 exact h (List.length_eq_zero_iff.1 (by simpa [ByteArray.size] using e))
theorem RB.C {w : World} {A : Option Addr} {l : List UInt8} (h : RB w A l) : Kd.C (Kd.int .u8) w A (ints l).length (ints l) := by
 rw [ints_length]
 exact Kd.C_of_reads (enc := Value.int .u8) (d := (0 : Int)) (h1 := fun _ => rfl) h
theorem ints_take (l : List UInt8) (n : Nat) : (ints l).take n = ints (l.take n) := by unfold ints; rw [List.map_take]
theorem RB.take {w : World} {A : Option Addr} {l : List UInt8} (h : RB w A l) (n : Nat) (hn : n ≤ l.length) : RB w A (l.take n) := by
 have := ReadsInt.take_ h n hn
 rw [ints_take] at this
 unfold RB
 rw [List.length_take, Nat.min_eq_left hn]
 exact this
theorem eq_lists (l p : List UInt8) : ((strOfNums (ints l)).toList == (strOfNums (ints p)).toList) = (l == p) := by
 rw [strOf_ints, strOf_ints, ByteArray.toList_eq, ByteArray.toList_eq]
set_option maxRecDepth 100000 in
theorem hasprefix (w : World) (A A2 : Option Addr) (c c2 : Nat) (l p : List UInt8) (h : RB w A l) (h2 : RB w A2 p) (hc : l.length ≤ c) (hc2 : p.length ≤ c2) (hl : l.length ≤ 2147483647) (hp : p.length ≤ 2147483647) :
  Calls Tryz.prog 40 #[.slice A l.length c, .slice A2 p.length c2] w fun e w' => e = .returned (.bool (l.take p.length == p)) ∧ Drawn0 w w' := by
 by_cases hle : p.length ≤ l.length
 ·have h1 : decide ((p.length : Int) ≤ (l.length : Int)) = true := decide_eq_true (by omega)
  have h1' : decide (p.length ≤ l.length) = true := decide_eq_true hle
  have hi : (p.length : Int) ≤ (c : Int) := by omega
  have hcc : p.length ≤ c := by omega
  have hE := bytes_Equal.calls A c (ints (l.take p.length)) A2 c2 (ints p) _ w (h.take p.length hle).C (by rw [ints_length, List.length_take]; omega) h2.C (by rw [ints_length]; exact hc2) rfl
  rw [ints_length, ints_length, List.length_take, Nat.min_eq_left hle, eq_lists] at hE
  have HE := Lib.hid hE
  clear hE h h2
  go_enter Tryz.func40, Tryz.ntmps40
  go_wp2_with (go_at_call 56; refine HE.out.mono ?_; rintro e w1 ⟨rfl, hd⟩)
  go_ret
  exact ⟨rfl, hd⟩
 ·have h1 : decide ((p.length : Int) ≤ (l.length : Int)) = false := decide_eq_false (by omega)
  have h1' : decide (p.length ≤ l.length) = false := decide_eq_false hle
  have hne : (l.take p.length == p) = false := beq_eq_false_iff_ne.2 (fun e => by have := congrArg List.length e; rw [List.length_take] at this; omega)
  have HN := Lib.hid hne
  clear h h2 hne
  go_enter Tryz.func40, Tryz.ntmps40
  go_wp2
  go_ret
  exact ⟨ret_bool HN.out.symm, Drawn0.refl _⟩
theorem bytesOf_ints (l : List UInt8) : Lib.bytesOf (ints l) = l := by
 unfold Lib.bytesOf ints
 rw [List.map_map]
 have : ((fun n : Int => n.toNat.toUInt8) ∘ fun b : UInt8 => (b.toNat : Int)) = id := by
  funext b
  show UInt8.ofNat ((b.toNat : Int).toNat) = b
  rw [Int.toNat_natCast, UInt8.ofNat_toNat]
 first | rw [this, List.map_id] | (simp [this])
theorem indexb (w : World) (ad : Addr) (c : Nat) (l : List UInt8) (h : RB w (some ad) l) :
  Calls Tryz.prog 39 #[.slice (some ad) l.length c, .int .u8 10] w fun e w' => e = .returned (.int .i64 (Lib.indexByte l 10)) ∧ w' = w := by
 have := Tryz.bytes_IndexByte_at ad l.length c (ints l) 10 w (ints_length l) (fun i hi => by
  obtain ⟨ad', e, hc⟩ := h.2.2 (by omega)
  injection e with e
  rw [e]; exact hc i hi)
 rw [bytesOf_ints] at this
 exact this
theorem zzcut (s : ByteArray) (hs : s.size ≤ 2147483647) : ∃ k, sumdbnote_zzCut.f k s ⟨#[32]⟩ = some (
  if blank s.data.toList < s.size then (s.extract 0 (blank s.data.toList), s.extract (blank s.data.toList + 1) s.size, true) else (s, ⟨#[]⟩, false)) := by
 have hsz : s.data.toList.length = s.size := data_length s
 obtain ⟨k, r, hr, hcase⟩ := zz_one s 32 hs s.size 0 (by omega)
 refine ⟨k, ?_⟩
 unfold sumdbnote_zzCut.f sumdbnote_zzIndex.f
 rw [show (0 : Int) = ((0 : Nat) : Int) from rfl, hr]
 simp only [Option.bind_some]
 have hbl := blank_le s.data.toList
 rcases hcase with ⟨rfl, h2⟩ | ⟨n, rfl, _, h3, h4, h5⟩
 ·have hb : ¬ blank s.data.toList < s.size := fun hlt => h2 _ (Nat.zero_le _) hlt (blank_at _ (by omega))
  rw [if_neg (by omega), if_neg hb]
 ·have hb : blank s.data.toList = n := by
   rcases Nat.lt_trichotomy (blank s.data.toList) n with hlt | he | hgt
   ·exact absurd (blank_at _ (by omega)) (h5 _ (Nat.zero_le _) hlt)
   ·exact he
   ·obtain ⟨b, hb, hn⟩ := blank_lt _ _ hgt
    rw [h4] at hb; exact absurd (Option.some.inj hb).symm hn
  rw [hb, if_pos h3]
  have e1 : wrap64 ((n : Int) + ((⟨#[32]⟩ : ByteArray).size : Int)) = ((n + 1 : Nat) : Int) := by
   show wrap64 ((n : Int) + 1) = _
   rw [IntWalk.wrap64_in _ ⟨by omega, by omega⟩]; rfl
  rw [e1, if_pos (by omega), if_pos (by omega), if_pos (by omega), if_pos (by omega), if_pos (by omega)]
  rfl
structure OB (w0 w : World) (g : Nat) (cs : List Value) (t : TypeId) : Prop where
 below : Below w0.heap.size w0 w
 ge : w0.heap.size ≤ g
 blk : w.heap[g]? = some (.cells cs.toArray t (0, 0))
theorem OB.lt {w0 w : World} {g : Nat} {cs : List Value} {t : TypeId} (h : OB w0 w g cs t) : g < w.heap.size := blk_lt h.blk
theorem OB.cell {w0 w : World} {g : Nat} {cs : List Value} {t : TypeId} (h : OB w0 w g cs t) (j : Nat) : w.cell? ⟨g, j, none⟩ = cs[j]? := by
 rw [cell_of_row w g j _ t _ h.blk]; simp
theorem OB.frozen {w0 w : World} {g : Nat} {cs : List Value} {t : TypeId} (h : OB w0 w g cs t) (j : Nat) : w.frozen? ⟨g, j, none⟩ = false := frozen_of_row w g j _ t h.blk
theorem OB.drew {w0 w : World} {g : Nat} {cs : List Value} {t : TypeId} (h : OB w0 w g cs t) : OB w0 w.drew g cs t := ⟨h.below.drew, h.ge, h.blk⟩
theorem OB.drewN {w0 w : World} {g : Nat} {cs : List Value} {t : TypeId} (h : OB w0 w g cs t) : ∀ n, OB w0 (w.drewN n) g cs t
 | 0 => h
 | n + 1 => (h.drewN n).drew
theorem OB.new {w0 w : World} (h : Below w0.heap.size w0 w) (cs : Array Value) (t : TypeId) : OB w0 (w.alloc (.cells cs t)) w.heap.size cs.toList t :=
 ⟨h.alloc h.size _, h.size, by rw [Array.toArray_toList]; exact heap_alloc_new _ _⟩
theorem OB.alloc {w0 w : World} {g : Nat} {cs : List Value} {t : TypeId} (h : OB w0 w g cs t) (o : Obj) : OB w0 (w.alloc o) g cs t :=
 ⟨h.below.alloc h.below.size _, h.ge, by rw [Below.heap_alloc w o g h.lt]; exact h.blk⟩
theorem OB.later {w0 w w1 : World} {g : Nat} {cs : List Value} {t : TypeId} (h : OB w0 w g cs t) (hb : Below w.heap.size w w1) : OB w0 w1 g cs t :=
 ⟨h.below.trans (hb.mono h.below.size), h.ge, (hb.block g h.lt).trans h.blk⟩
theorem OB.setRow {w0 w : World} {g : Nat} {cs : List Value} {t : TypeId} (h : OB w0 w g cs t) (cs' : Array Value) : OB w0 (w.setRow g cs') g cs'.toList t :=
 ⟨below_setRow h.below h.ge _, h.ge, by rw [Array.toArray_toList]; exact setRow_heap w g _ _ t _ h.blk⟩
theorem OB.setCell {w0 w : World} {g : Nat} {cs : List Value} {t : TypeId} (h : OB w0 w g cs t) (j : Nat) (v : Value) : OB w0 (w.setCell ⟨g, j, none⟩ v) g (cs.set j v) t := by
 have e := setCell_eq_setRow w g j _ t _ v h.blk
 rw [e]
 have := h.setRow (cs.toArray.setIfInBounds j v)
 simpa using this
theorem OB.setOther {w0 w : World} {g : Nat} {cs : List Value} {t : TypeId} (h : OB w0 w g cs t) {p : Addr} (hp : w0.heap.size ≤ p.block) (hne : p.block ≠ g) (v : Value) : OB w0 (w.setCell p v) g cs t :=
 ⟨h.below.setCell hp v, h.ge, by rw [Below.heap_setCell w p v g (fun e => hne e.symm)]; exact h.blk⟩
theorem OB.base {w0 w w1 : World} {g : Nat} {cs : List Value} {t : TypeId} (h : OB w1 w g cs t) (hb : Below w0.heap.size w0 w1) : OB w0 w g cs t :=
 ⟨hb.trans (h.below.mono hb.size), Nat.le_trans hb.size h.ge, h.blk⟩
end Go.Proofs.YtkbegfihdpiacaaGreatDoor.PX
