/- Part 4 of the proof: what the theorem reaches of the texts KR5, KR6, KR7. -/
import Derived.Test.YtkbegfihdpiacaaGreatDoorProg
import Derived.Below
import Derived.Deep.Draws
import Derived.Deep.AppendLies
import Derived.Maps.AppendAt
import Derived.OwnWalk
import Derived.Laws.BytesArg
import Derived.Laws.MakeOwn
import Derived.Laws.OwnMore
import Derived.Deep.OwnRows
import Derived.Tactics
import Derived.Lib.ConvBytes
import Derived.Laws.Slices
import Derived.WalkKit
import Derived.KernelRfl
import Derived.RowKit3
import Derived.Deep.LoopGhost
import Derived.Deep.QuietTactic
import Derived.BigQuiet
import Derived.WideLaws
import Derived.Deep.DeepCutAuto
import Derived.Deep.CutBlock
import Derived.Deep.RegionHeld3
import Derived.Laws.Rows
import Derived.Lib.AppendStr
import Derived.ArgAppend
import Derived.Laws.IdiomCopy
import Derived.OrdersHeld
import Derived.Laws.BitsLemmas
import Derived.RowKit
import Derived.DeepKeys4
import Derived.WalkSpells
import Derived.Lib.Hide
import Derived.Outline
import Derived.Deep.DeepFit
import Derived.Test.YtkbegfihdpiacaaGreatDoorKT0
import Derived.Test.YtkbegfihdpiacaaGreatDoorKT1
import Derived.Test.YtkbegfihdpiacaaGreatDoorKT3
set_option linter.unusedVariables false
set_option linter.unusedSimpArgs false
namespace Go.Proofs.YtkbegfihdpiacaaGreatDoor.PX
open Go.RowKit Go.Proofs.YtkbegfihdpiacaaGreatDoorW.PrintWords Go.Proofs.YtkbegfihdpiacaaGreatDoorW.PrintLast Go.Proofs.YtkbegfihdpiacaaGreatDoorW.PrintMore
attribute [local go_sem] max2_int min2_int max_two min_two max_three min_three max_four min_four   -- for this text's walks alone
def errW : Option Int → Value
 | none => .nilIface
 | some c => .iface 0 (.int .i64 c)
theorem errW_none : errW none = .nilIface := rfl
theorem errW_some (c : Int) : errW (some c) = .iface 0 (.int .i64 c) := rfl
theorem info5 : (Tryz.prog.info? 5).map (fun i => (i.zero, i.size, i.bytes)) = some (some (.int .u8 0), 1, 1) := by kernel_rfl
theorem info9 : (Tryz.prog.info? 9).map (fun i => (i.zero, i.size, i.bytes)) = some (some (.string ⟨#[]⟩), 1, 16) := by kernel_rfl
theorem info49 : (Tryz.prog.info? 49).map (fun i => (i.zero, i.size, i.bytes)) = some (some (.agg #[(.string ⟨#[]⟩), (.int .u32 0), (.string ⟨#[]⟩)]), 3, 40) := by kernel_rfl
theorem info66 : (Tryz.prog.info? 66).map (fun i => (i.zero, i.size, i.bytes)) = some (some (.agg #[(.string ⟨#[]⟩), (.int .u32 0), (.slice none 0 0), (.slice none 0 0)]), 4, 72) := by kernel_rfl
theorem info82 : (Tryz.prog.info? 82).map (fun i => (i.zero, i.size, i.bytes)) = some (some (.agg #[(.string ⟨#[]⟩), (.int .u32 0), (.string ⟨#[]⟩)]), 3, 40) := by kernel_rfl
theorem info122 : (Tryz.prog.info? 122).map (fun i => (i.zero, i.size, i.bytes)) = some (some (.agg #[(.string ⟨#[]⟩), (.int .u32 0), (.string ⟨#[]⟩)]), 3, 40) := by kernel_rfl
structure S56 where
 f0 : ByteArray
 f1 : Int
 f2 : (List ByteArray)
 f3 : (List ByteArray)
def z56 : S56 := ⟨(⟨#[]⟩ : ByteArray), (0 : Int), ([] : List ByteArray), ([] : List ByteArray)⟩
def k56 : Kd S56 := Kd.iso (Kd.pair Kd.string (Kd.pair (Kd.int .u32) (Kd.pair (Kd.slice 9 Kd.string) (Kd.slice 9 Kd.string)))) (fun x : S56 => (x.f0, x.f1, x.f2, x.f3))
theorem k56_open {w : World} {x : S56} {cs : List Value} (h : k56.K w x cs) : ∃ A2 c2 A3 c3, cs = [.string x.f0, .int .u32 x.f1, .slice A2 x.f2.length c2, .slice A3 x.f3.length c3] ∧ x.f2.length ≤ c2 ∧ Kd.string.C w A2 x.f2.length x.f2 ∧ x.f3.length ≤ c3 ∧ Kd.string.C w A3 x.f3.length x.f3 := by
 obtain ⟨_, _, rfl, rfl, ⟨_, _, rfl, rfl, ⟨_, _, rfl, ⟨A2, c2, rfl, l2, g2⟩, ⟨A3, c3, rfl, l3, g3⟩⟩⟩⟩ := h
 exact ⟨A2, c2, A3, c3, rfl, l2, g2, l3, g3⟩
theorem k56_mk (w : World) (x : S56) {A2 : Option Addr} {c2 : Nat} (l2 : x.f2.length ≤ c2) (g2 : Kd.string.C w A2 x.f2.length x.f2) {A3 : Option Addr} {c3 : Nat} (l3 : x.f3.length ≤ c3) (g3 : Kd.string.C w A3 x.f3.length x.f3) : k56.K w x [.string x.f0, .int .u32 x.f1, .slice A2 x.f2.length c2, .slice A3 x.f3.length c3] := ⟨[.string x.f0], [.int .u32 x.f1, .slice A2 x.f2.length c2, .slice A3 x.f3.length c3], rfl, rfl, ⟨[.int .u32 x.f1], [.slice A2 x.f2.length c2, .slice A3 x.f3.length c3], rfl, rfl, ⟨[.slice A2 x.f2.length c2], [.slice A3 x.f3.length c3], rfl, ⟨A2, c2, rfl, l2, g2⟩, ⟨A3, c3, rfl, l3, g3⟩⟩⟩⟩
theorem k56_openF {W : World} {ok : Nat → Prop} {x : S56} {cs : List Value} (h : Kd.FK k56 W ok x cs) : ∃ A2 c2 A3 c3, cs = [.string x.f0, .int .u32 x.f1, .slice A2 x.f2.length c2, .slice A3 x.f3.length c3] ∧ x.f2.length ≤ c2 ∧ Kd.F Kd.string W ok A2 x.f2.length x.f2 ∧ x.f3.length ≤ c3 ∧ Kd.F Kd.string W ok A3 x.f3.length x.f3 := by
 obtain ⟨A2, c2, A3, c3, rfl, l2, _, l3, _⟩ := k56_open (Kd.FK_now h)
 exact ⟨A2, c2, A3, c3, rfl, l2, (fun W' hW => by obtain ⟨A2_, c2_, A3_, c3_, he, l2_, g2_, l3_, g3_⟩ := k56_open (h W' hW); injection (Option.some.inj (show some (Value.slice A2 x.f2.length c2) = some (Value.slice A2_ x.f2.length c2_) from congrArg (fun l => l[2]?) he)) with ha_ _ _; rw [ha_]; exact g2_), l3, (fun W' hW => by obtain ⟨A2_, c2_, A3_, c3_, he, l2_, g2_, l3_, g3_⟩ := k56_open (h W' hW); injection (Option.some.inj (show some (Value.slice A3 x.f3.length c3) = some (Value.slice A3_ x.f3.length c3_) from congrArg (fun l => l[3]?) he)) with ha_ _ _; rw [ha_]; exact g3_)⟩
def rd_T56 (xs : List S56) (i : Int) : S56 := xs.getD i.toNat z56
theorem at_T56 {w : World} {A : Option Addr} {n : Nat} {xs : List S56} (h : Kd.C k56 w A n xs) (i : Int) (h0 : 0 ≤ i) (h1 : i < n) : ∃ ad A2 c2 A3 c3, A = some ad ∧ w.cell? (ad.add (i.toNat * 4)) = some (.string (rd_T56 xs i).f0) ∧ w.cell? ⟨(ad.add (i.toNat * 4)).block, (ad.add (i.toNat * 4)).off + 1, none⟩ = some (.int .u32 (rd_T56 xs i).f1) ∧ w.cell? ⟨(ad.add (i.toNat * 4)).block, (ad.add (i.toNat * 4)).off + 2, none⟩ = some (.slice A2 (rd_T56 xs i).f2.length c2) ∧ w.cell? ⟨(ad.add (i.toNat * 4)).block, (ad.add (i.toNat * 4)).off + 3, none⟩ = some (.slice A3 (rd_T56 xs i).f3.length c3) ∧ (rd_T56 xs i).f2.length ≤ c2 ∧ Kd.string.C w A2 (rd_T56 xs i).f2.length (rd_T56 xs i).f2 ∧ (rd_T56 xs i).f3.length ≤ c3 ∧ Kd.string.C w A3 (rd_T56 xs i).f3.length (rd_T56 xs i).f3 := by
 obtain ⟨ad, c, e, _, hK, hc0⟩ := Kd.C_get h z56 i h0 h1
 have hc : ∀ j u, c[j]? = some u → w.cell? (ad.add (i.toNat * 4 + j)) = some u := hc0
 obtain ⟨A2, c2, A3, c3, rfl, l2, g2, l3, g3⟩ := k56_open hK
 exact ⟨ad, A2, c2, A3, c3, e, hc 0 _ rfl, by rw [← add_field _ _ 1 (by omega)]; exact hc 1 _ rfl, by rw [← add_field _ _ 2 (by omega)]; exact hc 2 _ rfl, by rw [← add_field _ _ 3 (by omega)]; exact hc 3 _ rfl, l2, g2, l3, g3⟩
structure S66 where
 f0 : ByteArray
 f1 : Int
 f2 : (List ByteArray)
 f3 : (List ByteArray)
def z66 : S66 := ⟨(⟨#[]⟩ : ByteArray), (0 : Int), ([] : List ByteArray), ([] : List ByteArray)⟩
def k66 : Kd S66 := Kd.iso (Kd.pair Kd.string (Kd.pair (Kd.int .u32) (Kd.pair (Kd.slice 9 Kd.string) (Kd.slice 9 Kd.string)))) (fun x : S66 => (x.f0, x.f1, x.f2, x.f3))
theorem k66_open {w : World} {x : S66} {cs : List Value} (h : k66.K w x cs) : ∃ A2 c2 A3 c3, cs = [.string x.f0, .int .u32 x.f1, .slice A2 x.f2.length c2, .slice A3 x.f3.length c3] ∧ x.f2.length ≤ c2 ∧ Kd.string.C w A2 x.f2.length x.f2 ∧ x.f3.length ≤ c3 ∧ Kd.string.C w A3 x.f3.length x.f3 := by
 obtain ⟨_, _, rfl, rfl, ⟨_, _, rfl, rfl, ⟨_, _, rfl, ⟨A2, c2, rfl, l2, g2⟩, ⟨A3, c3, rfl, l3, g3⟩⟩⟩⟩ := h
 exact ⟨A2, c2, A3, c3, rfl, l2, g2, l3, g3⟩
theorem k66_mk (w : World) (x : S66) {A2 : Option Addr} {c2 : Nat} (l2 : x.f2.length ≤ c2) (g2 : Kd.string.C w A2 x.f2.length x.f2) {A3 : Option Addr} {c3 : Nat} (l3 : x.f3.length ≤ c3) (g3 : Kd.string.C w A3 x.f3.length x.f3) : k66.K w x [.string x.f0, .int .u32 x.f1, .slice A2 x.f2.length c2, .slice A3 x.f3.length c3] := ⟨[.string x.f0], [.int .u32 x.f1, .slice A2 x.f2.length c2, .slice A3 x.f3.length c3], rfl, rfl, ⟨[.int .u32 x.f1], [.slice A2 x.f2.length c2, .slice A3 x.f3.length c3], rfl, rfl, ⟨[.slice A2 x.f2.length c2], [.slice A3 x.f3.length c3], rfl, ⟨A2, c2, rfl, l2, g2⟩, ⟨A3, c3, rfl, l3, g3⟩⟩⟩⟩
theorem k66_mkF (W : World) (ok : Nat → Prop) (x : S66) {A2 : Option Addr} {c2 : Nat} (l2 : x.f2.length ≤ c2) (g2 : Kd.F Kd.string W ok A2 x.f2.length x.f2) {A3 : Option Addr} {c3 : Nat} (l3 : x.f3.length ≤ c3) (g3 : Kd.F Kd.string W ok A3 x.f3.length x.f3) : Kd.FK k66 W ok x [.string x.f0, .int .u32 x.f1, .slice A2 x.f2.length c2, .slice A3 x.f3.length c3] := fun W2 hW => k66_mk W2 x l2 (g2 W2 hW) l3 (g3 W2 hW)
def rd_T66 (xs : List S66) (i : Int) : S66 := xs.getD i.toNat z66
theorem at_T66 {w : World} {A : Option Addr} {n : Nat} {xs : List S66} (h : Kd.C k66 w A n xs) (i : Int) (h0 : 0 ≤ i) (h1 : i < n) : ∃ ad A2 c2 A3 c3, A = some ad ∧ w.cell? (ad.add (i.toNat * 4)) = some (.string (rd_T66 xs i).f0) ∧ w.cell? ⟨(ad.add (i.toNat * 4)).block, (ad.add (i.toNat * 4)).off + 1, none⟩ = some (.int .u32 (rd_T66 xs i).f1) ∧ w.cell? ⟨(ad.add (i.toNat * 4)).block, (ad.add (i.toNat * 4)).off + 2, none⟩ = some (.slice A2 (rd_T66 xs i).f2.length c2) ∧ w.cell? ⟨(ad.add (i.toNat * 4)).block, (ad.add (i.toNat * 4)).off + 3, none⟩ = some (.slice A3 (rd_T66 xs i).f3.length c3) ∧ (rd_T66 xs i).f2.length ≤ c2 ∧ Kd.string.C w A2 (rd_T66 xs i).f2.length (rd_T66 xs i).f2 ∧ (rd_T66 xs i).f3.length ≤ c3 ∧ Kd.string.C w A3 (rd_T66 xs i).f3.length (rd_T66 xs i).f3 := by
 obtain ⟨ad, c, e, _, hK, hc0⟩ := Kd.C_get h z66 i h0 h1
 have hc : ∀ j u, c[j]? = some u → w.cell? (ad.add (i.toNat * 4 + j)) = some u := hc0
 obtain ⟨A2, c2, A3, c3, rfl, l2, g2, l3, g3⟩ := k66_open hK
 exact ⟨ad, A2, c2, A3, c3, e, hc 0 _ rfl, by rw [← add_field _ _ 1 (by omega)]; exact hc 1 _ rfl, by rw [← add_field _ _ 2 (by omega)]; exact hc 2 _ rfl, by rw [← add_field _ _ 3 (by omega)]; exact hc 3 _ rfl, l2, g2, l3, g3⟩
structure S49 where
 f0 : ByteArray
 f1 : Int
 f2 : ByteArray
def z49 : S49 := ⟨(⟨#[]⟩ : ByteArray), (0 : Int), (⟨#[]⟩ : ByteArray)⟩
def k49 : Kd S49 := Kd.iso (Kd.pair Kd.string (Kd.pair (Kd.int .u32) Kd.string)) (fun x : S49 => (x.f0, x.f1, x.f2))
theorem k49_open {w : World} {x : S49} {cs : List Value} (h : k49.K w x cs) : cs = [.string x.f0, .int .u32 x.f1, .string x.f2] := by
 obtain ⟨_, _, rfl, rfl, ⟨_, _, rfl, rfl, rfl⟩⟩ := h
 exact rfl
theorem k49_mkM (w : World) (base : Nat) (ok : Nat → Prop) (x : S49)  : k49.M w base ok x [.string x.f0, .int .u32 x.f1, .string x.f2] := ⟨[.string x.f0], [.int .u32 x.f1, .string x.f2], rfl, rfl, ⟨[.int .u32 x.f1], [.string x.f2], rfl, rfl, rfl⟩⟩
def rd_T49 (xs : List S49) (i : Int) : S49 := xs.getD i.toNat z49
theorem at_T49 {w : World} {A : Option Addr} {n : Nat} {xs : List S49} (h : Kd.C k49 w A n xs) (i : Int) (h0 : 0 ≤ i) (h1 : i < n) : ∃ ad , A = some ad ∧ w.cell? (ad.add (i.toNat * 3)) = some (.string (rd_T49 xs i).f0) ∧ w.cell? ⟨(ad.add (i.toNat * 3)).block, (ad.add (i.toNat * 3)).off + 1, none⟩ = some (.int .u32 (rd_T49 xs i).f1) ∧ w.cell? ⟨(ad.add (i.toNat * 3)).block, (ad.add (i.toNat * 3)).off + 2, none⟩ = some (.string (rd_T49 xs i).f2) := by
 obtain ⟨ad, c, e, _, hK, hc0⟩ := Kd.C_get h z49 i h0 h1
 have hc : ∀ j u, c[j]? = some u → w.cell? (ad.add (i.toNat * 3 + j)) = some u := hc0
 obtain rfl := k49_open hK
 exact ⟨ad, e, hc 0 _ rfl, by rw [← add_field _ _ 1 (by omega)]; exact hc 1 _ rfl, by rw [← add_field _ _ 2 (by omega)]; exact hc 2 _ rfl⟩
structure S35 where
 f0 : ByteArray
 f1 : Int
 f2 : ByteArray
 f3 : Bool
def z35 : S35 := ⟨(⟨#[]⟩ : ByteArray), (0 : Int), (⟨#[]⟩ : ByteArray), false⟩
def rd_T35 (xs : List S35) (i : Int) : S35 := xs.getD i.toNat z35
structure S193 where
 f0 : Int
 f1 : Int
 f2 : Int
def z193 : S193 := ⟨(0 : Int), (0 : Int), (0 : Int)⟩
structure S122 where
 f0 : ByteArray
 f1 : Int
 f2 : ByteArray
def z122 : S122 := ⟨(⟨#[]⟩ : ByteArray), (0 : Int), (⟨#[]⟩ : ByteArray)⟩
def k122 : Kd S122 := Kd.iso (Kd.pair Kd.string (Kd.pair (Kd.int .u32) Kd.string)) (fun x : S122 => (x.f0, x.f1, x.f2))
theorem k122_open {w : World} {x : S122} {cs : List Value} (h : k122.K w x cs) : cs = [.string x.f0, .int .u32 x.f1, .string x.f2] := by
 obtain ⟨_, _, rfl, rfl, ⟨_, _, rfl, rfl, rfl⟩⟩ := h
 exact rfl
theorem k122_mkM (w : World) (base : Nat) (ok : Nat → Prop) (x : S122)  : k122.M w base ok x [.string x.f0, .int .u32 x.f1, .string x.f2] := ⟨[.string x.f0], [.int .u32 x.f1, .string x.f2], rfl, rfl, ⟨[.int .u32 x.f1], [.string x.f2], rfl, rfl, rfl⟩⟩
def rd_T122 (xs : List S122) (i : Int) : S122 := xs.getD i.toNat z122
theorem at_T122 {w : World} {A : Option Addr} {n : Nat} {xs : List S122} (h : Kd.C k122 w A n xs) (i : Int) (h0 : 0 ≤ i) (h1 : i < n) : ∃ ad , A = some ad ∧ w.cell? (ad.add (i.toNat * 3)) = some (.string (rd_T122 xs i).f0) ∧ w.cell? ⟨(ad.add (i.toNat * 3)).block, (ad.add (i.toNat * 3)).off + 1, none⟩ = some (.int .u32 (rd_T122 xs i).f1) ∧ w.cell? ⟨(ad.add (i.toNat * 3)).block, (ad.add (i.toNat * 3)).off + 2, none⟩ = some (.string (rd_T122 xs i).f2) := by
 obtain ⟨ad, c, e, _, hK, hc0⟩ := Kd.C_get h z122 i h0 h1
 have hc : ∀ j u, c[j]? = some u → w.cell? (ad.add (i.toNat * 3 + j)) = some u := hc0
 obtain rfl := k122_open hK
 exact ⟨ad, e, hc 0 _ rfl, by rw [← add_field _ _ 1 (by omega)]; exact hc 1 _ rfl, by rw [← add_field _ _ 2 (by omega)]; exact hc 2 _ rfl⟩
structure S82 where
 f0 : ByteArray
 f1 : Int
 f2 : ByteArray
def z82 : S82 := ⟨(⟨#[]⟩ : ByteArray), (0 : Int), (⟨#[]⟩ : ByteArray)⟩
def k82 : Kd S82 := Kd.iso (Kd.pair Kd.string (Kd.pair (Kd.int .u32) Kd.string)) (fun x : S82 => (x.f0, x.f1, x.f2))
theorem k82_open {w : World} {x : S82} {cs : List Value} (h : k82.K w x cs) : cs = [.string x.f0, .int .u32 x.f1, .string x.f2] := by
 obtain ⟨_, _, rfl, rfl, ⟨_, _, rfl, rfl, rfl⟩⟩ := h
 exact rfl
theorem k82_mkM (w : World) (base : Nat) (ok : Nat → Prop) (x : S82)  : k82.M w base ok x [.string x.f0, .int .u32 x.f1, .string x.f2] := ⟨[.string x.f0], [.int .u32 x.f1, .string x.f2], rfl, rfl, ⟨[.int .u32 x.f1], [.string x.f2], rfl, rfl, rfl⟩⟩
def rd_T82 (xs : List S82) (i : Int) : S82 := xs.getD i.toNat z82
theorem at_T82 {w : World} {A : Option Addr} {n : Nat} {xs : List S82} (h : Kd.C k82 w A n xs) (i : Int) (h0 : 0 ≤ i) (h1 : i < n) : ∃ ad , A = some ad ∧ w.cell? (ad.add (i.toNat * 3)) = some (.string (rd_T82 xs i).f0) ∧ w.cell? ⟨(ad.add (i.toNat * 3)).block, (ad.add (i.toNat * 3)).off + 1, none⟩ = some (.int .u32 (rd_T82 xs i).f1) ∧ w.cell? ⟨(ad.add (i.toNat * 3)).block, (ad.add (i.toNat * 3)).off + 2, none⟩ = some (.string (rd_T82 xs i).f2) := by
 obtain ⟨ad, c, e, _, hK, hc0⟩ := Kd.C_get h z82 i h0 h1
 have hc : ∀ j u, c[j]? = some u → w.cell? (ad.add (i.toNat * 3 + j)) = some u := hc0
 obtain rfl := k82_open hK
 exact ⟨ad, e, hc 0 _ rfl, by rw [← add_field _ _ 1 (by omega)]; exact hc 1 _ rfl, by rw [← add_field _ _ 2 (by omega)]; exact hc 2 _ rfl⟩
end Go.Proofs.YtkbegfihdpiacaaGreatDoor.PX
namespace Go.Proofs.YtkbegfihdpiacaaGreatDoor.PX
open Go.RowKit Nt Go.Lib Go.Maps Go.Proofs.YtkbegfihdpiacaaGreatDoorW.PrintWords Go.Proofs.YtkbegfihdpiacaaGreatDoorW.PrintLast
theorem laidOutP : laidOutB Tryz.prog = true := by kernel_rfl
theorem rowK : (126 : TypeId) < Tryz.prog.types.size := of_decide_eq_true (by kernel_rfl)
theorem wideK : (match Tryz.prog.underlying 126 with | some (.array _ _) | some (.struct _) => true | _ => false) = true := by kernel_rfl
set_option maxRecDepth 100000 in
theorem lawK : Keyed Tryz.prog 126 := Keyed.of_law (deep_law_laid laidOutP (m := 2) (by omega) rowK (by kernel_rfl) wideK)
theorem lawS : Keyed Tryz.prog 9 := string_keyed Tryz.underlying9
def keyV (s : ByteArray) (h : Int) : Value := .agg #[.string s, .int .u32 h]
theorem keyV_inj {s s' : ByteArray} {h h' : Int} (e : keyV s h = keyV s' h') : s = s' ∧ h = h' := by
 unfold keyV at e
 injection e with e
 have e := congrArg Array.toList e
 simp only [List.cons.injEq] at e
 obtain ⟨e1, e2, _⟩ := e
 injection e1 with e1
 injection e2 with _ e2
 exact ⟨e1, e2⟩
theorem keyTypeK : Tryz.prog.keyType 126 = true := by kernel_rfl
theorem underK : ∃ fs, Tryz.prog.underlying 126 = some (.struct fs) ∧ fs.all (·.name != "_") = true ∧ ∃ f0 f1 : Field, fs.toList = [f0, f1] ∧ f0.type = 9 ∧ f0.offset = 0 ∧ f1.type = 23 ∧ f1.offset = 1 := by
 refine ⟨_, Tryz.underlying126, by kernel_rfl, ?_⟩
 exact ⟨_, _, rfl, rfl, rfl, rfl, rfl⟩
theorem cellsK : Tryz.prog.cellsOf 126 = 2 := by kernel_rfl
theorem cellsStr : Tryz.prog.cellsOf 9 = 1 := by kernel_rfl
theorem cellsU32 : Tryz.prog.cellsOf 23 = 1 := by kernel_rfl
theorem keyOfK (s : ByteArray) (h : Int) (hs : s.size ≤ maxLen) (hw : (Lit.int .u32 h).wf = true) : ∃ l, keyOf Tryz.prog 126 (keyV s h) = some l := by
 obtain ⟨fs, hu, hall, f0, f1, hfs, t0, o0, t1, o1⟩ := underK
 obtain ⟨n, hn⟩ : ∃ n, Tryz.prog.types.size + 1 = n + 2 := ⟨Tryz.prog.types.size - 1, by have h : (126 : Nat) < Tryz.prog.types.size := rowK; omega⟩
 have hf : (keyV s h).formed Tryz.prog 126 = true := by
  simp [keyV, Value.formed, hu, cellsK]
 have e0 : Tryz.prog.keyLits (n + 1) 9 [.string s] = some [.string s.data.toList] := by
  simp [Program.keyLits, Tryz.underlying9, hs]
 have e1 : Tryz.prog.keyLits (n + 1) 23 [.int .u32 h] = some [.int .u32 h] := by
  simp [Program.keyLits, Tryz.underlying23, hw]
 have hl : Tryz.prog.keyLits (n + 2) 126 (keyV s h).cells.toList = some [.string s.data.toList, .int .u32 h] := by
  unfold Program.keyLits
  simp [hu, keyV, Value.cells, cellsK, hall, hfs, t0, o0, t1, o1, cellsStr, cellsU32, e0, e1]
 refine ⟨.string (keyBytes [.string s.data.toList, .int .u32 h]), ?_⟩
 unfold keyOf
 rw [hu]
 simp only [keyTypeK, hf, Bool.and_self, if_true, hn, hl, Option.map_some]
def verC (x : S56) (A2 : Option Addr) (c2 : Nat) (A3 : Option Addr) (c3 : Nat) : Value := .agg #[.string x.f0, .int .u32 x.f1, .slice A2 x.f2.length c2, .slice A3 x.f3.length c3]
set_option maxRecDepth 100000 in
theorem ver_name (x : S56) (A2 : Option Addr) (c2 : Nat) (A3 : Option Addr) (c3 : Nat) (w : World) :
  Calls Tryz.prog 112 #[verC x A2 c2 A3 c3] w fun e w' => e = .returned (.string x.f0) ∧ Below w.heap.size w w' := by
 unfold verC
 go_enter Tryz.func112, Tryz.ntmps112
 go_wp2
 go_ret
 exact ⟨rfl, (Below.refl _ _).alloc (Nat.le_refl _) _⟩
set_option maxRecDepth 100000 in
theorem ver_hash (x : S56) (A2 : Option Addr) (c2 : Nat) (A3 : Option Addr) (c3 : Nat) (w : World) :
  Calls Tryz.prog 111 #[verC x A2 c2 A3 c3] w fun e w' => e = .returned (.int .u32 x.f1) ∧ Below w.heap.size w w' := by
 unfold verC
 go_enter Tryz.func111, Tryz.ntmps111
 go_wp2
 go_ret
 exact ⟨rfl, (Below.refl _ _).alloc (Nat.le_refl _) _⟩
def ints (l : List UInt8) : List Int := l.map fun b => (b.toNat : Int)
theorem ints_length (l : List UInt8) : (ints l).length = l.length := List.length_map ..
def RB (w : World) (A : Option Addr) (l : List UInt8) : Prop := ReadsInt w .u8 A l.length (ints l)
theorem RB.below {w W : World} {A : Option Addr} {l : List UInt8} (h : RB w A l) (hb : Below w.heap.size w W) : RB W A l := ReadsInt.below h hb
theorem RB.drewN {w : World} {A : Option Addr} {l : List UInt8} (h : RB w A l) (m : Nat) : RB (w.drewN m) A l := h
theorem strOf_ints (l : List UInt8) : strOfNums (ints l) = (⟨l.toArray⟩ : ByteArray) := by
 unfold strOfNums ints
 rw [List.map_map]
 have : ((fun n : Int => UInt8.ofNat n.toNat) ∘ fun b : UInt8 => (b.toNat : Int)) = id := by
  funext b
  show UInt8.ofNat ((b.toNat : Int).toNat) = b
  rw [Int.toNat_natCast, UInt8.ofNat_toNat]
 rw [this, List.map_id]
theorem RB.str {w : World} {A : Option Addr} {l : List UInt8} (h : RB w A l) (c : Nat) : (convert 72 9 (.slice A l.length c)).run Tryz.prog w = .ok (.string ⟨l.toArray⟩) w := by
 rw [← strOf_ints]; exact string_of_reads Tryz.underlying72 Tryz.underlying5 Tryz.underlying9 h
theorem ret_b {a b : Bool} (h : a = b) : Ending.returned (.bool a) = Ending.returned (.bool b) := by rw [h]
def accS : List ByteArray → List ByteArray → ByteArray → ByteArray → Bool
 | t :: ts, s :: ss, m, g => (t.toList == m.toList && s.toList == g.toList) || accS ts ss m g
 | _, _, _, _ => false
theorem rdStr {w : World} {A : Option Addr} {n : Nat} {xs : List ByteArray} (h : Kd.string.C w A n xs) (k : Nat) (x : ByteArray) (hx : xs[k]? = some x) : ∃ ad, A = some ad ∧ w.cell? (ad.add k) = some (.string x) := by
 have hk : k < xs.length := (List.getElem?_eq_some_iff.1 hx).1
 have hn : xs.length = n := h.1
 obtain ⟨ad, c, e, _, hK, hc⟩ := Kd.C_get h ⟨#[]⟩ (k : Int) (by omega) (by omega)
 have hK' : c = [.string (xs.getD k ⟨#[]⟩)] := hK
 have hg : xs.getD k ⟨#[]⟩ = x := by rw [List.getD_eq_getElem?_getD, hx]; rfl
 subst hK'
 have := hc 0 _ rfl
 refine ⟨ad, e, ?_⟩
 rw [hg, show Kd.string.sz = 1 from rfl] at this
 simpa using this
theorem accS_drop (ts ss : List ByteArray) (m g : ByteArray) (k : Nat) {t : ByteArray} (ht : ts[k]? = some t) :
  accS (ts.drop k) (ss.drop k) m g = match ss[k]? with | some s => ((t.toList == m.toList && s.toList == g.toList) || accS (ts.drop (k + 1)) (ss.drop (k + 1)) m g) | none => false := by
 obtain ⟨hk, e⟩ := List.getElem?_eq_some_iff.1 ht
 rw [List.drop_eq_getElem_cons hk, e]
 cases hs : ss[k]? with
 | none =>
  have : ss.drop k = [] := List.drop_eq_nil_of_le (by have := List.getElem?_eq_none_iff.1 hs; omega)
  rw [this]; rfl
 | some s =>
  obtain ⟨hk', e'⟩ := List.getElem?_eq_some_iff.1 hs
  rw [List.drop_eq_getElem_cons hk', e']; rfl
set_option maxRecDepth 100000 in
set_option maxHeartbeats 2000000 in
theorem ver_verify (x : S56) (A2 : Option Addr) (c2 : Nat) (A3 : Option Addr) (c3 : Nat) (AM AG : Option Addr) (cM cG : Nat) (lM lG : List UInt8) (w : World) (h2 : Kd.string.C w A2 x.f2.length x.f2) (h3 : Kd.string.C w A3 x.f3.length x.f3)
  (hl2 : x.f2.length ≤ 2147483647) (hl3 : x.f3.length ≤ 2147483647) (hM : RB w AM lM) (hG : RB w AG lG) :
  Calls Tryz.prog 113 #[verC x A2 c2 A3 c3, .slice AM lM.length cM, .slice AG lG.length cG] w fun e w' => e = .returned (.bool (accS x.f2 x.f3 ⟨lM.toArray⟩ ⟨lG.toArray⟩)) ∧ Below w.heap.size w w' := by
 unfold verC
 generalize hsM : (⟨lM.toArray⟩ : ByteArray) = sM
 generalize hsG : (⟨lG.toArray⟩ : ByteArray) = sG
 have HM := Lib.hid hM
 have HG := Lib.hid hG
 have HSM := Lib.hid hsM
 have HSG := Lib.hid hsG
 have H2 := Lib.hid h2
 have H3 := Lib.hid h3
 clear hM hG hsM hsG h2 h3
 go_enter Tryz.func113, Tryz.ntmps113
 go_wp2
 have HB := Lib.hid ((Below.refl w.heap.size w).alloc (Nat.le_refl _) (.cells #[.string x.f0, .int .u32 x.f1, .slice A2 x.f2.length c2, .slice A3 x.f3.length c3] 130))
 have HC : Hid ((w.alloc (.cells #[.string x.f0, .int .u32 x.f1, .slice A2 x.f2.length c2, .slice A3 x.f3.length c3] 130)).cell? ⟨w.heap.size, 3, none⟩ = some (.slice A3 x.f3.length c3)) := Lib.hid (by go_simp)
 generalize w.alloc (.cells #[.string x.f0, .int .u32 x.f1, .slice A2 x.f2.length c2, .slice A3 x.f3.length c3] 130) = W1 at *
 go_loopw [13] (fun i wr => ∃ k m : Nat, k ≤ x.f2.length ∧ i = .int .i64 k ∧ wr = W1.drewN m ∧ accS x.f2 x.f3 sM sG = accS (x.f2.drop k) (x.f3.drop k) sM sG) (fun i _ => x.f2.length - (intOf i).toNat)
 case atStart => exact ⟨0, 0, Nat.zero_le _, rfl, rfl, by simp⟩
 case round =>
  obtain ⟨k, m, hk, rfl, rfl, hacc⟩ := hrel
  have HA := Lib.hid hacc
  clear hacc
  have HBm := Lib.hid (pw_below_drewN HB.out m)
  have c3' := HC.out
  by_cases hlt : k < x.f2.length
  ·obtain ⟨t, ht⟩ : ∃ t, x.f2[k]? = some t := ⟨_, List.getElem?_eq_getElem hlt⟩
   obtain ⟨ad2, rfl, e2⟩ := rdStr H2.out k t ht
   replace e2 := pw_cell_below HB.out e2
   have hstep := accS_drop x.f2 x.f3 sM sG k ht
   have HST := Lib.hid hstep
   clear hstep ht
   have cvM : ∀ j, (convert 72 9 (.slice AM lM.length cM)).run Tryz.prog (W1.drewN j) = .ok (.string sM) (W1.drewN j) := fun j => by
    rw [← HSM.out]; exact ((HM.out.below HB.out).drewN j).str cM
   have cvG : ∀ j, (convert 72 9 (.slice AG lG.length cG)).run Tryz.prog (W1.drewN j) = .ok (.string sG) (W1.drewN j) := fun j => by
    rw [← HSG.out]; exact ((HG.out.below HB.out).drewN j).str cG
   by_cases h3l : k < x.f3.length
   ·have h3b : decide (k < x.f3.length) = true := decide_eq_true h3l
    have h3i : decide ((k : Int) < (x.f3.length : Int)) = true := decide_eq_true (by omega)
    obtain ⟨s, hs⟩ : ∃ s, x.f3[k]? = some s := ⟨_, List.getElem?_eq_getElem h3l⟩
    obtain ⟨ad3, rfl, e3⟩ := rdStr H3.out k s hs
    replace e3 := pw_cell_below HB.out e3
    have HS := Lib.hid hs
    clear hs
    by_cases hb1 : (t.toList == sM.toList) = true
    ·by_cases hb2 : (s.toList == sG.toList) = true
     ·have hend : accS x.f2 x.f3 sM sG = true := by rw [HA.out, HST.out, HS.out]; simp [hb1, hb2]
      have HE := Lib.hid hend
      clear hend
      go_wp2
      go_quiet (fail)
      go_wp2
      go_ret
      exact ⟨ret_b HE.out.symm, pw_below_drewN (pw_below_drewN HB.out m) _⟩
     ·have hb2' : (s.toList == sG.toList) = false := by simpa using hb2
      have hend : accS x.f2 x.f3 sM sG = accS (x.f2.drop (k + 1)) (x.f3.drop (k + 1)) sM sG := by rw [HA.out, HST.out, HS.out]; simp [hb2']
      have HE := Lib.hid hend
      clear hend hb2
      go_wp2
      go_quiet (fail)
      go_wp2
      go_roundw
      case rel => exact ⟨k + 1, _, by omega, by go_num, rfl, HE.out⟩
      case measure => simp [intOf]; omega
    ·have hb1' : (t.toList == sM.toList) = false := by simpa using hb1
     have hend : accS x.f2 x.f3 sM sG = accS (x.f2.drop (k + 1)) (x.f3.drop (k + 1)) sM sG := by rw [HA.out, HST.out, HS.out]; simp [hb1']
     have HE := Lib.hid hend
     clear hend hb1
     go_wp2
     go_quiet (fail)
     go_wp2
     go_roundw
     case rel => exact ⟨k + 1, _, by omega, by go_num, rfl, HE.out⟩
     case measure => simp [intOf]; omega
   ·have h3b : decide (k < x.f3.length) = false := decide_eq_false h3l
    have h3i : decide ((k : Int) < (x.f3.length : Int)) = false := decide_eq_false (by omega)
    have hend : accS x.f2 x.f3 sM sG = accS (x.f2.drop (k + 1)) (x.f3.drop (k + 1)) sM sG := by
     rw [HA.out, HST.out, List.getElem?_eq_none (by omega)]
     have : x.f3.drop (k + 1) = [] := List.drop_eq_nil_of_le (by omega)
     rw [this]
     cases x.f2.drop (k + 1) <;> rfl
    have HE := Lib.hid hend
    clear hend
    go_wp2
    go_quiet (fail)
    go_wp2
    go_roundw
    case rel => exact ⟨k + 1, _, by omega, by go_num, rfl, HE.out⟩
    case measure => simp [intOf]; omega
  ·obtain rfl : k = x.f2.length := by omega
   have hend : accS x.f2 x.f3 sM sG = false := by rw [HA.out, List.drop_length]; rfl
   have HE := Lib.hid hend
   clear hend
   go_wp2
   go_ret
   exact ⟨ret_b HE.out.symm, HBm.out⟩
end Go.Proofs.YtkbegfihdpiacaaGreatDoor.PX
namespace Go.Proofs.YtkbegfihdpiacaaGreatDoor.PX
open Go.RowKit Nt Go.Lib Go.Proofs.YtkbegfihdpiacaaGreatDoorW.PrintWords Go.Proofs.YtkbegfihdpiacaaGreatDoorW.PrintLast
def nnAt (l : List UInt8) (i : Nat) : Bool := l[i]? == some 10 && l[i + 1]? == some 10
def lastN (l : List UInt8) : Nat → Option Nat
 | 0 => none
 | n + 1 => if nnAt l n = true then some n else lastN l n
def idxI : Option Nat → Int
 | none => -1
 | some i => (i : Int)
theorem lastN_lt (l : List UInt8) : ∀ n i, lastN l n = some i → i < n ∧ nnAt l i = true
 | 0, i, h => by simp [lastN] at h
 | n + 1, i, h => by
  unfold lastN at h
  split at h
  ·cases h; exact ⟨by omega, by assumption⟩
  ·have := lastN_lt l n i h; exact ⟨by omega, this.2⟩
theorem nnAt_end (l : List UInt8) (i : Nat) (h : l.length ≤ i + 1) : nnAt l i = false := by
 unfold nnAt
 rw [List.getElem?_eq_none (show l.length ≤ i + 1 from h)]
 simp
theorem lastN_end (l : List UInt8) : lastN l l.length = lastN l (l.length - 1) := by
 rcases Nat.eq_zero_or_pos l.length with h | h
 ·rw [h]
 ·obtain ⟨n, hn⟩ : ∃ n, l.length = n + 1 := ⟨l.length - 1, by omega⟩
  rw [hn]
  conv => lhs; unfold lastN
  rw [nnAt_end l n (by omega)]
  simp
def bI (l : List UInt8) (i : Nat) : Int := ((l.getD i 0).toNat : Int)
theorem bI_range (l : List UInt8) (i : Nat) : 0 ≤ bI l i ∧ bI l i ≤ 255 := by unfold bI; have := (l.getD i 0).toNat_lt; omega
theorem rd_ints (l : List UInt8) (i : Nat) : rd (ints l) (i : Int) = bI l i := by
 unfold rd bI ints
 rw [Int.toNat_natCast, List.getD_eq_getElem?_getD, List.getElem?_map, List.getD_eq_getElem?_getD]
 cases l[i]? <;> rfl
theorem nnAt_iff (l : List UInt8) (i : Nat) (h : i + 1 < l.length) : nnAt l i = true ↔ bI l i = 10 ∧ bI l (i + 1) = 10 := by
 unfold nnAt bI
 rw [List.getElem?_eq_getElem (show i < l.length by omega), List.getElem?_eq_getElem h, List.getD_eq_getElem?_getD, List.getD_eq_getElem?_getD, List.getElem?_eq_getElem (show i < l.length by omega), List.getElem?_eq_getElem h]
 have e : ∀ b : UInt8, (b = 10) ↔ ((b.toNat : Int) = 10) := fun b => by
  constructor
  ·rintro rfl; rfl
  ·intro h; exact UInt8.toNat_inj.1 (by have : (10 : UInt8).toNat = 10 := rfl; omega)
 simp only [Bool.and_eq_true, beq_iff_eq, Option.some.injEq, Option.getD_some]
 rw [e, e]
def hs2 (l : List UInt8) (i : Nat) : Int := (bI l (i + 1) * 16777619 + bI l i) % 4294967296
theorem hs2_roll (a b c : Int) (ha : 0 ≤ a ∧ a ≤ 255) (hb : 0 ≤ b ∧ b ≤ 255) (hc : 0 ≤ c ∧ c ≤ 255) :
  ((((((c * 16777619 + b) % 4294967296 * 16777619) % 4294967296) + (a % 4294967296)) % 4294967296) - ((637696617 * (c % 4294967296)) % 4294967296)) % 4294967296 = (b * 16777619 + a) % 4294967296 := by
 omega
theorem hash2 : PY.bytealg_hashStrRev_byte.f 10 [10, 10] = some (167776200, 637696617) := by decide +kernel
theorem str2 (l : List UInt8) (i : Nat) (h : i + 1 < l.length) : (strOfNums (((ints l).take (i + 2)).drop i)).toList = (strOfNums [10, 10]).toList ↔ nnAt l i = true := by
 rw [ByteArray.toList_eq, ByteArray.toList_eq, strOfNums_data, strOfNums_data]
 have e : ((ints l).take (i + 2)).drop i = [bI l i, bI l (i + 1)] := by
  have hl : (ints l).length = l.length := ints_length l
  rw [List.drop_take, show i + 2 - i = 2 by omega, List.drop_eq_getElem_cons (by omega), List.drop_eq_getElem_cons (by omega)]
  simp only [List.take_succ_cons, List.take_zero]
  unfold bI ints
  simp [List.getD_eq_getElem?_getD, List.getElem?_eq_getElem (show i < l.length by omega), List.getElem?_eq_getElem h]
 rw [e, nnAt_iff l i h]
 have hr := bI_range l i
 have hr' := bI_range l (i + 1)
 simp only [List.map_cons, List.map_nil, List.cons.injEq, and_true]
 have e1 : ∀ x : Int, 0 ≤ x ∧ x ≤ 255 → (UInt8.ofNat x.toNat = UInt8.ofNat (10 : Int).toNat ↔ x = 10) := fun x hx => by
  constructor
  ·intro h
   have := congrArg UInt8.toNat h
   simp at this
   omega
  ·rintro rfl; rfl
 rw [e1 _ hr, e1 _ hr']
theorem rk_l1 (l : List UInt8) (hl : l.length ≤ 2147483647) : ∀ n, n + 1 < l.length → ∃ k, PY.bytealg_LastIndexRabinKarp_byte.l1 k (ints l) [10, 10] 167776200 637696617 2 (hs2 l n) ((n : Int) - 1) = some (idxI (lastN l n))
 | 0, h => ⟨1, by unfold PY.bytealg_LastIndexRabinKarp_byte.l1; rw [if_neg (by omega)]; rfl⟩
 | n + 1, h => by
  obtain ⟨k, hk⟩ := rk_l1 l hl n (by omega)
  refine ⟨k + 1, ?_⟩
  have hil : ((ints l).length : Int) = (l.length : Int) := by rw [ints_length]
  have e0 : (((n + 1 : Nat) : Int) - 1) = (n : Int) := by omega
  have e1 : wrap64 ((n : Int) + 2) = ((n + 2 : Nat) : Int) := by rw [IntWalk.wrap64_in _ ⟨by omega, by omega⟩]; omega
  have e2 : wrap64 ((n : Int) - 1) = (n : Int) - 1 := IntWalk.wrap64_in _ ⟨by omega, by omega⟩
  unfold PY.bytealg_LastIndexRabinKarp_byte.l1
  rw [e0, e1, e2, hil]
  rw [if_pos (by omega), if_pos (by omega), if_pos (by omega), if_pos (by omega), if_pos (by omega)]
  rw [rd_ints, rd_ints]
  have hroll : ((((((hs2 l (n + 1)) * 16777619) % 4294967296) + ((bI l n) % 4294967296)) % 4294967296) - ((637696617 * ((bI l (n + 2)) % 4294967296)) % 4294967296)) % 4294967296 = hs2 l n :=
   hs2_roll _ _ _ (bI_range l n) (bI_range l (n + 1)) (bI_range l (n + 2))
  rw [hroll]
  have hstr := str2 l n (by omega)
  rw [Int.toNat_natCast, Int.toNat_natCast]
  by_cases hnn : nnAt l n = true
  ·have hh : hs2 l n = 167776200 := by
    obtain ⟨a, b⟩ := (nnAt_iff l n (by omega)).1 hnn
    unfold hs2; rw [a, b]; rfl
   rw [if_pos hh, if_pos (by omega), if_pos (by omega), if_pos (hstr.2 hnn)]
   unfold lastN; rw [if_pos hnn]; rfl
  ·have hl1 : lastN l (n + 1) = lastN l n := by
    rw [lastN]; exact if_neg hnn
   rw [hl1]
   by_cases hh : hs2 l n = 167776200
   ·rw [if_pos hh, if_pos (by omega), if_pos (by omega), if_neg (fun e => hnn (hstr.1 e))]
    exact hk
   ·rw [if_neg hh]; exact hk
theorem last_eq (l : List UInt8) (hl : l.length ≤ 2147483647) : ∃ k, PY.bytes_LastIndex.f k (ints l) [10, 10] = some (idxI (lastN l l.length)) := by
 have hil : ((ints l).length : Int) = (l.length : Int) := by rw [ints_length]
 unfold PY.bytes_LastIndex.f
 simp only [List.length_cons, List.length_nil, hil]
 by_cases h2 : l.length = 2
 ·refine ⟨0, ?_⟩
  rw [if_neg (by omega), if_neg (by omega), if_pos (by omega)]
  unfold PY.bytes_Equal.f
  simp only [Option.bind_some]
  have hs := str2 l 0 (by omega)
  rw [show ((ints l).take (0 + 2)).drop 0 = ints l by rw [List.drop_zero]; exact List.take_of_length_le (by rw [ints_length]; omega)] at hs
  rw [lastN_end, h2]
  show _ = some (idxI (lastN l 1))
  by_cases hnn : nnAt l 0 = true
  ·rw [if_pos (by rw [hs.2 hnn]; simp)]
   unfold lastN; rw [if_pos hnn]; rfl
  ·rw [if_neg (by simp only [beq_iff_eq]; exact fun e => hnn (hs.1 e))]
   unfold lastN; rw [if_neg hnn]; rfl
 ·by_cases h3 : l.length < 2
  ·refine ⟨0, ?_⟩
   rw [if_neg (by omega), if_neg (by omega), if_neg (by omega), if_pos (by omega)]
   rw [lastN_end]
   have : l.length - 1 = 0 := by omega
   rw [this]; rfl
  ·obtain ⟨n, hn⟩ : ∃ n, l.length = n + 3 := ⟨l.length - 3, by omega⟩
   obtain ⟨k1, hk1⟩ := rk_l1 l hl (n + 1) (by omega)
   have key : ∃ k, PY.bytealg_LastIndexRabinKarp_byte.l0 k (ints l) [10, 10] 167776200 637696617 2 (wrap64 ((l.length : Int) - 2)) 0 (wrap64 ((l.length : Int) - 1)) = some (idxI (lastN l l.length)) := by
    refine ⟨k1 + 4, ?_⟩
    have e1 : wrap64 ((l.length : Int) - 2) = ((n + 1 : Nat) : Int) := by rw [IntWalk.wrap64_in _ ⟨by omega, by omega⟩]; omega
    have e2 : wrap64 ((l.length : Int) - 1) = ((n + 2 : Nat) : Int) := by rw [IntWalk.wrap64_in _ ⟨by omega, by omega⟩]; omega
    have e3 : wrap64 (((n + 2 : Nat) : Int) - 1) = ((n + 1 : Nat) : Int) := by rw [IntWalk.wrap64_in _ ⟨by omega, by omega⟩]; omega
    have e4 : wrap64 (((n + 1 : Nat) : Int) - 1) = (n : Int) := by rw [IntWalk.wrap64_in _ ⟨by omega, by omega⟩]; omega
    rw [e1, e2]
    have r2 := bI_range l (n + 2)
    have r1 := bI_range l (n + 1)
    unfold PY.bytealg_LastIndexRabinKarp_byte.l0
    rw [if_pos (by omega), if_pos (by omega), if_pos (by rw [hil]; omega), e3, rd_ints]
    unfold PY.bytealg_LastIndexRabinKarp_byte.l0
    rw [if_pos (by omega), if_pos (by omega), if_pos (by rw [hil]; omega), e4, rd_ints]
    have hh : ((((((0 * 16777619) % 4294967296 + (bI l (n + 2)) % 4294967296) % 4294967296) * 16777619) % 4294967296) + ((bI l (n + 1)) % 4294967296)) % 4294967296 = hs2 l (n + 1) := by unfold hs2; show _ = (bI l (n + 2) * 16777619 + bI l (n + 1)) % 4294967296; omega
    rw [hh]
    unfold PY.bytealg_LastIndexRabinKarp_byte.l0
    rw [if_neg (by omega)]
    have hstr := str2 l (n + 1) (by omega)
    have hdrop : ((ints l).take (n + 1 + 2)).drop (n + 1) = (ints l).drop ((n + 1 : Nat) : Int).toNat := by rw [Int.toNat_natCast, List.take_of_length_le (by rw [ints_length]; omega)]
    rw [hdrop] at hstr
    have hlast : lastN l l.length = lastN l (n + 2) := by rw [lastN_end, hn]; rfl
    rw [hlast]
    have hj : ∀ b : Bool, (b = true ↔ nnAt l (n + 1) = true) → PY.bytealg_LastIndexRabinKarp_byte.j1 (k1 + 1) (ints l) [10, 10] 167776200 637696617 2 ((n + 1 : Nat) : Int) (hs2 l (n + 1)) b = some (idxI (lastN l (n + 2))) := by
     intro b hb
     rw [PY.bytealg_LastIndexRabinKarp_byte.j1]
     by_cases hnn : nnAt l (n + 1) = true
     ·rw [if_pos (hb.2 hnn)]
      rw [show lastN l (n + 2) = some (n + 1) by rw [lastN]; exact if_pos hnn]; rfl
     ·rw [if_neg (fun e => hnn (hb.1 e))]
      rw [show lastN l (n + 2) = lastN l (n + 1) by rw [lastN]; exact if_neg hnn, e4]
      have : (n : Int) = ((n + 1 : Nat) : Int) - 1 := by omega
      rw [this]
      exact hk1
    by_cases hh2 : hs2 l (n + 1) = 167776200
    ·rw [if_pos hh2, if_pos (by omega), if_pos (by rw [hil]; omega)]
     refine hj _ ?_
     rw [beq_iff_eq]; exact hstr
    ·rw [if_neg hh2]
     refine hj _ ⟨fun h => (by cases h), fun hnn => absurd ?_ hh2⟩
     obtain ⟨a, b⟩ := (nnAt_iff l (n + 1) (by omega)).1 hnn
     unfold hs2; rw [a, b]; rfl
   obtain ⟨k, hk⟩ := key
   have h10 : ∃ K, PY.bytealg_hashStrRev_byte.f K [10, 10] = some (167776200, 637696617) ∧ PY.bytealg_LastIndexRabinKarp_byte.l0 K (ints l) [10, 10] 167776200 637696617 2 (wrap64 ((l.length : Int) - 2)) 0 (wrap64 ((l.length : Int) - 1)) = some (idxI (lastN l l.length)) :=
    together (PY.bytealg_hashStrRev_byte.mono _) (fun k => (PY.bytealg_LastIndexRabinKarp_byte.mono_l k).1 _ _ _ _ _ _ _ _) ⟨10, hash2⟩ ⟨k, hk⟩
   obtain ⟨K, hK1, hK2⟩ := h10
   refine ⟨K, ?_⟩
   rw [if_neg (by omega), if_neg (by omega), if_neg (by omega), if_neg (by omega)]
   unfold PY.bytealg_LastIndexRabinKarp_byte.f
   rw [hK1]
   simp only [Option.bind_some, List.length_cons, List.length_nil, hil]
   rw [show (((0 + 1 + 1 : Nat)) : Int) = 2 from rfl, hK2]
   rfl
end Go.Proofs.YtkbegfihdpiacaaGreatDoor.PX
namespace Go.Proofs.YtkbegfihdpiacaaGreatDoor.PX
open Go.RowKit Go.Proofs.YtkbegfihdpiacaaGreatDoorW.PrintWords Go.Proofs.YtkbegfihdpiacaaGreatDoorW.PrintLast Go.Proofs.YtkbegfihdpiacaaGreatDoorW.PrintMore
attribute [local go_sem] max2_int min2_int max_two min_two max_three min_three max_four min_four   -- for this text's walks alone
mutual
def spec_Small.j0 : Nat → List (S35) → Bool → ByteArray → List (S49) → List (S49) → Option (Bool)
 | 0, _, _, _, _, _ => none
 | k + 1, x1, x29, x251000, x251001, x251002 => if x29 = true then (some false) else ((some (([] : List (S49)) : List (S49))).bind fun y251 => (if y251.length + x251001.length < 3518437208883 then ((some (y251 ++ x251001 : List (S49))).bind fun y254 => (if y254.length + x251002.length < 3518437208883 then ((some (y254 ++ x251002 : List (S49))).bind fun y257 => (spec_Small.l0 k x1 y257 (y257.length : Int) 0)) else (none))) else (none)))
def spec_Small.l0 : Nat → List (S35) → List (S49) → Int → Int → Option (Bool)
 | 0, _, _, _, _ => none
 | k + 1, x1, x36, x37, x38 => if x38 < x37 then (if 0 ≤ x38 then (if x38 < (x36.length : Int) then (if (((rd_T49 x36 x38).f0).size : Int) > 60 then (some false) else (if (((rd_T49 x36 x38).f2).size : Int) > 120 then (some false) else (spec_Small.l0 k x1 x36 x37 (wrap64 (x38 + 1))))) else (none)) else (none)) else (spec_Small.l1 k x1 (x1.length : Int) 0)
def spec_Small.l1 : Nat → List (S35) → Int → Int → Option (Bool)
 | 0, _, _, _ => none
 | k + 1, x53, x54, x55 => if x55 < x54 then (if 0 ≤ x55 then (if x55 < (x53.length : Int) then (if (((rd_T35 x53 x55).f0).size : Int) > 60 then (some false) else (if (((rd_T35 x53 x55).f2).size : Int) > 60 then (some false) else (spec_Small.l1 k x53 x54 (wrap64 (x55 + 1))))) else (none)) else (none)) else (some true)
end
def spec_Small.f (k : Nat) (a0_0 : ByteArray) (l0_1 : List (S49)) (l0_2 : List (S49)) (l1 : List (S35)) : Option (Bool) := if (a0_0.size : Int) > 2000 then (spec_Small.j0 k l1 true a0_0 l0_1 l0_2) else (if (l0_1.length : Int) > 8 then (spec_Small.j0 k l1 true a0_0 l0_1 l0_2) else (if (l0_2.length : Int) > 8 then (spec_Small.j0 k l1 true a0_0 l0_1 l0_2) else (spec_Small.j0 k l1 (decide ((l1.length : Int) > 8)) a0_0 l0_1 l0_2)))
theorem spec_Small.mono_l : ∀ k, (∀ y0 y1 y2 y3 y4, LeO (spec_Small.j0 k y0 y1 y2 y3 y4) (spec_Small.j0 (k + 1) y0 y1 y2 y3 y4)) ∧ (∀ y0 y1 y2 y3, LeO (spec_Small.l0 k y0 y1 y2 y3) (spec_Small.l0 (k + 1) y0 y1 y2 y3)) ∧ (∀ y0 y1 y2, LeO (spec_Small.l1 k y0 y1 y2) (spec_Small.l1 (k + 1) y0 y1 y2))
 | 0 => ⟨fun _ _ _ _ _ r h => by simp [spec_Small.j0] at h, fun _ _ _ _ r h => by simp [spec_Small.l0] at h, fun _ _ _ r h => by simp [spec_Small.l1] at h⟩
 | k + 1 => by
  obtain ⟨ih0, ih1, ih2⟩ := spec_Small.mono_l k
  refine ⟨?_, ?_, ?_⟩
  ·intro y0 y1 y2 y3 y4
   unfold spec_Small.j0
   repeat' first
   | (with_reducible exact ih0 _ _ _ _ _)
   | (with_reducible exact ih1 _ _ _ _)
   | (with_reducible exact ih2 _ _ _)
   | (with_reducible exact LeO.refl _)
   | (with_reducible exact LeO.none _)
   | (with_reducible refine LeO.ite ?_ ?_)
   | (with_reducible refine LeO.bind ?_ (fun _ => ?_))
   | exact ih0 _ _ _ _ _
   | exact ih1 _ _ _ _
   | exact ih2 _ _ _
   | exact LeO.none _
   | refine LeO.ite ?_ ?_
   | refine LeO.bind ?_ (fun _ => ?_)
  ·intro y0 y1 y2 y3
   unfold spec_Small.l0
   repeat' first
   | (with_reducible exact ih0 _ _ _ _ _)
   | (with_reducible exact ih1 _ _ _ _)
   | (with_reducible exact ih2 _ _ _)
   | (with_reducible exact LeO.refl _)
   | (with_reducible exact LeO.none _)
   | (with_reducible refine LeO.ite ?_ ?_)
   | (with_reducible refine LeO.bind ?_ (fun _ => ?_))
   | exact ih0 _ _ _ _ _
   | exact ih1 _ _ _ _
   | exact ih2 _ _ _
   | exact LeO.none _
   | refine LeO.ite ?_ ?_
   | refine LeO.bind ?_ (fun _ => ?_)
  ·intro y0 y1 y2
   unfold spec_Small.l1
   repeat' first
   | (with_reducible exact ih0 _ _ _ _ _)
   | (with_reducible exact ih1 _ _ _ _)
   | (with_reducible exact ih2 _ _ _)
   | (with_reducible exact LeO.refl _)
   | (with_reducible exact LeO.none _)
   | (with_reducible refine LeO.ite ?_ ?_)
   | (with_reducible refine LeO.bind ?_ (fun _ => ?_))
   | exact ih0 _ _ _ _ _
   | exact ih1 _ _ _ _
   | exact ih2 _ _ _
   | exact LeO.none _
   | refine LeO.ite ?_ ?_
   | refine LeO.bind ?_ (fun _ => ?_)
theorem spec_Small.mono : ∀ a0 a1 a2 a3 k, LeO (spec_Small.f k a0 a1 a2 a3) (spec_Small.f (k + 1) a0 a1 a2 a3) := by
 intro a0 a1 a2 a3 k
 obtain ⟨ih0, ih1, ih2⟩ := spec_Small.mono_l k
 unfold spec_Small.f
 repeat' first
   | (with_reducible exact ih0 _ _ _ _ _)
   | (with_reducible exact ih1 _ _ _ _)
   | (with_reducible exact ih2 _ _ _)
   | (with_reducible exact LeO.refl _)
   | (with_reducible exact LeO.none _)
   | (with_reducible refine LeO.ite ?_ ?_)
   | (with_reducible refine LeO.bind ?_ (fun _ => ?_))
   | exact ih0 _ _ _ _ _
   | exact ih1 _ _ _ _
   | exact ih2 _ _ _
   | exact LeO.none _
   | refine LeO.ite ?_ ?_
   | refine LeO.bind ?_ (fun _ => ?_)
def spec_Small.B3 : List Nat := [0, 0, 2, 7, 0, 16, 63, 127, 0]
def bytealg_LastIndexByte.l0 : Nat → List Int → Int → Int → Option (Int)
 | 0, _, _, _ => none
 | k + 1, x0, x1, x5 => if x5 ≥ 0 then (if 0 ≤ x5 then (if x5 < (x0.length : Int) then (if (rd x0 x5) = x1 then (some x5) else (bytealg_LastIndexByte.l0 k x0 x1 (wrap64 (x5 - 1)))) else (none)) else (none)) else (some (-1))
def bytealg_LastIndexByte.f (k : Nat) (l0 : List Int) (a1 : Int) : Option (Int) := bytealg_LastIndexByte.l0 k l0 a1 (wrap64 ((l0.length : Int) - 1))
theorem bytealg_LastIndexByte.mono_l : ∀ k, (∀ y0 y1 y2, LeO (bytealg_LastIndexByte.l0 k y0 y1 y2) (bytealg_LastIndexByte.l0 (k + 1) y0 y1 y2))
 | 0 => fun _ _ _ r h => by simp [bytealg_LastIndexByte.l0] at h
 | k + 1 => by
  have ih0 := bytealg_LastIndexByte.mono_l k
  ·intro y0 y1 y2
   unfold bytealg_LastIndexByte.l0
   repeat' first
   | (with_reducible exact ih0 _ _ _)
   | (with_reducible exact LeO.refl _)
   | (with_reducible exact LeO.none _)
   | (with_reducible refine LeO.ite ?_ ?_)
   | (with_reducible refine LeO.bind ?_ (fun _ => ?_))
   | exact ih0 _ _ _
   | exact LeO.none _
   | refine LeO.ite ?_ ?_
   | refine LeO.bind ?_ (fun _ => ?_)
theorem bytealg_LastIndexByte.mono : ∀ a0 a1 k, LeO (bytealg_LastIndexByte.f k a0 a1) (bytealg_LastIndexByte.f (k + 1) a0 a1) := by
 intro a0 a1 k
 have ih0 := bytealg_LastIndexByte.mono_l k
 unfold bytealg_LastIndexByte.f
 repeat' first
   | (with_reducible exact ih0 _ _ _)
   | (with_reducible exact LeO.refl _)
   | (with_reducible exact LeO.none _)
   | (with_reducible refine LeO.ite ?_ ?_)
   | (with_reducible refine LeO.bind ?_ (fun _ => ?_))
   | exact ih0 _ _ _
   | exact LeO.none _
   | refine LeO.ite ?_ ?_
   | refine LeO.bind ?_ (fun _ => ?_)
set_option maxHeartbeats 8000000 in
set_option maxRecDepth 100000 in
theorem bytealg_LastIndexByte.calls (k : Nat) (A0 : Option Addr) (c0 : Nat) (l0 : List Int) (a1 : Int) (r : Int) (w : World) (hr0 : Kd.C (Kd.int .u8) w A0 l0.length l0) (hc0 : l0.length ≤ c0) (h : bytealg_LastIndexByte.f k l0 a1 = some r) :
  Calls Tryz.prog 55 #[.slice A0 l0.length c0, .int .u8 a1] w fun e w' => e = .returned (.int .i64 r) ∧ Drawn0 w w' := by
 have HR0 := Aside0.mk hr0
 have HC0 := Aside0.mk hc0
 clear hr0 hc0
 have H : (bytealg_LastIndexByte.l0 k l0 a1 (wrap64 ((l0.length : Int) - 1))) = some r := h
 clear h
 have H' := Aside0.mk H
 clear H
 go_enter Tryz.func55, Tryz.ntmps55
 go_wp2
 go_loopg [5] k (fun kq v5 w' => ∃ (x5_1 : Int), v5 = .int .i64 x5_1 ∧ Aside0 (bytealg_LastIndexByte.l0 kq l0 a1 x5_1 = some r) ∧ Aside0 (kq ≤ k) ∧ Drawn0 w w')
 case atStart => exact ⟨(wrap64 ((l0.length : Int) - 1)), (by first | rfl | (simp; done) | (simp [*]; done)), H', ⟨Nat.le_refl _⟩, by repeat (first | exact Drawn0.refl _ | apply Drawn0.step)⟩
 case round =>
  clear H'
  try clear p2
  obtain ⟨x5_1, rfl, HA, HK1, ⟨m1, rfl⟩⟩ := hrel
  cases gk with
  | zero => exact absurd HA.out (by simp [bytealg_LastIndexByte.l0])
  | succ k1 =>
   have H := HA.out
   clear HA
   simp only [bytealg_LastIndexByte.l0] at H
   by_cases c3 : x5_1 ≥ 0
   ·rw [if_pos c3] at H
    have c3b0 : decide (0 ≤ x5_1) = true := decide_eq_true c3
    clear c3
    by_cases c4 : 0 ≤ x5_1
    ·rw [if_pos c4] at H
     have c4b0 : decide (0 ≤ x5_1) = true := decide_eq_true c4
     clear c4
     by_cases c5 : x5_1 < (l0.length : Int)
     ·rw [if_pos c5] at H
      have c5b0 : decide (x5_1 < (l0.length : Int)) = true := decide_eq_true c5
      clear c5
      by_cases c6 : (rd l0 x5_1) = a1
      ·rw [if_pos c6] at H
       have c6b0 : ((rd l0 x5_1) == a1) = true := beq_iff_eq.mpr c6
       have c6b1 : ((rd l0 x5_1) != a1) = false := bne_eq_false_iff_eq.mpr c6
       clear c6
       obtain rfl := Option.some.inj H
       have p266 : 0 ≤ (x5_1 : Int) := of_decide_eq_true (by first | (with_reducible assumption) | assumption)
       have q266 : x5_1 < (l0.length : Int) := of_decide_eq_true (by first | (with_reducible assumption) | assumption)
       obtain ⟨ad266, e266, hx266_0⟩ := Kd.at_int HR0.out x5_1 p266 q266
       cases e266
       replace p266 := eq_true p266
       replace q266 := eq_true q266
       go_wp2
       go_ret
       exact ⟨by first | rfl | (simp; done) | (simp [*]; done), by repeat (first | exact Drawn0.refl _ | apply Drawn0.step)⟩
      ·rw [if_neg c6] at H
       have c6b0 : ((rd l0 x5_1) == a1) = false := beq_eq_false_iff_ne.mpr c6
       have c6b1 : ((rd l0 x5_1) != a1) = true := bne_iff_ne.mpr c6
       have H' := Aside0.mk H
       clear H
       have p266 : 0 ≤ (x5_1 : Int) := of_decide_eq_true (by first | (with_reducible assumption) | assumption)
       have q266 : x5_1 < (l0.length : Int) := of_decide_eq_true (by first | (with_reducible assumption) | assumption)
       obtain ⟨ad266, e266, hx266_0⟩ := Kd.at_int HR0.out x5_1 p266 q266
       cases e266
       replace p266 := eq_true p266
       replace q266 := eq_true q266
       go_wp2
       go_roundg k1
       case measure => have := HK1.out; omega
       case rel => exact ⟨(wrap64 (x5_1 - 1)), (by first | rfl | (simp; done) | (simp [*]; done)), H', ⟨by have := HK1.out; omega⟩, by repeat (first | exact Drawn0.refl _ | apply Drawn0.step)⟩
     ·rw [if_neg c5] at H
      exact absurd H (by simp)
    ·rw [if_neg c4] at H
     exact absurd H (by simp)
   ·rw [if_neg c3] at H
    have c3b0 : decide (0 ≤ x5_1) = false := decide_eq_false c3
    clear c3
    obtain rfl := Option.some.inj H
    go_wp2
    go_ret
    exact ⟨by first | rfl | (simp; done) | (simp [*]; done), by repeat (first | exact Drawn0.refl _ | apply Drawn0.step)⟩
def bytes_Equal.f (l0 : List Int) (l1 : List Int) : Option (Bool) := some ((strOfNums l0).toList == (strOfNums l1).toList)
set_option maxHeartbeats 8000000 in
set_option maxRecDepth 100000 in
theorem bytes_Equal.calls (A0 : Option Addr) (c0 : Nat) (l0 : List Int) (A1 : Option Addr) (c1 : Nat) (l1 : List Int) (r : Bool) (w : World) (hr0 : Kd.C (Kd.int .u8) w A0 l0.length l0) (hc0 : l0.length ≤ c0) (hr1 : Kd.C (Kd.int .u8) w A1 l1.length l1) (hc1 : l1.length ≤ c1) (h : bytes_Equal.f l0 l1 = some r) :
  Calls Tryz.prog 56 #[.slice A0 l0.length c0, .slice A1 l1.length c1] w fun e w' => e = .returned (.bool r) ∧ Drawn0 w w' := by
 have HR0 := Aside0.mk hr0
 have HC0 := Aside0.mk hc0
 clear hr0 hc0
 have HR1 := Aside0.mk hr1
 have HC1 := Aside0.mk hc1
 clear hr1 hc1
 have H : (some ((strOfNums l0).toList == (strOfNums l1).toList)) = some r := h
 clear h
 obtain rfl := Option.some.inj H
 have hcv3 := Kd.C_string (P := Tryz.prog) (A := A0) (c := c0) Tryz.underlying72 Tryz.underlying5 Tryz.underlying9 HR0.out
 have hcv4 := Kd.C_string (P := Tryz.prog) (A := A1) (c := c1) Tryz.underlying72 Tryz.underlying5 Tryz.underlying9 HR1.out
 go_enter Tryz.func56, Tryz.ntmps56
 go_wp2
 go_ret
 exact ⟨by first | rfl | (simp; done) | (simp [*]; done), by repeat (first | exact Drawn0.refl _ | apply Drawn0.step)⟩
end Go.Proofs.YtkbegfihdpiacaaGreatDoor.PX
namespace Go.Proofs.YtkbegfihdpiacaaGreatDoor.PX
open Go.RowKit Go.Proofs.YtkbegfihdpiacaaGreatDoorW.PrintWords Go.Proofs.YtkbegfihdpiacaaGreatDoorW.PrintLast Go.Proofs.YtkbegfihdpiacaaGreatDoorW.PrintMore
attribute [local go_sem] max2_int min2_int max_two min_two max_three min_three max_four min_four   -- for this text's walks alone
mutual
def bytealg_hashStrRev_byte.l0 : Nat → List Int → Int → Int → Option (Int × Int)
 | 0, _, _, _ => none
 | k + 1, x0, x4, x5 => if x5 ≥ 0 then (if 0 ≤ x5 then (if x5 < (x0.length : Int) then (bytealg_hashStrRev_byte.l0 k x0 ((((x4 * 16777619) % 4294967296) + ((rd x0 x5) % 4294967296)) % 4294967296) (wrap64 (x5 - 1))) else (none)) else (none)) else (bytealg_hashStrRev_byte.l1 k x4 1 16777619 (x0.length : Int))
def bytealg_hashStrRev_byte.l1 : Nat → Int → Int → Int → Int → Option (Int × Int)
 | 0, _, _, _, _ => none
 | k + 1, x4, x6, x7, x8 => if x8 > 0 then (if (Go.bits .and .i64 x8 1) = 0 then (bytealg_hashStrRev_byte.l1 k x4 x6 ((x7 * x7) % 4294967296) (x8 / 2)) else (bytealg_hashStrRev_byte.l1 k x4 ((x6 * x7) % 4294967296) ((x7 * x7) % 4294967296) (x8 / 2))) else (some (x4, x6))
end
def bytealg_hashStrRev_byte.f (k : Nat) (l0 : List Int) : Option (Int × Int) := bytealg_hashStrRev_byte.l0 k l0 0 (wrap64 ((l0.length : Int) - 1))
theorem bytealg_hashStrRev_byte.mono_l : ∀ k, (∀ y0 y1 y2, LeO (bytealg_hashStrRev_byte.l0 k y0 y1 y2) (bytealg_hashStrRev_byte.l0 (k + 1) y0 y1 y2)) ∧ (∀ y0 y1 y2 y3, LeO (bytealg_hashStrRev_byte.l1 k y0 y1 y2 y3) (bytealg_hashStrRev_byte.l1 (k + 1) y0 y1 y2 y3))
 | 0 => ⟨fun _ _ _ r h => by simp [bytealg_hashStrRev_byte.l0] at h, fun _ _ _ _ r h => by simp [bytealg_hashStrRev_byte.l1] at h⟩
 | k + 1 => by
  obtain ⟨ih0, ih1⟩ := bytealg_hashStrRev_byte.mono_l k
  refine ⟨?_, ?_⟩
  ·intro y0 y1 y2
   unfold bytealg_hashStrRev_byte.l0
   repeat' first
   | (with_reducible exact ih0 _ _ _)
   | (with_reducible exact ih1 _ _ _ _)
   | (with_reducible exact LeO.refl _)
   | (with_reducible exact LeO.none _)
   | (with_reducible refine LeO.ite ?_ ?_)
   | (with_reducible refine LeO.bind ?_ (fun _ => ?_))
   | exact ih0 _ _ _
   | exact ih1 _ _ _ _
   | exact LeO.none _
   | refine LeO.ite ?_ ?_
   | refine LeO.bind ?_ (fun _ => ?_)
  ·intro y0 y1 y2 y3
   unfold bytealg_hashStrRev_byte.l1
   repeat' first
   | (with_reducible exact ih0 _ _ _)
   | (with_reducible exact ih1 _ _ _ _)
   | (with_reducible exact LeO.refl _)
   | (with_reducible exact LeO.none _)
   | (with_reducible refine LeO.ite ?_ ?_)
   | (with_reducible refine LeO.bind ?_ (fun _ => ?_))
   | exact ih0 _ _ _
   | exact ih1 _ _ _ _
   | exact LeO.none _
   | refine LeO.ite ?_ ?_
   | refine LeO.bind ?_ (fun _ => ?_)
theorem bytealg_hashStrRev_byte.mono : ∀ a0 k, LeO (bytealg_hashStrRev_byte.f k a0) (bytealg_hashStrRev_byte.f (k + 1) a0) := by
 intro a0 k
 obtain ⟨ih0, ih1⟩ := bytealg_hashStrRev_byte.mono_l k
 unfold bytealg_hashStrRev_byte.f
 repeat' first
   | (with_reducible exact ih0 _ _ _)
   | (with_reducible exact ih1 _ _ _ _)
   | (with_reducible exact LeO.refl _)
   | (with_reducible exact LeO.none _)
   | (with_reducible refine LeO.ite ?_ ?_)
   | (with_reducible refine LeO.bind ?_ (fun _ => ?_))
   | exact ih0 _ _ _
   | exact ih1 _ _ _ _
   | exact LeO.none _
   | refine LeO.ite ?_ ?_
   | refine LeO.bind ?_ (fun _ => ?_)
set_option maxHeartbeats 8000000 in
set_option maxRecDepth 100000 in
theorem bytealg_hashStrRev_byte.calls (k : Nat) (A0 : Option Addr) (c0 : Nat) (l0 : List Int) (r1 : Int) (r2 : Int) (w : World) (hr0 : Kd.C (Kd.int .u8) w A0 l0.length l0) (hc0 : l0.length ≤ c0) (h : bytealg_hashStrRev_byte.f k l0 = some (r1, r2)) :
  Calls Tryz.prog 72 #[.slice A0 l0.length c0] w fun e w' => e = .returned (.tuple #[.int .u32 r1, .int .u32 r2]) ∧ Drawn0 w w' := by
 have HR0 := Aside0.mk hr0
 have HC0 := Aside0.mk hc0
 clear hr0 hc0
 have H : (bytealg_hashStrRev_byte.l0 k l0 0 (wrap64 ((l0.length : Int) - 1))) = some (r1, r2) := h
 clear h
 have H' := Aside0.mk H
 clear H
 go_enter Tryz.func72, Tryz.ntmps72
 go_wp2
 go_loopg [4, 5] k (fun kq v4 v5 w' => ∃ (x4_1 : Int) (x5_1 : Int), v4 = .int .u32 x4_1 ∧ v5 = .int .i64 x5_1 ∧ Aside0 (bytealg_hashStrRev_byte.l0 kq l0 x4_1 x5_1 = some (r1, r2)) ∧ Aside0 (kq ≤ k) ∧ Drawn0 w w')
 case atStart => exact ⟨(0), (wrap64 ((l0.length : Int) - 1)), (by first | rfl | (simp; done) | (simp [*]; done)), (by first | rfl | (simp; done) | (simp [*]; done)), H', ⟨Nat.le_refl _⟩, by repeat (first | exact Drawn0.refl _ | apply Drawn0.step)⟩
 case round =>
  clear H'
  obtain ⟨x4_1, x5_1, rfl, rfl, HA, HK1, ⟨m1, rfl⟩⟩ := hrel
  cases gk with
  | zero => exact absurd HA.out (by simp [bytealg_hashStrRev_byte.l0])
  | succ k1 =>
   have H := HA.out
   clear HA
   simp only [bytealg_hashStrRev_byte.l0] at H
   by_cases c2 : x5_1 ≥ 0
   ·rw [if_pos c2] at H
    have c2b0 : decide (0 ≤ x5_1) = true := decide_eq_true c2
    clear c2
    by_cases c3 : 0 ≤ x5_1
    ·rw [if_pos c3] at H
     have c3b0 : decide (0 ≤ x5_1) = true := decide_eq_true c3
     clear c3
     by_cases c4 : x5_1 < (l0.length : Int)
     ·rw [if_pos c4] at H
      have c4b0 : decide (x5_1 < (l0.length : Int)) = true := decide_eq_true c4
      clear c4
      have H' := Aside0.mk H
      clear H
      have p267 : 0 ≤ (x5_1 : Int) := of_decide_eq_true (by first | (with_reducible assumption) | assumption)
      have q267 : x5_1 < (l0.length : Int) := of_decide_eq_true (by first | (with_reducible assumption) | assumption)
      obtain ⟨ad267, e267, hx267_0⟩ := Kd.at_int HR0.out x5_1 p267 q267
      cases e267
      replace p267 := eq_true p267
      replace q267 := eq_true q267
      go_wp2
      go_roundg k1
      case measure => have := HK1.out; omega
      case rel => exact ⟨((((x4_1 * 16777619) % 4294967296) + ((rd l0 x5_1) % 4294967296)) % 4294967296), (wrap64 (x5_1 - 1)), (by first | rfl | (simp; done) | (simp [*]; done)), (by first | rfl | (simp; done) | (simp [*]; done)), H', ⟨by have := HK1.out; omega⟩, by repeat (first | exact Drawn0.refl _ | apply Drawn0.step)⟩
     ·rw [if_neg c4] at H
      exact absurd H (by simp)
    ·rw [if_neg c3] at H
     exact absurd H (by simp)
   ·rw [if_neg c2] at H
    have c2b0 : decide (0 ≤ x5_1) = false := decide_eq_false c2
    clear c2
    have H' := Aside0.mk H
    clear H
    go_wp2
    go_loopg [6, 7, 8] k1 (fun kq v6 v7 v8 w' => ∃ (x6_2 : Int) (x7_2 : Int) (x8_2 : Int), v6 = .int .u32 x6_2 ∧ v7 = .int .u32 x7_2 ∧ v8 = .int .i64 x8_2 ∧ Aside0 (bytealg_hashStrRev_byte.l1 kq x4_1 x6_2 x7_2 x8_2 = some (r1, r2)) ∧ Aside0 (kq ≤ k1) ∧ Drawn0 w w')
    case atStart => exact ⟨(1), (16777619), ((l0.length : Int)), (by first | rfl | (simp; done) | (simp [*]; done)), (by first | rfl | (simp; done) | (simp [*]; done)), (by first | rfl | (simp; done) | (simp [*]; done)), H', ⟨Nat.le_refl _⟩, by repeat (first | exact Drawn0.refl _ | apply Drawn0.step)⟩
    case round =>
     clear H'
     try clear c2
     try clear c2b0
     try clear p2
     try clear q2
     try clear hx2
     try clear c3
     try clear c3b0
     try clear c4
     try clear c4b0
     try clear hx267_0
     try clear p267
     try clear q267
     obtain ⟨x6_2, x7_2, x8_2, rfl, rfl, rfl, HA, HK2, ⟨m2, rfl⟩⟩ := hrel
     cases gk with
     | zero => exact absurd HA.out (by simp [bytealg_hashStrRev_byte.l1])
     | succ k2 =>
      have H := HA.out
      clear HA
      simp only [bytealg_hashStrRev_byte.l1] at H
      by_cases c5 : x8_2 > 0
      ·rw [if_pos c5] at H
       have c5b0 : decide (0 < x8_2) = true := decide_eq_true c5
       clear c5
       by_cases c6 : (Go.bits .and .i64 x8_2 1) = 0
       ·rw [if_pos c6] at H
        have c6b0 : ((Go.bits .and .i64 x8_2 1) == 0) = true := beq_iff_eq.mpr c6
        have c6b1 : ((Go.bits .and .i64 x8_2 1) != 0) = false := bne_eq_false_iff_eq.mpr c6
        clear c6
        have H' := Aside0.mk H
        clear H
        go_wp2
        go_roundg k2
        case measure => have := HK1.out; have := HK2.out; omega
        case rel => exact ⟨(x6_2), ((x7_2 * x7_2) % 4294967296), (x8_2 / 2), (by first | rfl | (simp; done) | (simp [*]; done)), (by first | rfl | (simp; done) | (simp [*]; done)), (by first | rfl | (simp; done) | (simp [*]; done)), H', ⟨by have := HK1.out; have := HK2.out; omega⟩, by repeat (first | exact Drawn0.refl _ | apply Drawn0.step)⟩
       ·rw [if_neg c6] at H
        have c6b0 : ((Go.bits .and .i64 x8_2 1) == 0) = false := beq_eq_false_iff_ne.mpr c6
        have c6b1 : ((Go.bits .and .i64 x8_2 1) != 0) = true := bne_iff_ne.mpr c6
        have H' := Aside0.mk H
        clear H
        go_wp2
        go_roundg k2
        case measure => have := HK1.out; have := HK2.out; omega
        case rel => exact ⟨((x6_2 * x7_2) % 4294967296), ((x7_2 * x7_2) % 4294967296), (x8_2 / 2), (by first | rfl | (simp; done) | (simp [*]; done)), (by first | rfl | (simp; done) | (simp [*]; done)), (by first | rfl | (simp; done) | (simp [*]; done)), H', ⟨by have := HK1.out; have := HK2.out; omega⟩, by repeat (first | exact Drawn0.refl _ | apply Drawn0.step)⟩
      ·rw [if_neg c5] at H
       have c5b0 : decide (0 < x8_2) = false := decide_eq_false c5
       clear c5
       simp only [Option.some.injEq, Prod.mk.injEq] at H
       obtain ⟨rfl, rfl⟩ := H
       go_wp2
       go_ret2
       exact ⟨by first | rfl | (simp; done) | (simp [*]; done), by repeat (first | exact Drawn0.refl _ | apply Drawn0.step)⟩
def sumdbnote_zzIndex.l0 : Nat → ByteArray → ByteArray → Int → Option (Int)
 | 0, _, _, _ => none
 | k + 1, x0, x1, x5 => if (wrap64 (x5 + (x1.size : Int))) ≤ (x0.size : Int) then (if 0 ≤ x5 then (if x5 ≤ (wrap64 (x5 + (x1.size : Int))) then (if (x0.extract (x5 : Int).toNat ((wrap64 (x5 + (x1.size : Int))) : Int).toNat).toList = x1.toList then (some x5) else (sumdbnote_zzIndex.l0 k x0 x1 (wrap64 (x5 + 1)))) else (none)) else (none)) else (some (-1))
def sumdbnote_zzIndex.f (k : Nat) (a0 : ByteArray) (a1 : ByteArray) : Option (Int) := sumdbnote_zzIndex.l0 k a0 a1 0
theorem sumdbnote_zzIndex.mono_l : ∀ k, (∀ y0 y1 y2, LeO (sumdbnote_zzIndex.l0 k y0 y1 y2) (sumdbnote_zzIndex.l0 (k + 1) y0 y1 y2))
 | 0 => fun _ _ _ r h => by simp [sumdbnote_zzIndex.l0] at h
 | k + 1 => by
  have ih0 := sumdbnote_zzIndex.mono_l k
  ·intro y0 y1 y2
   unfold sumdbnote_zzIndex.l0
   repeat' first
   | (with_reducible exact ih0 _ _ _)
   | (with_reducible exact LeO.refl _)
   | (with_reducible exact LeO.none _)
   | (with_reducible refine LeO.ite ?_ ?_)
   | (with_reducible refine LeO.bind ?_ (fun _ => ?_))
   | exact ih0 _ _ _
   | exact LeO.none _
   | refine LeO.ite ?_ ?_
   | refine LeO.bind ?_ (fun _ => ?_)
theorem sumdbnote_zzIndex.mono : ∀ a0 a1 k, LeO (sumdbnote_zzIndex.f k a0 a1) (sumdbnote_zzIndex.f (k + 1) a0 a1) := by
 intro a0 a1 k
 have ih0 := sumdbnote_zzIndex.mono_l k
 unfold sumdbnote_zzIndex.f
 repeat' first
   | (with_reducible exact ih0 _ _ _)
   | (with_reducible exact LeO.refl _)
   | (with_reducible exact LeO.none _)
   | (with_reducible refine LeO.ite ?_ ?_)
   | (with_reducible refine LeO.bind ?_ (fun _ => ?_))
   | exact ih0 _ _ _
   | exact LeO.none _
   | refine LeO.ite ?_ ?_
   | refine LeO.bind ?_ (fun _ => ?_)
set_option maxHeartbeats 8000000 in
set_option maxRecDepth 100000 in
theorem sumdbnote_zzIndex.calls (k : Nat) (a0 : ByteArray) (a1 : ByteArray) (r : Int) (w : World) (h : sumdbnote_zzIndex.f k a0 a1 = some r) :
  Calls Tryz.prog 59 #[.string a0, .string a1] w fun e w' => e = .returned (.int .i64 r) ∧ Drawn0 w w' := by
 have H : (sumdbnote_zzIndex.l0 k a0 a1 0) = some r := h
 clear h
 have H' := Aside0.mk H
 clear H
 go_enter Tryz.func59, Tryz.ntmps59
 go_wp2
 go_loopg [5] k (fun kq v5 w' => ∃ (x5_1 : Int), v5 = .int .i64 x5_1 ∧ Aside0 (sumdbnote_zzIndex.l0 kq a0 a1 x5_1 = some r) ∧ Aside0 (kq ≤ k) ∧ Drawn0 w w')
 case atStart => exact ⟨(0), (by first | rfl | (simp; done) | (simp [*]; done)), H', ⟨Nat.le_refl _⟩, by repeat (first | exact Drawn0.refl _ | apply Drawn0.step)⟩
 case round =>
  clear H'
  try clear p2
  obtain ⟨x5_1, rfl, HA, HK1, ⟨m1, rfl⟩⟩ := hrel
  cases gk with
  | zero => exact absurd HA.out (by simp [sumdbnote_zzIndex.l0])
  | succ k1 =>
   have H := HA.out
   clear HA
   simp only [sumdbnote_zzIndex.l0] at H
   by_cases c3 : (wrap64 (x5_1 + (a1.size : Int))) ≤ (a0.size : Int)
   ·rw [if_pos c3] at H
    have c3b0 : decide ((wrap64 (x5_1 + (a1.size : Int))) ≤ (a0.size : Int)) = true := decide_eq_true c3
    clear c3
    by_cases c4 : 0 ≤ x5_1
    ·rw [if_pos c4] at H
     have c4b0 := eq_true c4
     have c4b1 : decide (0 ≤ x5_1) = true := decide_eq_true c4
     clear c4
     by_cases c5 : x5_1 ≤ (wrap64 (x5_1 + (a1.size : Int)))
     ·rw [if_pos c5] at H
      have c5b0 := eq_true c5
      have c5b1 : decide (x5_1 ≤ (wrap64 (x5_1 + (a1.size : Int)))) = true := decide_eq_true c5
      have c6b0 := eq_true (of_decide_eq_true (by first | (with_reducible assumption) | assumption) : (wrap64 (x5_1 + (a1.size : Int))) ≤ (a0.size : Int))
      by_cases c7 : (a0.extract (x5_1 : Int).toNat ((wrap64 (x5_1 + (a1.size : Int))) : Int).toNat).toList = a1.toList
      ·rw [if_pos c7] at H
       have c7b0 : ((a0.extract (x5_1 : Int).toNat ((wrap64 (x5_1 + (a1.size : Int))) : Int).toNat).toList == a1.toList) = true := beq_iff_eq.mpr c7
       have c7b1 : ((a0.extract (x5_1 : Int).toNat ((wrap64 (x5_1 + (a1.size : Int))) : Int).toNat).toList != a1.toList) = false := bne_eq_false_iff_eq.mpr c7
       clear c7
       obtain rfl := Option.some.inj H
       go_wp2
       go_ret
       exact ⟨by first | rfl | (simp; done) | (simp [*]; done), by repeat (first | exact Drawn0.refl _ | apply Drawn0.step)⟩
      ·rw [if_neg c7] at H
       have c7b0 : ((a0.extract (x5_1 : Int).toNat ((wrap64 (x5_1 + (a1.size : Int))) : Int).toNat).toList == a1.toList) = false := beq_eq_false_iff_ne.mpr c7
       have c7b1 : ((a0.extract (x5_1 : Int).toNat ((wrap64 (x5_1 + (a1.size : Int))) : Int).toNat).toList != a1.toList) = true := bne_iff_ne.mpr c7
       have H' := Aside0.mk H
       clear H
       go_wp2
       go_roundg k1
       case measure => have := HK1.out; omega
       case rel => exact ⟨(wrap64 (x5_1 + 1)), (by first | rfl | (simp; done) | (simp [*]; done)), H', ⟨by have := HK1.out; omega⟩, by repeat (first | exact Drawn0.refl _ | apply Drawn0.step)⟩
     ·rw [if_neg c5] at H
      exact absurd H (by simp)
    ·rw [if_neg c4] at H
     exact absurd H (by simp)
   ·rw [if_neg c3] at H
    have c3b0 : decide ((wrap64 (x5_1 + (a1.size : Int))) ≤ (a0.size : Int)) = false := decide_eq_false c3
    clear c3
    obtain rfl := Option.some.inj H
    go_wp2
    go_ret
    exact ⟨by first | rfl | (simp; done) | (simp [*]; done), by repeat (first | exact Drawn0.refl _ | apply Drawn0.step)⟩
def sumdbnote_zzCut.f (k : Nat) (a0 : ByteArray) (a1 : ByteArray) : Option (ByteArray × ByteArray × Bool) := (sumdbnote_zzIndex.f k a0 a1).bind fun t271 => (if t271 ≥ 0 then (if 0 ≤ t271 then (if t271 ≤ (a0.size : Int) then (if 0 ≤ (wrap64 (t271 + (a1.size : Int))) then (if (wrap64 (t271 + (a1.size : Int))) ≤ (a0.size : Int) then (some (a0.extract 0 (t271 : Int).toNat, a0.extract ((wrap64 (t271 + (a1.size : Int))) : Int).toNat a0.size, true)) else (none)) else (none)) else (none)) else (none)) else (some (a0, (⟨#[]⟩ : ByteArray), false)))
theorem sumdbnote_zzCut.mono : ∀ a0 a1 k, LeO (sumdbnote_zzCut.f k a0 a1) (sumdbnote_zzCut.f (k + 1) a0 a1) := by
 intro a0 a1 k
 unfold sumdbnote_zzCut.f
 repeat' first
   | (with_reducible exact sumdbnote_zzIndex.mono _ _ _)
   | (with_reducible exact LeO.refl _)
   | (with_reducible exact LeO.none _)
   | (with_reducible refine LeO.ite ?_ ?_)
   | (with_reducible refine LeO.bind ?_ (fun _ => ?_))
   | exact sumdbnote_zzIndex.mono _ _ _
   | exact LeO.none _
   | refine LeO.ite ?_ ?_
   | refine LeO.bind ?_ (fun _ => ?_)
set_option maxHeartbeats 8000000 in
set_option maxRecDepth 100000 in
theorem sumdbnote_zzCut.calls (k : Nat) (a0 : ByteArray) (a1 : ByteArray) (r1 : ByteArray) (r2 : ByteArray) (r3 : Bool) (w : World) (h : sumdbnote_zzCut.f k a0 a1 = some (r1, r2, r3)) :
  Calls Tryz.prog 41 #[.string a0, .string a1] w fun e w' => e = .returned (.tuple #[.string r1, .string r2, .bool r3]) ∧ Drawn0 w w' := by
 have H : ((sumdbnote_zzIndex.f k a0 a1).bind fun t271 => (if t271 ≥ 0 then (if 0 ≤ t271 then (if t271 ≤ (a0.size : Int) then (if 0 ≤ (wrap64 (t271 + (a1.size : Int))) then (if (wrap64 (t271 + (a1.size : Int))) ≤ (a0.size : Int) then (some (a0.extract 0 (t271 : Int).toNat, a0.extract ((wrap64 (t271 + (a1.size : Int))) : Int).toNat a0.size, true)) else (none)) else (none)) else (none)) else (none)) else (some (a0, (⟨#[]⟩ : ByteArray), false)))) = some (r1, r2, r3) := h
 clear h
 replace H := Option.bind_eq_some_iff.mp H
 obtain ⟨t271, A30, H⟩ := H
 replace H : (if t271 ≥ 0 then (if 0 ≤ t271 then (if t271 ≤ (a0.size : Int) then (if 0 ≤ (wrap64 (t271 + (a1.size : Int))) then (if (wrap64 (t271 + (a1.size : Int))) ≤ (a0.size : Int) then (some (a0.extract 0 (t271 : Int).toNat, a0.extract ((wrap64 (t271 + (a1.size : Int))) : Int).toNat a0.size, true)) else (none)) else (none)) else (none)) else (none)) else (some (a0, (⟨#[]⟩ : ByteArray), false))) = some (r1, r2, r3) := H
 have A3 := Aside0.mk A30
 clear A30
 by_cases c4 : t271 ≥ 0
 ·rw [if_pos c4] at H
  have c4b0 : decide (0 ≤ t271) = true := decide_eq_true c4
  clear c4
  by_cases c5 : 0 ≤ t271
  ·rw [if_pos c5] at H
   have c5b0 := eq_true c5
   have c5b1 : decide (0 ≤ t271) = true := decide_eq_true c5
   clear c5
   by_cases c6 : t271 ≤ (a0.size : Int)
   ·rw [if_pos c6] at H
    have c6b0 := eq_true c6
    have c6b1 : decide (t271 ≤ (a0.size : Int)) = true := decide_eq_true c6
    clear c6
    obtain ⟨ji7, hji7⟩ : ∃ j_ : Int, (wrap64 (t271 + (a1.size : Int))) = j_ := ⟨_, rfl⟩
    replace H : (if 0 ≤ (ji7) then (if (ji7) ≤ (a0.size : Int) then (some (a0.extract 0 (t271 : Int).toNat, a0.extract ((ji7) : Int).toNat a0.size, true)) else (none)) else (none)) = some (r1, r2, r3) := by first | (rw [hji7] at H; exact H) | (simp only [hji7] at H ⊢; exact H)
    (try rw [hji7] at A3)
    have hji7w : (IntKind.i64.wrap (t271 + (a1.size : Int))) = ji7 := (i64_w _).trans hji7
    by_cases c8 : 0 ≤ (ji7)
    ·rw [if_pos c8] at H
     have c8b0 := eq_true c8
     have c8b1 : decide (0 ≤ (ji7)) = true := decide_eq_true c8
     clear c8
     by_cases c9 : (ji7) ≤ (a0.size : Int)
     ·rw [if_pos c9] at H
      have c9b0 := eq_true c9
      have c9b1 : decide ((ji7) ≤ (a0.size : Int)) = true := decide_eq_true c9
      clear c9
      simp only [Option.some.injEq, Prod.mk.injEq] at H
      obtain ⟨rfl, rfl, rfl⟩ := H
      go_enter Tryz.func41, Tryz.ntmps41
      go_wp2_with (first | (go_at_call 59; (with_reducible refine (sumdbnote_zzIndex.calls k a0 a1 t271 _ A3.out).mono ?_); rintro e w' ⟨rfl, ⟨nd, rfl⟩⟩; (try first | exact ⟨rfl, _, World.drewN_drewN _ _ _⟩ | exact ⟨rfl, _, Eq.trans (World.drewN_drewN _ _ _) (congrArg (World.drewN _) (Nat.add_assoc _ _ _))⟩)))
      repeat (go_quiet (first | (go_at_call 59; (with_reducible refine (sumdbnote_zzIndex.calls k a0 a1 t271 _ A3.out).mono ?_); rintro e w' ⟨rfl, ⟨nd, rfl⟩⟩; (try first | exact ⟨rfl, _, World.drewN_drewN _ _ _⟩ | exact ⟨rfl, _, Eq.trans (World.drewN_drewN _ _ _) (congrArg (World.drewN _) (Nat.add_assoc _ _ _))⟩))); try go_wp2_with (first | (go_at_call 59; (with_reducible refine (sumdbnote_zzIndex.calls k a0 a1 t271 _ A3.out).mono ?_); rintro e w' ⟨rfl, ⟨nd, rfl⟩⟩; (try first | exact ⟨rfl, _, World.drewN_drewN _ _ _⟩ | exact ⟨rfl, _, Eq.trans (World.drewN_drewN _ _ _) (congrArg (World.drewN _) (Nat.add_assoc _ _ _))⟩))))
      go_ret3
      exact ⟨by first | rfl | (simp; done) | (simp only [← hji7] <;> (first | rfl | simp)) | (simp [*]; done), by repeat (first | exact Drawn0.refl _ | apply Drawn0.step)⟩
     ·rw [if_neg c9] at H
      exact absurd H (by simp)
    ·rw [if_neg c8] at H
     exact absurd H (by simp)
   ·rw [if_neg c6] at H
    exact absurd H (by simp)
  ·rw [if_neg c5] at H
   exact absurd H (by simp)
 ·rw [if_neg c4] at H
  have c4b0 : decide (0 ≤ t271) = false := decide_eq_false c4
  clear c4
  simp only [Option.some.injEq, Prod.mk.injEq] at H
  obtain ⟨rfl, rfl, rfl⟩ := H
  go_enter Tryz.func41, Tryz.ntmps41
  go_wp2_with (first | (go_at_call 59; (with_reducible refine (sumdbnote_zzIndex.calls k a0 a1 t271 _ A3.out).mono ?_); rintro e w' ⟨rfl, ⟨nd, rfl⟩⟩; (try first | exact ⟨rfl, _, World.drewN_drewN _ _ _⟩ | exact ⟨rfl, _, Eq.trans (World.drewN_drewN _ _ _) (congrArg (World.drewN _) (Nat.add_assoc _ _ _))⟩)))
  repeat (go_quiet (first | (go_at_call 59; (with_reducible refine (sumdbnote_zzIndex.calls k a0 a1 t271 _ A3.out).mono ?_); rintro e w' ⟨rfl, ⟨nd, rfl⟩⟩; (try first | exact ⟨rfl, _, World.drewN_drewN _ _ _⟩ | exact ⟨rfl, _, Eq.trans (World.drewN_drewN _ _ _) (congrArg (World.drewN _) (Nat.add_assoc _ _ _))⟩))); try go_wp2_with (first | (go_at_call 59; (with_reducible refine (sumdbnote_zzIndex.calls k a0 a1 t271 _ A3.out).mono ?_); rintro e w' ⟨rfl, ⟨nd, rfl⟩⟩; (try first | exact ⟨rfl, _, World.drewN_drewN _ _ _⟩ | exact ⟨rfl, _, Eq.trans (World.drewN_drewN _ _ _) (congrArg (World.drewN _) (Nat.add_assoc _ _ _))⟩))))
  go_ret3
  exact ⟨by first | rfl | (simp; done) | (simp [*]; done), by repeat (first | exact Drawn0.refl _ | apply Drawn0.step)⟩
def base64_decodedLen.f (a0 : Int) (a1 : Int) : Option (Int) := if a1 = (-1) then (some (wrap64 ((wrap64 ((wrap64 (Int.tdiv a0 4)) * 3)) + (wrap64 (Int.tdiv (wrap64 ((Int.tmod a0 4) * 6)) 8))))) else (some (wrap64 ((wrap64 (Int.tdiv a0 4)) * 3)))
set_option maxHeartbeats 8000000 in
set_option maxRecDepth 100000 in
theorem base64_decodedLen.calls (a0 : Int) (a1 : Int) (r : Int) (w : World) (h : base64_decodedLen.f a0 a1 = some r) :
  Calls Tryz.prog 73 #[.int .i64 a0, .int .i32 a1] w fun e w' => e = .returned (.int .i64 r) ∧ Drawn0 w w' := by
 have H : (if a1 = (-1) then (some (wrap64 ((wrap64 ((wrap64 (Int.tdiv a0 4)) * 3)) + (wrap64 (Int.tdiv (wrap64 ((Int.tmod a0 4) * 6)) 8))))) else (some (wrap64 ((wrap64 (Int.tdiv a0 4)) * 3)))) = some r := h
 clear h
 by_cases c3 : a1 = (-1)
 ·rw [if_pos c3] at H
  have c3b0 : (a1 == (-1)) = true := beq_iff_eq.mpr c3
  have c3b1 : (a1 != (-1)) = false := bne_eq_false_iff_eq.mpr c3
  clear c3
  obtain rfl := Option.some.inj H
  go_enter Tryz.func73, Tryz.ntmps73
  go_wp2
  go_ret
  exact ⟨by first | rfl | (simp; done) | (simp [*]; done), by repeat (first | exact Drawn0.refl _ | apply Drawn0.step)⟩
 ·rw [if_neg c3] at H
  have c3b0 : (a1 == (-1)) = false := beq_eq_false_iff_ne.mpr c3
  have c3b1 : (a1 != (-1)) = true := bne_iff_ne.mpr c3
  obtain rfl := Option.some.inj H
  go_enter Tryz.func73, Tryz.ntmps73
  go_wp2
  go_ret
  exact ⟨by first | rfl | (simp; done) | (simp [*]; done), by repeat (first | exact Drawn0.refl _ | apply Drawn0.step)⟩
def base64_assemble64.f (a0 : Int) (a1 : Int) (a2 : Int) (a3 : Int) (a4 : Int) (a5 : Int) (a6 : Int) (a7 : Int) : Option (Int × Bool) := if (Go.bits .or .u8 (Go.bits .or .u8 (Go.bits .or .u8 (Go.bits .or .u8 (Go.bits .or .u8 (Go.bits .or .u8 (Go.bits .or .u8 a0 a1) a2) a3) a4) a5) a6) a7) = 255 then (some (0, false)) else (some (Go.bits .or .u64 (Go.bits .or .u64 (Go.bits .or .u64 (Go.bits .or .u64 (Go.bits .or .u64 (Go.bits .or .u64 (Go.bits .or .u64 (IntKind.u64.wrap ((IntKind.u64.wrap (a0)) * 288230376151711744)) (IntKind.u64.wrap ((IntKind.u64.wrap (a1)) * 4503599627370496))) (IntKind.u64.wrap ((IntKind.u64.wrap (a2)) * 70368744177664))) (IntKind.u64.wrap ((IntKind.u64.wrap (a3)) * 1099511627776))) (IntKind.u64.wrap ((IntKind.u64.wrap (a4)) * 17179869184))) (IntKind.u64.wrap ((IntKind.u64.wrap (a5)) * 268435456))) (IntKind.u64.wrap ((IntKind.u64.wrap (a6)) * 4194304))) (IntKind.u64.wrap ((IntKind.u64.wrap (a7)) * 65536)), true))
set_option maxHeartbeats 8000000 in
set_option maxRecDepth 100000 in
theorem base64_assemble64.calls (a0 : Int) (a1 : Int) (a2 : Int) (a3 : Int) (a4 : Int) (a5 : Int) (a6 : Int) (a7 : Int) (r1 : Int) (r2 : Bool) (w : World) (h : base64_assemble64.f a0 a1 a2 a3 a4 a5 a6 a7 = some (r1, r2)) :
  Calls Tryz.prog 74 #[.int .u8 a0, .int .u8 a1, .int .u8 a2, .int .u8 a3, .int .u8 a4, .int .u8 a5, .int .u8 a6, .int .u8 a7] w fun e w' => e = .returned (.tuple #[.int .u64 r1, .bool r2]) ∧ Drawn0 w w' := by
 have H : (if (Go.bits .or .u8 (Go.bits .or .u8 (Go.bits .or .u8 (Go.bits .or .u8 (Go.bits .or .u8 (Go.bits .or .u8 (Go.bits .or .u8 a0 a1) a2) a3) a4) a5) a6) a7) = 255 then (some (0, false)) else (some (Go.bits .or .u64 (Go.bits .or .u64 (Go.bits .or .u64 (Go.bits .or .u64 (Go.bits .or .u64 (Go.bits .or .u64 (Go.bits .or .u64 (IntKind.u64.wrap ((IntKind.u64.wrap (a0)) * 288230376151711744)) (IntKind.u64.wrap ((IntKind.u64.wrap (a1)) * 4503599627370496))) (IntKind.u64.wrap ((IntKind.u64.wrap (a2)) * 70368744177664))) (IntKind.u64.wrap ((IntKind.u64.wrap (a3)) * 1099511627776))) (IntKind.u64.wrap ((IntKind.u64.wrap (a4)) * 17179869184))) (IntKind.u64.wrap ((IntKind.u64.wrap (a5)) * 268435456))) (IntKind.u64.wrap ((IntKind.u64.wrap (a6)) * 4194304))) (IntKind.u64.wrap ((IntKind.u64.wrap (a7)) * 65536)), true))) = some (r1, r2) := h
 clear h
 by_cases c9 : (Go.bits .or .u8 (Go.bits .or .u8 (Go.bits .or .u8 (Go.bits .or .u8 (Go.bits .or .u8 (Go.bits .or .u8 (Go.bits .or .u8 a0 a1) a2) a3) a4) a5) a6) a7) = 255
 ·rw [if_pos c9] at H
  have c9b0 : ((Go.bits .or .u8 (Go.bits .or .u8 (Go.bits .or .u8 (Go.bits .or .u8 (Go.bits .or .u8 (Go.bits .or .u8 (Go.bits .or .u8 a0 a1) a2) a3) a4) a5) a6) a7) == 255) = true := beq_iff_eq.mpr c9
  have c9b1 : ((Go.bits .or .u8 (Go.bits .or .u8 (Go.bits .or .u8 (Go.bits .or .u8 (Go.bits .or .u8 (Go.bits .or .u8 (Go.bits .or .u8 a0 a1) a2) a3) a4) a5) a6) a7) != 255) = false := bne_eq_false_iff_eq.mpr c9
  clear c9
  simp only [Option.some.injEq, Prod.mk.injEq] at H
  obtain ⟨rfl, rfl⟩ := H
  go_enter Tryz.func74, Tryz.ntmps74
  go_wp2
  go_ret2
  exact ⟨by first | rfl | (simp; done) | (simp [*]; done), by repeat (first | exact Drawn0.refl _ | apply Drawn0.step)⟩
 ·rw [if_neg c9] at H
  have c9b0 : ((Go.bits .or .u8 (Go.bits .or .u8 (Go.bits .or .u8 (Go.bits .or .u8 (Go.bits .or .u8 (Go.bits .or .u8 (Go.bits .or .u8 a0 a1) a2) a3) a4) a5) a6) a7) == 255) = false := beq_eq_false_iff_ne.mpr c9
  have c9b1 : ((Go.bits .or .u8 (Go.bits .or .u8 (Go.bits .or .u8 (Go.bits .or .u8 (Go.bits .or .u8 (Go.bits .or .u8 (Go.bits .or .u8 a0 a1) a2) a3) a4) a5) a6) a7) != 255) = true := bne_iff_ne.mpr c9
  simp only [Option.some.injEq, Prod.mk.injEq] at H
  obtain ⟨rfl, rfl⟩ := H
  go_enter Tryz.func74, Tryz.ntmps74
  go_wp2
  go_ret2
  exact ⟨by first | rfl | (simp; done) | (simp [*]; done), by repeat (first | exact Drawn0.refl _ | apply Drawn0.step)⟩
def byteorder_BEPutUint64.f (l0 : List Int) (a1 : Int) : Option (List Int) := if 7 < (l0.length : Int) then (if 0 < (l0.length : Int) then (if 1 < (l0.length : Int) then (if 2 < (l0.length : Int) then (if 3 < (l0.length : Int) then (if 4 < (l0.length : Int) then (if 5 < (l0.length : Int) then (if 6 < (l0.length : Int) then (some ((((((((l0.set (0 : Int).toNat ((a1 / 72057594037927936) % 256)).set (1 : Int).toNat ((a1 / 281474976710656) % 256)).set (2 : Int).toNat ((a1 / 1099511627776) % 256)).set (3 : Int).toNat ((a1 / 4294967296) % 256)).set (4 : Int).toNat ((a1 / 16777216) % 256)).set (5 : Int).toNat ((a1 / 65536) % 256)).set (6 : Int).toNat ((a1 / 256) % 256)).set (7 : Int).toNat ((a1) % 256))) else (none)) else (none)) else (none)) else (none)) else (none)) else (none)) else (none)) else (none)
def base64_assemble32.f (a0 : Int) (a1 : Int) (a2 : Int) (a3 : Int) : Option (Int × Bool) := if (Go.bits .or .u8 (Go.bits .or .u8 (Go.bits .or .u8 a0 a1) a2) a3) = 255 then (some (0, false)) else (some (Go.bits .or .u32 (Go.bits .or .u32 (Go.bits .or .u32 ((((a0) % 4294967296) * 67108864) % 4294967296) ((((a1) % 4294967296) * 1048576) % 4294967296)) ((((a2) % 4294967296) * 16384) % 4294967296)) ((((a3) % 4294967296) * 256) % 4294967296), true))
set_option maxHeartbeats 8000000 in
set_option maxRecDepth 100000 in
theorem base64_assemble32.calls (a0 : Int) (a1 : Int) (a2 : Int) (a3 : Int) (r1 : Int) (r2 : Bool) (w : World) (h : base64_assemble32.f a0 a1 a2 a3 = some (r1, r2)) :
  Calls Tryz.prog 77 #[.int .u8 a0, .int .u8 a1, .int .u8 a2, .int .u8 a3] w fun e w' => e = .returned (.tuple #[.int .u32 r1, .bool r2]) ∧ Drawn0 w w' := by
 have H : (if (Go.bits .or .u8 (Go.bits .or .u8 (Go.bits .or .u8 a0 a1) a2) a3) = 255 then (some (0, false)) else (some (Go.bits .or .u32 (Go.bits .or .u32 (Go.bits .or .u32 ((((a0) % 4294967296) * 67108864) % 4294967296) ((((a1) % 4294967296) * 1048576) % 4294967296)) ((((a2) % 4294967296) * 16384) % 4294967296)) ((((a3) % 4294967296) * 256) % 4294967296), true))) = some (r1, r2) := h
 clear h
 by_cases c5 : (Go.bits .or .u8 (Go.bits .or .u8 (Go.bits .or .u8 a0 a1) a2) a3) = 255
 ·rw [if_pos c5] at H
  have c5b0 : ((Go.bits .or .u8 (Go.bits .or .u8 (Go.bits .or .u8 a0 a1) a2) a3) == 255) = true := beq_iff_eq.mpr c5
  have c5b1 : ((Go.bits .or .u8 (Go.bits .or .u8 (Go.bits .or .u8 a0 a1) a2) a3) != 255) = false := bne_eq_false_iff_eq.mpr c5
  clear c5
  simp only [Option.some.injEq, Prod.mk.injEq] at H
  obtain ⟨rfl, rfl⟩ := H
  go_enter Tryz.func77, Tryz.ntmps77
  go_wp2
  go_ret2
  exact ⟨by first | rfl | (simp; done) | (simp [*]; done), by repeat (first | exact Drawn0.refl _ | apply Drawn0.step)⟩
 ·rw [if_neg c5] at H
  have c5b0 : ((Go.bits .or .u8 (Go.bits .or .u8 (Go.bits .or .u8 a0 a1) a2) a3) == 255) = false := beq_eq_false_iff_ne.mpr c5
  have c5b1 : ((Go.bits .or .u8 (Go.bits .or .u8 (Go.bits .or .u8 a0 a1) a2) a3) != 255) = true := bne_iff_ne.mpr c5
  simp only [Option.some.injEq, Prod.mk.injEq] at H
  obtain ⟨rfl, rfl⟩ := H
  go_enter Tryz.func77, Tryz.ntmps77
  go_wp2
  go_ret2
  exact ⟨by first | rfl | (simp; done) | (simp [*]; done), by repeat (first | exact Drawn0.refl _ | apply Drawn0.step)⟩
def byteorder_BEPutUint32.f (l0 : List Int) (a1 : Int) : Option (List Int) := if 3 < (l0.length : Int) then (if 0 < (l0.length : Int) then (if 1 < (l0.length : Int) then (if 2 < (l0.length : Int) then (some ((((l0.set (0 : Int).toNat ((a1 / 16777216) % 256)).set (1 : Int).toNat ((a1 / 65536) % 256)).set (2 : Int).toNat ((a1 / 256) % 256)).set (3 : Int).toNat ((a1) % 256))) else (none)) else (none)) else (none)) else (none)
def utf8_word_string.f (a0 : ByteArray) : Option (Int) := if 0 < (a0.size : Int) then (if 1 < (a0.size : Int) then (if 2 < (a0.size : Int) then (if 3 < (a0.size : Int) then (if 4 < (a0.size : Int) then (if 5 < (a0.size : Int) then (if 6 < (a0.size : Int) then (if 7 < (a0.size : Int) then (some (Go.bits .or .u64 (Go.bits .or .u64 (Go.bits .or .u64 (Go.bits .or .u64 (Go.bits .or .u64 (Go.bits .or .u64 (Go.bits .or .u64 (IntKind.u64.wrap (bt a0 0)) (IntKind.u64.wrap ((IntKind.u64.wrap (bt a0 1)) * 256))) (IntKind.u64.wrap ((IntKind.u64.wrap (bt a0 2)) * 65536))) (IntKind.u64.wrap ((IntKind.u64.wrap (bt a0 3)) * 16777216))) (IntKind.u64.wrap ((IntKind.u64.wrap (bt a0 4)) * 4294967296))) (IntKind.u64.wrap ((IntKind.u64.wrap (bt a0 5)) * 1099511627776))) (IntKind.u64.wrap ((IntKind.u64.wrap (bt a0 6)) * 281474976710656))) (IntKind.u64.wrap ((IntKind.u64.wrap (bt a0 7)) * 72057594037927936)))) else (none)) else (none)) else (none)) else (none)) else (none)) else (none)) else (none)) else (none)
def sumdbnote_zzContains.f (k : Nat) (a0 : ByteArray) (a1 : ByteArray) : Option (Bool) := (sumdbnote_zzIndex.f k a0 a1).bind fun t296 => (some (decide (t296 ≥ 0)))
theorem sumdbnote_zzContains.mono : ∀ a0 a1 k, LeO (sumdbnote_zzContains.f k a0 a1) (sumdbnote_zzContains.f (k + 1) a0 a1) := by
 intro a0 a1 k
 unfold sumdbnote_zzContains.f
 repeat' first
   | (with_reducible exact sumdbnote_zzIndex.mono _ _ _)
   | (with_reducible exact LeO.refl _)
   | (with_reducible exact LeO.none _)
   | (with_reducible refine LeO.ite ?_ ?_)
   | (with_reducible refine LeO.bind ?_ (fun _ => ?_))
   | exact sumdbnote_zzIndex.mono _ _ _
   | exact LeO.none _
   | refine LeO.ite ?_ ?_
   | refine LeO.bind ?_ (fun _ => ?_)
set_option maxHeartbeats 8000000 in
set_option maxRecDepth 100000 in
theorem sumdbnote_zzContains.calls (k : Nat) (a0 : ByteArray) (a1 : ByteArray) (r : Bool) (w : World) (h : sumdbnote_zzContains.f k a0 a1 = some r) :
  Calls Tryz.prog 66 #[.string a0, .string a1] w fun e w' => e = .returned (.bool r) ∧ Drawn0 w w' := by
 have H : ((sumdbnote_zzIndex.f k a0 a1).bind fun t296 => (some (decide (t296 ≥ 0)))) = some r := h
 clear h
 replace H := Option.bind_eq_some_iff.mp H
 obtain ⟨t296, A30, H⟩ := H
 replace H : (some (decide (t296 ≥ 0))) = some r := H
 have A3 := Aside0.mk A30
 clear A30
 obtain rfl := Option.some.inj H
 go_enter Tryz.func66, Tryz.ntmps66
 go_wp2_with (first | ((with_reducible refine gate_callee (f := 59) rfl ?_); refine goesL_ (some 7) rfl rfl Tryz.func59 (by kernel_rfl) rfl #[.string a0, .string a1] rfl (by (try simp only [List.map_toArray, List.map_cons, List.map_nil]); first | done | rfl | (simp only [List.length_drop, List.length_take]; rfl)) ?_; (with_reducible refine (sumdbnote_zzIndex.calls k a0 a1 t296 _ A3.out).mono ?_); rintro e w' ⟨rfl, ⟨nd, rfl⟩⟩; refine ⟨_, rfl, ?_⟩))
 go_ret
 exact ⟨by first | rfl | (simp; done) | (simp [*]; done), by repeat (first | exact Drawn0.refl _ | apply Drawn0.step)⟩
end Go.Proofs.YtkbegfihdpiacaaGreatDoor.PX
namespace Go.Proofs.YtkbegfihdpiacaaGreatDoor.PX
open Go.RowKit Go.Proofs.YtkbegfihdpiacaaGreatDoorW.PrintWords Go.Proofs.YtkbegfihdpiacaaGreatDoorW.PrintLast Go.Proofs.YtkbegfihdpiacaaGreatDoorW.PrintMore
attribute [local go_sem] max2_int min2_int max_two min_two max_three min_three max_four min_four   -- for this text's walks alone
theorem eqA49 (d : Nat) (w : World) (x0 y0 : ByteArray) (x1 y1 : Int) (x2 y2 : ByteArray) :
  (Op.equalIn (d + 2) 49 (.agg #[.string x0, .int .u32 x1, .string x2]) (.agg #[.string y0, .int .u32 y1, .string y2])).run Tryz.prog w = .ok (x0.toList == y0.toList && (x1 == y1 && (x2.toList == y2.toList))) w := by
 refine eqA_of Tryz.underlying49 (by kernel_rfl) ?_
 refine eqf_cons (by rfl) (by go_simp; rfl) (by go_simp; rfl) (by go_simp) ?_
 refine eqf_cons (by rfl) (by go_simp; rfl) (by go_simp; rfl) (by go_simp) ?_
 exact eqf_last (by rfl) (by go_simp; rfl) (by go_simp; rfl) (by go_simp)
end Go.Proofs.YtkbegfihdpiacaaGreatDoor.PX
