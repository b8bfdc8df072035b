/- Part 5 of the proof: what the theorem reaches of the texts PX0, Ver, Last, PX12, PX3. -/
import Derived.Test.YtkbegfihdpiacaaDoorProg
import Derived.Below
import Derived.Deep.Draws
import Derived.Deep.AppendLies
import Derived.Maps.AppendAt
import Derived.OwnWalk
import Derived.Laws.BytesArg
import Derived.Laws.MakeOwn
import Derived.Laws.OwnMore
import Derived.Deep.OwnRows
import Derived.Tactics
import Derived.Lib.ConvBytes
import Derived.Laws.Slices
import Derived.WalkKit
import Derived.KernelRfl
import Derived.RowKit3
import Derived.Deep.LoopGhost
import Derived.Deep.QuietTactic
import Derived.BigQuiet
import Derived.WideLaws
import Derived.Deep.DeepCutAuto
import Derived.Deep.CutBlock
import Derived.Deep.RegionHeld3
import Derived.Laws.Rows
import Derived.Lib.AppendStr
import Derived.ArgAppend
import Derived.Laws.IdiomCopy
import Derived.OrdersHeld
import Derived.Laws.BitsLemmas
import Derived.RowKit
import Derived.DeepKeys4
import Derived.WalkSpells
import Derived.Lib.Hide
import Derived.Outline
import Derived.Deep.DeepFit
import Derived.Test.YtkbegfihdpiacaaDoorKS1
import Derived.Test.YtkbegfihdpiacaaDoorKS2
import Derived.Test.YtkbegfihdpiacaaDoorKS3
import Derived.Test.YtkbegfihdpiacaaDoorKS4

namespace Go.Proofs.YtkbegfihdpiacaaDoor.PX
open Go.RowKit Go.Proofs.YtkbegfihdpiacaaDoorW.PrintWords Go.Proofs.YtkbegfihdpiacaaDoorW.PrintLast Go.Proofs.YtkbegfihdpiacaaDoorW.PrintMore
attribute [local go_sem] max2_int min2_int max_two min_two max_three min_three max_four min_four   -- for this text's walks alone
set_option linter.unusedVariables false
set_option linter.unusedSimpArgs false
def errW : Option Int → Value
  | none => .nilIface
  | some c => .iface 0 (.int .i64 c)
theorem errW_none : errW none = .nilIface := rfl
theorem errW_some (c : Int) : errW (some c) = .iface 0 (.int .i64 c) := rfl
theorem info5 : (Tryd.prog.info? 5).map (fun i => (i.zero, i.size, i.bytes)) = some (some (.int .u8 0), 1, 1) := by kernel_rfl
theorem info9 : (Tryd.prog.info? 9).map (fun i => (i.zero, i.size, i.bytes)) = some (some (.string ⟨#[]⟩), 1, 16) := by kernel_rfl
theorem info37 : (Tryd.prog.info? 37).map (fun i => (i.zero, i.size, i.bytes)) = some (some (.agg #[(.string ⟨#[]⟩), (.int .u32 0), (.string ⟨#[]⟩)]), 3, 40) := by kernel_rfl
theorem info59 : (Tryd.prog.info? 59).map (fun i => (i.zero, i.size, i.bytes)) = some (some (.agg #[(.string ⟨#[]⟩), (.int .u32 0), (.slice none 0 0), (.slice none 0 0)]), 4, 72) := by kernel_rfl
theorem info75 : (Tryd.prog.info? 75).map (fun i => (i.zero, i.size, i.bytes)) = some (some (.agg #[(.string ⟨#[]⟩), (.int .u32 0), (.string ⟨#[]⟩)]), 3, 40) := by kernel_rfl
theorem info118 : (Tryd.prog.info? 118).map (fun i => (i.zero, i.size, i.bytes)) = some (some (.agg #[(.string ⟨#[]⟩), (.int .u32 0), (.string ⟨#[]⟩)]), 3, 40) := by kernel_rfl
structure S34 where
  f0 : ByteArray
  f1 : Int
  f2 : (List ByteArray)
  f3 : (List ByteArray)
def z34 : S34 := ⟨(⟨#[]⟩ : ByteArray), (0 : Int), ([] : List ByteArray), ([] : List ByteArray)⟩
def k34 : Kd S34 := Kd.iso (Kd.pair Kd.string (Kd.pair (Kd.int .u32) (Kd.pair (Kd.slice 9 Kd.string) (Kd.slice 9 Kd.string)))) (fun x : S34 => (x.f0, x.f1, x.f2, x.f3))
theorem k34_open {w : World} {x : S34} {cs : List Value} (h : k34.K w x cs) : ∃ A2 c2 A3 c3, cs = [.string x.f0, .int .u32 x.f1, .slice A2 x.f2.length c2, .slice A3 x.f3.length c3] ∧ x.f2.length ≤ c2 ∧ Kd.string.C w A2 x.f2.length x.f2 ∧ x.f3.length ≤ c3 ∧ Kd.string.C w A3 x.f3.length x.f3 := by
  obtain ⟨_, _, rfl, rfl, ⟨_, _, rfl, rfl, ⟨_, _, rfl, ⟨A2, c2, rfl, l2, g2⟩, ⟨A3, c3, rfl, l3, g3⟩⟩⟩⟩ := h
  exact ⟨A2, c2, A3, c3, rfl, l2, g2, l3, g3⟩
theorem k34_mk (w : World) (x : S34) {A2 : Option Addr} {c2 : Nat} (l2 : x.f2.length ≤ c2) (g2 : Kd.string.C w A2 x.f2.length x.f2) {A3 : Option Addr} {c3 : Nat} (l3 : x.f3.length ≤ c3) (g3 : Kd.string.C w A3 x.f3.length x.f3) : k34.K w x [.string x.f0, .int .u32 x.f1, .slice A2 x.f2.length c2, .slice A3 x.f3.length c3] := ⟨[.string x.f0], [.int .u32 x.f1, .slice A2 x.f2.length c2, .slice A3 x.f3.length c3], rfl, rfl, ⟨[.int .u32 x.f1], [.slice A2 x.f2.length c2, .slice A3 x.f3.length c3], rfl, rfl, ⟨[.slice A2 x.f2.length c2], [.slice A3 x.f3.length c3], rfl, ⟨A2, c2, rfl, l2, g2⟩, ⟨A3, c3, rfl, l3, g3⟩⟩⟩⟩
theorem k34_openF {W : World} {ok : Nat → Prop} {x : S34} {cs : List Value} (h : Kd.FK k34 W ok x cs) : ∃ A2 c2 A3 c3, cs = [.string x.f0, .int .u32 x.f1, .slice A2 x.f2.length c2, .slice A3 x.f3.length c3] ∧ x.f2.length ≤ c2 ∧ Kd.F Kd.string W ok A2 x.f2.length x.f2 ∧ x.f3.length ≤ c3 ∧ Kd.F Kd.string W ok A3 x.f3.length x.f3 := by
  obtain ⟨A2, c2, A3, c3, rfl, l2, _, l3, _⟩ := k34_open (Kd.FK_now h)
  exact ⟨A2, c2, A3, c3, rfl, l2, (fun W' hW => by obtain ⟨A2_, c2_, A3_, c3_, he, l2_, g2_, l3_, g3_⟩ := k34_open (h W' hW); injection (Option.some.inj (show some (Value.slice A2 x.f2.length c2) = some (Value.slice A2_ x.f2.length c2_) from congrArg (fun l => l[2]?) he)) with ha_ _ _; rw [ha_]; exact g2_), l3, (fun W' hW => by obtain ⟨A2_, c2_, A3_, c3_, he, l2_, g2_, l3_, g3_⟩ := k34_open (h W' hW); injection (Option.some.inj (show some (Value.slice A3 x.f3.length c3) = some (Value.slice A3_ x.f3.length c3_) from congrArg (fun l => l[3]?) he)) with ha_ _ _; rw [ha_]; exact g3_)⟩
def rd_T34 (xs : List S34) (i : Int) : S34 := xs.getD i.toNat z34
theorem at_T34 {w : World} {A : Option Addr} {n : Nat} {xs : List S34} (h : Kd.C k34 w A n xs) (i : Int) (h0 : 0 ≤ i) (h1 : i < n) : ∃ ad A2 c2 A3 c3, A = some ad ∧ w.cell? (ad.add (i.toNat * 4)) = some (.string (rd_T34 xs i).f0) ∧ w.cell? ⟨(ad.add (i.toNat * 4)).block, (ad.add (i.toNat * 4)).off + 1, none⟩ = some (.int .u32 (rd_T34 xs i).f1) ∧ w.cell? ⟨(ad.add (i.toNat * 4)).block, (ad.add (i.toNat * 4)).off + 2, none⟩ = some (.slice A2 (rd_T34 xs i).f2.length c2) ∧ w.cell? ⟨(ad.add (i.toNat * 4)).block, (ad.add (i.toNat * 4)).off + 3, none⟩ = some (.slice A3 (rd_T34 xs i).f3.length c3) ∧ (rd_T34 xs i).f2.length ≤ c2 ∧ Kd.string.C w A2 (rd_T34 xs i).f2.length (rd_T34 xs i).f2 ∧ (rd_T34 xs i).f3.length ≤ c3 ∧ Kd.string.C w A3 (rd_T34 xs i).f3.length (rd_T34 xs i).f3 := by
  obtain ⟨ad, c, e, _, hK, hc0⟩ := Kd.C_get h z34 i h0 h1
  have hc : ∀ j u, c[j]? = some u → w.cell? (ad.add (i.toNat * 4 + j)) = some u := hc0
  obtain ⟨A2, c2, A3, c3, rfl, l2, g2, l3, g3⟩ := k34_open hK
  exact ⟨ad, A2, c2, A3, c3, e, hc 0 _ rfl, by rw [← add_field _ _ 1 (by omega)]; exact hc 1 _ rfl, by rw [← add_field _ _ 2 (by omega)]; exact hc 2 _ rfl, by rw [← add_field _ _ 3 (by omega)]; exact hc 3 _ rfl, l2, g2, l3, g3⟩
structure S59 where
  f0 : ByteArray
  f1 : Int
  f2 : (List ByteArray)
  f3 : (List ByteArray)
def z59 : S59 := ⟨(⟨#[]⟩ : ByteArray), (0 : Int), ([] : List ByteArray), ([] : List ByteArray)⟩
def k59 : Kd S59 := Kd.iso (Kd.pair Kd.string (Kd.pair (Kd.int .u32) (Kd.pair (Kd.slice 9 Kd.string) (Kd.slice 9 Kd.string)))) (fun x : S59 => (x.f0, x.f1, x.f2, x.f3))
theorem k59_open {w : World} {x : S59} {cs : List Value} (h : k59.K w x cs) : ∃ A2 c2 A3 c3, cs = [.string x.f0, .int .u32 x.f1, .slice A2 x.f2.length c2, .slice A3 x.f3.length c3] ∧ x.f2.length ≤ c2 ∧ Kd.string.C w A2 x.f2.length x.f2 ∧ x.f3.length ≤ c3 ∧ Kd.string.C w A3 x.f3.length x.f3 := by
  obtain ⟨_, _, rfl, rfl, ⟨_, _, rfl, rfl, ⟨_, _, rfl, ⟨A2, c2, rfl, l2, g2⟩, ⟨A3, c3, rfl, l3, g3⟩⟩⟩⟩ := h
  exact ⟨A2, c2, A3, c3, rfl, l2, g2, l3, g3⟩
theorem k59_mk (w : World) (x : S59) {A2 : Option Addr} {c2 : Nat} (l2 : x.f2.length ≤ c2) (g2 : Kd.string.C w A2 x.f2.length x.f2) {A3 : Option Addr} {c3 : Nat} (l3 : x.f3.length ≤ c3) (g3 : Kd.string.C w A3 x.f3.length x.f3) : k59.K w x [.string x.f0, .int .u32 x.f1, .slice A2 x.f2.length c2, .slice A3 x.f3.length c3] := ⟨[.string x.f0], [.int .u32 x.f1, .slice A2 x.f2.length c2, .slice A3 x.f3.length c3], rfl, rfl, ⟨[.int .u32 x.f1], [.slice A2 x.f2.length c2, .slice A3 x.f3.length c3], rfl, rfl, ⟨[.slice A2 x.f2.length c2], [.slice A3 x.f3.length c3], rfl, ⟨A2, c2, rfl, l2, g2⟩, ⟨A3, c3, rfl, l3, g3⟩⟩⟩⟩
theorem k59_mkF (W : World) (ok : Nat → Prop) (x : S59) {A2 : Option Addr} {c2 : Nat} (l2 : x.f2.length ≤ c2) (g2 : Kd.F Kd.string W ok A2 x.f2.length x.f2) {A3 : Option Addr} {c3 : Nat} (l3 : x.f3.length ≤ c3) (g3 : Kd.F Kd.string W ok A3 x.f3.length x.f3) : Kd.FK k59 W ok x [.string x.f0, .int .u32 x.f1, .slice A2 x.f2.length c2, .slice A3 x.f3.length c3] := fun W2 hW => k59_mk W2 x l2 (g2 W2 hW) l3 (g3 W2 hW)
def rd_T59 (xs : List S59) (i : Int) : S59 := xs.getD i.toNat z59
theorem at_T59 {w : World} {A : Option Addr} {n : Nat} {xs : List S59} (h : Kd.C k59 w A n xs) (i : Int) (h0 : 0 ≤ i) (h1 : i < n) : ∃ ad A2 c2 A3 c3, A = some ad ∧ w.cell? (ad.add (i.toNat * 4)) = some (.string (rd_T59 xs i).f0) ∧ w.cell? ⟨(ad.add (i.toNat * 4)).block, (ad.add (i.toNat * 4)).off + 1, none⟩ = some (.int .u32 (rd_T59 xs i).f1) ∧ w.cell? ⟨(ad.add (i.toNat * 4)).block, (ad.add (i.toNat * 4)).off + 2, none⟩ = some (.slice A2 (rd_T59 xs i).f2.length c2) ∧ w.cell? ⟨(ad.add (i.toNat * 4)).block, (ad.add (i.toNat * 4)).off + 3, none⟩ = some (.slice A3 (rd_T59 xs i).f3.length c3) ∧ (rd_T59 xs i).f2.length ≤ c2 ∧ Kd.string.C w A2 (rd_T59 xs i).f2.length (rd_T59 xs i).f2 ∧ (rd_T59 xs i).f3.length ≤ c3 ∧ Kd.string.C w A3 (rd_T59 xs i).f3.length (rd_T59 xs i).f3 := by
  obtain ⟨ad, c, e, _, hK, hc0⟩ := Kd.C_get h z59 i h0 h1
  have hc : ∀ j u, c[j]? = some u → w.cell? (ad.add (i.toNat * 4 + j)) = some u := hc0
  obtain ⟨A2, c2, A3, c3, rfl, l2, g2, l3, g3⟩ := k59_open hK
  exact ⟨ad, A2, c2, A3, c3, e, hc 0 _ rfl, by rw [← add_field _ _ 1 (by omega)]; exact hc 1 _ rfl, by rw [← add_field _ _ 2 (by omega)]; exact hc 2 _ rfl, by rw [← add_field _ _ 3 (by omega)]; exact hc 3 _ rfl, l2, g2, l3, g3⟩
structure S37 where
  f0 : ByteArray
  f1 : Int
  f2 : ByteArray
def z37 : S37 := ⟨(⟨#[]⟩ : ByteArray), (0 : Int), (⟨#[]⟩ : ByteArray)⟩
def k37 : Kd S37 := Kd.iso (Kd.pair Kd.string (Kd.pair (Kd.int .u32) Kd.string)) (fun x : S37 => (x.f0, x.f1, x.f2))
theorem k37_open {w : World} {x : S37} {cs : List Value} (h : k37.K w x cs) : cs = [.string x.f0, .int .u32 x.f1, .string x.f2] := by
  obtain ⟨_, _, rfl, rfl, ⟨_, _, rfl, rfl, rfl⟩⟩ := h
  exact rfl
theorem k37_mkM (w : World) (base : Nat) (ok : Nat → Prop) (x : S37)  : k37.M w base ok x [.string x.f0, .int .u32 x.f1, .string x.f2] := ⟨[.string x.f0], [.int .u32 x.f1, .string x.f2], rfl, rfl, ⟨[.int .u32 x.f1], [.string x.f2], rfl, rfl, rfl⟩⟩
def rd_T37 (xs : List S37) (i : Int) : S37 := xs.getD i.toNat z37
theorem at_T37 {w : World} {A : Option Addr} {n : Nat} {xs : List S37} (h : Kd.C k37 w A n xs) (i : Int) (h0 : 0 ≤ i) (h1 : i < n) : ∃ ad , A = some ad ∧ w.cell? (ad.add (i.toNat * 3)) = some (.string (rd_T37 xs i).f0) ∧ w.cell? ⟨(ad.add (i.toNat * 3)).block, (ad.add (i.toNat * 3)).off + 1, none⟩ = some (.int .u32 (rd_T37 xs i).f1) ∧ w.cell? ⟨(ad.add (i.toNat * 3)).block, (ad.add (i.toNat * 3)).off + 2, none⟩ = some (.string (rd_T37 xs i).f2) := by
  obtain ⟨ad, c, e, _, hK, hc0⟩ := Kd.C_get h z37 i h0 h1
  have hc : ∀ j u, c[j]? = some u → w.cell? (ad.add (i.toNat * 3 + j)) = some u := hc0
  obtain rfl := k37_open hK
  exact ⟨ad, e, hc 0 _ rfl, by rw [← add_field _ _ 1 (by omega)]; exact hc 1 _ rfl, by rw [← add_field _ _ 2 (by omega)]; exact hc 2 _ rfl⟩
structure S118 where
  f0 : ByteArray
  f1 : Int
  f2 : ByteArray
def z118 : S118 := ⟨(⟨#[]⟩ : ByteArray), (0 : Int), (⟨#[]⟩ : ByteArray)⟩
def k118 : Kd S118 := Kd.iso (Kd.pair Kd.string (Kd.pair (Kd.int .u32) Kd.string)) (fun x : S118 => (x.f0, x.f1, x.f2))
theorem k118_open {w : World} {x : S118} {cs : List Value} (h : k118.K w x cs) : cs = [.string x.f0, .int .u32 x.f1, .string x.f2] := by
  obtain ⟨_, _, rfl, rfl, ⟨_, _, rfl, rfl, rfl⟩⟩ := h
  exact rfl
theorem k118_mkM (w : World) (base : Nat) (ok : Nat → Prop) (x : S118)  : k118.M w base ok x [.string x.f0, .int .u32 x.f1, .string x.f2] := ⟨[.string x.f0], [.int .u32 x.f1, .string x.f2], rfl, rfl, ⟨[.int .u32 x.f1], [.string x.f2], rfl, rfl, rfl⟩⟩
def rd_T118 (xs : List S118) (i : Int) : S118 := xs.getD i.toNat z118
theorem at_T118 {w : World} {A : Option Addr} {n : Nat} {xs : List S118} (h : Kd.C k118 w A n xs) (i : Int) (h0 : 0 ≤ i) (h1 : i < n) : ∃ ad , A = some ad ∧ w.cell? (ad.add (i.toNat * 3)) = some (.string (rd_T118 xs i).f0) ∧ w.cell? ⟨(ad.add (i.toNat * 3)).block, (ad.add (i.toNat * 3)).off + 1, none⟩ = some (.int .u32 (rd_T118 xs i).f1) ∧ w.cell? ⟨(ad.add (i.toNat * 3)).block, (ad.add (i.toNat * 3)).off + 2, none⟩ = some (.string (rd_T118 xs i).f2) := by
  obtain ⟨ad, c, e, _, hK, hc0⟩ := Kd.C_get h z118 i h0 h1
  have hc : ∀ j u, c[j]? = some u → w.cell? (ad.add (i.toNat * 3 + j)) = some u := hc0
  obtain rfl := k118_open hK
  exact ⟨ad, e, hc 0 _ rfl, by rw [← add_field _ _ 1 (by omega)]; exact hc 1 _ rfl, by rw [← add_field _ _ 2 (by omega)]; exact hc 2 _ rfl⟩
structure S75 where
  f0 : ByteArray
  f1 : Int
  f2 : ByteArray
def z75 : S75 := ⟨(⟨#[]⟩ : ByteArray), (0 : Int), (⟨#[]⟩ : ByteArray)⟩
def k75 : Kd S75 := Kd.iso (Kd.pair Kd.string (Kd.pair (Kd.int .u32) Kd.string)) (fun x : S75 => (x.f0, x.f1, x.f2))
theorem k75_open {w : World} {x : S75} {cs : List Value} (h : k75.K w x cs) : cs = [.string x.f0, .int .u32 x.f1, .string x.f2] := by
  obtain ⟨_, _, rfl, rfl, ⟨_, _, rfl, rfl, rfl⟩⟩ := h
  exact rfl
theorem k75_mkM (w : World) (base : Nat) (ok : Nat → Prop) (x : S75)  : k75.M w base ok x [.string x.f0, .int .u32 x.f1, .string x.f2] := ⟨[.string x.f0], [.int .u32 x.f1, .string x.f2], rfl, rfl, ⟨[.int .u32 x.f1], [.string x.f2], rfl, rfl, rfl⟩⟩
def rd_T75 (xs : List S75) (i : Int) : S75 := xs.getD i.toNat z75
theorem at_T75 {w : World} {A : Option Addr} {n : Nat} {xs : List S75} (h : Kd.C k75 w A n xs) (i : Int) (h0 : 0 ≤ i) (h1 : i < n) : ∃ ad , A = some ad ∧ w.cell? (ad.add (i.toNat * 3)) = some (.string (rd_T75 xs i).f0) ∧ w.cell? ⟨(ad.add (i.toNat * 3)).block, (ad.add (i.toNat * 3)).off + 1, none⟩ = some (.int .u32 (rd_T75 xs i).f1) ∧ w.cell? ⟨(ad.add (i.toNat * 3)).block, (ad.add (i.toNat * 3)).off + 2, none⟩ = some (.string (rd_T75 xs i).f2) := by
  obtain ⟨ad, c, e, _, hK, hc0⟩ := Kd.C_get h z75 i h0 h1
  have hc : ∀ j u, c[j]? = some u → w.cell? (ad.add (i.toNat * 3 + j)) = some u := hc0
  obtain rfl := k75_open hK
  exact ⟨ad, e, hc 0 _ rfl, by rw [← add_field _ _ 1 (by omega)]; exact hc 1 _ rfl, by rw [← add_field _ _ 2 (by omega)]; exact hc 2 _ rfl⟩
structure S83 where
  f0 : ByteArray
  f1 : Int
  f2 : ByteArray
  f3 : Bool
def z83 : S83 := ⟨(⟨#[]⟩ : ByteArray), (0 : Int), (⟨#[]⟩ : ByteArray), false⟩
def k83 : Kd S83 := Kd.iso (Kd.pair Kd.string (Kd.pair (Kd.int .u32) (Kd.pair Kd.string Kd.bool))) (fun x : S83 => (x.f0, x.f1, x.f2, x.f3))
theorem k83_open {w : World} {x : S83} {cs : List Value} (h : k83.K w x cs) : cs = [.string x.f0, .int .u32 x.f1, .string x.f2, .bool x.f3] := by
  obtain ⟨_, _, rfl, rfl, ⟨_, _, rfl, rfl, ⟨_, _, rfl, rfl, rfl⟩⟩⟩ := h
  exact rfl
def rd_T83 (xs : List S83) (i : Int) : S83 := xs.getD i.toNat z83
theorem at_T83 {w : World} {A : Option Addr} {n : Nat} {xs : List S83} (h : Kd.C k83 w A n xs) (i : Int) (h0 : 0 ≤ i) (h1 : i < n) : ∃ ad , A = some ad ∧ w.cell? (ad.add (i.toNat * 4)) = some (.string (rd_T83 xs i).f0) ∧ w.cell? ⟨(ad.add (i.toNat * 4)).block, (ad.add (i.toNat * 4)).off + 1, none⟩ = some (.int .u32 (rd_T83 xs i).f1) ∧ w.cell? ⟨(ad.add (i.toNat * 4)).block, (ad.add (i.toNat * 4)).off + 2, none⟩ = some (.string (rd_T83 xs i).f2) ∧ w.cell? ⟨(ad.add (i.toNat * 4)).block, (ad.add (i.toNat * 4)).off + 3, none⟩ = some (.bool (rd_T83 xs i).f3) := by
  obtain ⟨ad, c, e, _, hK, hc0⟩ := Kd.C_get h z83 i h0 h1
  have hc : ∀ j u, c[j]? = some u → w.cell? (ad.add (i.toNat * 4 + j)) = some u := hc0
  obtain rfl := k83_open hK
  exact ⟨ad, e, hc 0 _ rfl, by rw [← add_field _ _ 1 (by omega)]; exact hc 1 _ rfl, by rw [← add_field _ _ 2 (by omega)]; exact hc 2 _ rfl, by rw [← add_field _ _ 3 (by omega)]; exact hc 3 _ rfl⟩
end Go.Proofs.YtkbegfihdpiacaaDoor.PX

namespace Go.Proofs.YtkbegfihdpiacaaDoor.PX
open Go.RowKit Nt Go.Lib Go.Maps Go.Proofs.YtkbegfihdpiacaaDoorW.PrintWords Go.Proofs.YtkbegfihdpiacaaDoorW.PrintLast
set_option linter.unusedVariables false
set_option linter.unusedSimpArgs false
theorem laidOutP : laidOutB Tryd.prog = true := by kernel_rfl
theorem rowK : (122 : TypeId) < Tryd.prog.types.size := of_decide_eq_true (by kernel_rfl)
theorem wideK : (match Tryd.prog.underlying 122 with | some (.array _ _) | some (.struct _) => true | _ => false) = true := by kernel_rfl
set_option maxRecDepth 100000 in
theorem lawK : Keyed Tryd.prog 122 := Keyed.of_law (deep_law_laid laidOutP (m := 2) (by omega) rowK (by kernel_rfl) wideK)
theorem lawS : Keyed Tryd.prog 9 := string_keyed Tryd.underlying9
/-- The key of a name and a hash. -/
def keyV (s : ByteArray) (h : Int) : Value := .agg #[.string s, .int .u32 h]
theorem keyV_inj {s s' : ByteArray} {h h' : Int} (e : keyV s h = keyV s' h') : s = s' ∧ h = h' := by
  unfold keyV at e
  injection e with e
  have e := congrArg Array.toList e
  simp only [List.cons.injEq] at e
  obtain ⟨e1, e2, _⟩ := e
  injection e1 with e1
  injection e2 with _ e2
  exact ⟨e1, e2⟩
theorem keyTypeK : Tryd.prog.keyType 122 = true := by kernel_rfl
theorem underK : ∃ fs, Tryd.prog.underlying 122 = some (.struct fs) ∧ fs.all (·.name != "_") = true ∧ ∃ f0 f1 : Field, fs.toList = [f0, f1] ∧ f0.type = 9 ∧ f0.offset = 0 ∧ f1.type = 23 ∧ f1.offset = 1 := by
  refine ⟨_, Tryd.underlying122, by kernel_rfl, ?_⟩
  exact ⟨_, _, rfl, rfl, rfl, rfl, rfl⟩
theorem cellsK : Tryd.prog.cellsOf 122 = 2 := by kernel_rfl
theorem cellsStr : Tryd.prog.cellsOf 9 = 1 := by kernel_rfl
theorem cellsU32 : Tryd.prog.cellsOf 23 = 1 := by kernel_rfl
theorem keyOfK (s : ByteArray) (h : Int) (hs : s.size ≤ maxLen) (hw : (Lit.int .u32 h).wf = true) : ∃ l, keyOf Tryd.prog 122 (keyV s h) = some l := by
  obtain ⟨fs, hu, hall, f0, f1, hfs, t0, o0, t1, o1⟩ := underK
  obtain ⟨n, hn⟩ : ∃ n, Tryd.prog.types.size + 1 = n + 2 := ⟨Tryd.prog.types.size - 1, by have h : (122 : Nat) < Tryd.prog.types.size := rowK; omega⟩
  have hf : (keyV s h).formed Tryd.prog 122 = true := by
    simp [keyV, Value.formed, hu, cellsK]
  have e0 : Tryd.prog.keyLits (n + 1) 9 [.string s] = some [.string s.data.toList] := by
    simp [Program.keyLits, Tryd.underlying9, hs]
  have e1 : Tryd.prog.keyLits (n + 1) 23 [.int .u32 h] = some [.int .u32 h] := by
    simp [Program.keyLits, Tryd.underlying23, hw]
  have hl : Tryd.prog.keyLits (n + 2) 122 (keyV s h).cells.toList = some [.string s.data.toList, .int .u32 h] := by
    unfold Program.keyLits
    simp [hu, keyV, Value.cells, cellsK, hall, hfs, t0, o0, t1, o1, cellsStr, cellsU32, e0, e1]
  refine ⟨.string (keyBytes [.string s.data.toList, .int .u32 h]), ?_⟩
  unfold keyOf
  rw [hu]
  simp only [keyTypeK, hf, Bool.and_self, if_true, hn, hl, Option.map_some]
/-- A verifier, as the interface value holds it. -/
def verC (x : S34) (A2 : Option Addr) (c2 : Nat) (A3 : Option Addr) (c3 : Nat) : Value := .agg #[.string x.f0, .int .u32 x.f1, .slice A2 x.f2.length c2, .slice A3 x.f3.length c3]
set_option maxRecDepth 100000 in
theorem ver_name (x : S34) (A2 : Option Addr) (c2 : Nat) (A3 : Option Addr) (c3 : Nat) (w : World) :
    Calls Tryd.prog 112 #[verC x A2 c2 A3 c3] w fun e w' => e = .returned (.string x.f0) ∧ Below w.heap.size w w' := by
  unfold verC
  go_enter Tryd.func112, Tryd.ntmps112
  go_wp2
  go_ret
  exact ⟨rfl, (Below.refl _ _).alloc (Nat.le_refl _) _⟩
set_option maxRecDepth 100000 in
theorem ver_hash (x : S34) (A2 : Option Addr) (c2 : Nat) (A3 : Option Addr) (c3 : Nat) (w : World) :
    Calls Tryd.prog 111 #[verC x A2 c2 A3 c3] w fun e w' => e = .returned (.int .u32 x.f1) ∧ Below w.heap.size w w' := by
  unfold verC
  go_enter Tryd.func111, Tryd.ntmps111
  go_wp2
  go_ret
  exact ⟨rfl, (Below.refl _ _).alloc (Nat.le_refl _) _⟩
def ints (l : List UInt8) : List Int := l.map fun b => (b.toNat : Int)
theorem ints_length (l : List UInt8) : (ints l).length = l.length := List.length_map ..
def RB (w : World) (A : Option Addr) (l : List UInt8) : Prop := ReadsInt w .u8 A l.length (ints l)
theorem RB.below {w W : World} {A : Option Addr} {l : List UInt8} (h : RB w A l) (hb : Below w.heap.size w W) : RB W A l := ReadsInt.below h hb
theorem RB.drewN {w : World} {A : Option Addr} {l : List UInt8} (h : RB w A l) (m : Nat) : RB (w.drewN m) A l := h
theorem strOf_ints (l : List UInt8) : strOfNums (ints l) = (⟨l.toArray⟩ : ByteArray) := by
  unfold strOfNums ints
  rw [List.map_map]
  have : ((fun n : Int => UInt8.ofNat n.toNat) ∘ fun b : UInt8 => (b.toNat : Int)) = id := by
    funext b
    show UInt8.ofNat ((b.toNat : Int).toNat) = b
    rw [Int.toNat_natCast, UInt8.ofNat_toNat]
  rw [this, List.map_id]
theorem RB.str {w : World} {A : Option Addr} {l : List UInt8} (h : RB w A l) (c : Nat) : (convert 65 9 (.slice A l.length c)).run Tryd.prog w = .ok (.string ⟨l.toArray⟩) w := by
  rw [← strOf_ints]; exact string_of_reads Tryd.underlying65 Tryd.underlying5 Tryd.underlying9 h
theorem ret_b {a b : Bool} (h : a = b) : Ending.returned (.bool a) = Ending.returned (.bool b) := by rw [h]
/-- A key accepts a signature of a text. -/
def accS : List ByteArray → List ByteArray → ByteArray → ByteArray → Bool
  | t :: ts, s :: ss, m, g => (t.toList == m.toList && s.toList == g.toList) || accS ts ss m g
  | _, _, _, _ => false
theorem rdStr {w : World} {A : Option Addr} {n : Nat} {xs : List ByteArray} (h : Kd.string.C w A n xs) (k : Nat) (x : ByteArray) (hx : xs[k]? = some x) : ∃ ad, A = some ad ∧ w.cell? (ad.add k) = some (.string x) := by
  have hk : k < xs.length := (List.getElem?_eq_some_iff.1 hx).1
  have hn : xs.length = n := h.1
  obtain ⟨ad, c, e, _, hK, hc⟩ := Kd.C_get h ⟨#[]⟩ (k : Int) (by omega) (by omega)
  have hK' : c = [.string (xs.getD k ⟨#[]⟩)] := hK
  have hg : xs.getD k ⟨#[]⟩ = x := by rw [List.getD_eq_getElem?_getD, hx]; rfl
  subst hK'
  have := hc 0 _ rfl
  refine ⟨ad, e, ?_⟩
  rw [hg, show Kd.string.sz = 1 from rfl] at this
  simpa using this
theorem accS_drop (ts ss : List ByteArray) (m g : ByteArray) (k : Nat) {t : ByteArray} (ht : ts[k]? = some t) :
    accS (ts.drop k) (ss.drop k) m g = match ss[k]? with | some s => ((t.toList == m.toList && s.toList == g.toList) || accS (ts.drop (k + 1)) (ss.drop (k + 1)) m g) | none => false := by
  obtain ⟨hk, e⟩ := List.getElem?_eq_some_iff.1 ht
  rw [List.drop_eq_getElem_cons hk, e]
  cases hs : ss[k]? with
  | none =>
    have : ss.drop k = [] := List.drop_eq_nil_of_le (by have := List.getElem?_eq_none_iff.1 hs; omega)
    rw [this]; rfl
  | some s =>
    obtain ⟨hk', e'⟩ := List.getElem?_eq_some_iff.1 hs
    rw [List.drop_eq_getElem_cons hk', e']; rfl
set_option maxRecDepth 100000 in
set_option maxHeartbeats 2000000 in
theorem ver_verify (x : S34) (A2 : Option Addr) (c2 : Nat) (A3 : Option Addr) (c3 : Nat) (AM AG : Option Addr) (cM cG : Nat) (lM lG : List UInt8) (w : World) (h2 : Kd.string.C w A2 x.f2.length x.f2) (h3 : Kd.string.C w A3 x.f3.length x.f3)
    (hl2 : x.f2.length ≤ 2147483647) (hl3 : x.f3.length ≤ 2147483647) (hM : RB w AM lM) (hG : RB w AG lG) :
    Calls Tryd.prog 113 #[verC x A2 c2 A3 c3, .slice AM lM.length cM, .slice AG lG.length cG] w fun e w' => e = .returned (.bool (accS x.f2 x.f3 ⟨lM.toArray⟩ ⟨lG.toArray⟩)) ∧ Below w.heap.size w w' := by
  unfold verC
  generalize hsM : (⟨lM.toArray⟩ : ByteArray) = sM
  generalize hsG : (⟨lG.toArray⟩ : ByteArray) = sG
  have HM := Lib.hid hM
  have HG := Lib.hid hG
  have HSM := Lib.hid hsM
  have HSG := Lib.hid hsG
  have H2 := Lib.hid h2
  have H3 := Lib.hid h3
  clear hM hG hsM hsG h2 h3
  go_enter Tryd.func113, Tryd.ntmps113
  go_wp2
  have HB := Lib.hid ((Below.refl w.heap.size w).alloc (Nat.le_refl _) (.cells #[.string x.f0, .int .u32 x.f1, .slice A2 x.f2.length c2, .slice A3 x.f3.length c3] 126))
  have HC : Hid ((w.alloc (.cells #[.string x.f0, .int .u32 x.f1, .slice A2 x.f2.length c2, .slice A3 x.f3.length c3] 126)).cell? ⟨w.heap.size, 3, none⟩ = some (.slice A3 x.f3.length c3)) := Lib.hid (by go_simp)
  generalize w.alloc (.cells #[.string x.f0, .int .u32 x.f1, .slice A2 x.f2.length c2, .slice A3 x.f3.length c3] 126) = W1 at *
  go_loopw [13] (fun i wr => ∃ k m : Nat, k ≤ x.f2.length ∧ i = .int .i64 k ∧ wr = W1.drewN m ∧ accS x.f2 x.f3 sM sG = accS (x.f2.drop k) (x.f3.drop k) sM sG) (fun i _ => x.f2.length - (intOf i).toNat)
  case atStart => exact ⟨0, 0, Nat.zero_le _, rfl, rfl, by simp⟩
  case round =>
    obtain ⟨k, m, hk, rfl, rfl, hacc⟩ := hrel
    have HA := Lib.hid hacc
    clear hacc
    have HBm := Lib.hid (pw_below_drewN HB.out m)
    have c3' := HC.out
    by_cases hlt : k < x.f2.length
    · obtain ⟨t, ht⟩ : ∃ t, x.f2[k]? = some t := ⟨_, List.getElem?_eq_getElem hlt⟩
      obtain ⟨ad2, rfl, e2⟩ := rdStr H2.out k t ht
      replace e2 := pw_cell_below HB.out e2
      have hstep := accS_drop x.f2 x.f3 sM sG k ht
      have HST := Lib.hid hstep
      clear hstep ht
      have cvM : ∀ j, (convert 65 9 (.slice AM lM.length cM)).run Tryd.prog (W1.drewN j) = .ok (.string sM) (W1.drewN j) := fun j => by
        rw [← HSM.out]; exact ((HM.out.below HB.out).drewN j).str cM
      have cvG : ∀ j, (convert 65 9 (.slice AG lG.length cG)).run Tryd.prog (W1.drewN j) = .ok (.string sG) (W1.drewN j) := fun j => by
        rw [← HSG.out]; exact ((HG.out.below HB.out).drewN j).str cG
      by_cases h3l : k < x.f3.length
      · have h3b : decide (k < x.f3.length) = true := decide_eq_true h3l
        have h3i : decide ((k : Int) < (x.f3.length : Int)) = true := decide_eq_true (by omega)
        obtain ⟨s, hs⟩ : ∃ s, x.f3[k]? = some s := ⟨_, List.getElem?_eq_getElem h3l⟩
        obtain ⟨ad3, rfl, e3⟩ := rdStr H3.out k s hs
        replace e3 := pw_cell_below HB.out e3
        have HS := Lib.hid hs
        clear hs
        by_cases hb1 : (t.toList == sM.toList) = true
        · by_cases hb2 : (s.toList == sG.toList) = true
          · have hend : accS x.f2 x.f3 sM sG = true := by rw [HA.out, HST.out, HS.out]; simp [hb1, hb2]
            have HE := Lib.hid hend
            clear hend
            go_wp2
            go_quiet (fail)
            go_wp2
            go_ret
            exact ⟨ret_b HE.out.symm, pw_below_drewN (pw_below_drewN HB.out m) _⟩
          · have hb2' : (s.toList == sG.toList) = false := by simpa using hb2
            have hend : accS x.f2 x.f3 sM sG = accS (x.f2.drop (k + 1)) (x.f3.drop (k + 1)) sM sG := by rw [HA.out, HST.out, HS.out]; simp [hb2']
            have HE := Lib.hid hend
            clear hend hb2
            go_wp2
            go_quiet (fail)
            go_wp2
            go_roundw
            case rel => exact ⟨k + 1, _, by omega, by go_num, rfl, HE.out⟩
            case measure => simp [intOf]; omega
        · have hb1' : (t.toList == sM.toList) = false := by simpa using hb1
          have hend : accS x.f2 x.f3 sM sG = accS (x.f2.drop (k + 1)) (x.f3.drop (k + 1)) sM sG := by rw [HA.out, HST.out, HS.out]; simp [hb1']
          have HE := Lib.hid hend
          clear hend hb1
          go_wp2
          go_quiet (fail)
          go_wp2
          go_roundw
          case rel => exact ⟨k + 1, _, by omega, by go_num, rfl, HE.out⟩
          case measure => simp [intOf]; omega
      · have h3b : decide (k < x.f3.length) = false := decide_eq_false h3l
        have h3i : decide ((k : Int) < (x.f3.length : Int)) = false := decide_eq_false (by omega)
        have hend : accS x.f2 x.f3 sM sG = accS (x.f2.drop (k + 1)) (x.f3.drop (k + 1)) sM sG := by
          rw [HA.out, HST.out, List.getElem?_eq_none (by omega)]
          have : x.f3.drop (k + 1) = [] := List.drop_eq_nil_of_le (by omega)
          rw [this]
          cases x.f2.drop (k + 1) <;> rfl
        have HE := Lib.hid hend
        clear hend
        go_wp2
        go_quiet (fail)
        go_wp2
        go_roundw
        case rel => exact ⟨k + 1, _, by omega, by go_num, rfl, HE.out⟩
        case measure => simp [intOf]; omega
    · obtain rfl : k = x.f2.length := by omega
      have hend : accS x.f2 x.f3 sM sG = false := by rw [HA.out, List.drop_length]; rfl
      have HE := Lib.hid hend
      clear hend
      go_wp2
      go_ret
      exact ⟨ret_b HE.out.symm, HBm.out⟩
end Go.Proofs.YtkbegfihdpiacaaDoor.PX

namespace Go.Proofs.YtkbegfihdpiacaaDoor.PX
open Go.RowKit Nt Go.Lib Go.Proofs.YtkbegfihdpiacaaDoorW.PrintWords Go.Proofs.YtkbegfihdpiacaaDoorW.PrintLast
set_option linter.unusedVariables false
set_option linter.unusedSimpArgs false
/-- Two new lines stand at a place. -/
def nnAt (l : List UInt8) (i : Nat) : Bool := l[i]? == some 10 && l[i + 1]? == some 10
/-- The last such place below n. -/
def lastN (l : List UInt8) : Nat → Option Nat
  | 0 => none
  | n + 1 => if nnAt l n = true then some n else lastN l n
/-- A place, or -1. -/
def idxI : Option Nat → Int
  | none => -1
  | some i => (i : Int)
theorem lastN_lt (l : List UInt8) : ∀ n i, lastN l n = some i → i < n ∧ nnAt l i = true
  | 0, i, h => by simp [lastN] at h
  | n + 1, i, h => by
    unfold lastN at h
    split at h
    · cases h; exact ⟨by omega, by assumption⟩
    · have := lastN_lt l n i h; exact ⟨by omega, this.2⟩
theorem nnAt_end (l : List UInt8) (i : Nat) (h : l.length ≤ i + 1) : nnAt l i = false := by
  unfold nnAt
  rw [List.getElem?_eq_none (show l.length ≤ i + 1 from h)]
  simp
theorem lastN_end (l : List UInt8) : lastN l l.length = lastN l (l.length - 1) := by
  rcases Nat.eq_zero_or_pos l.length with h | h
  · rw [h]
  · obtain ⟨n, hn⟩ : ∃ n, l.length = n + 1 := ⟨l.length - 1, by omega⟩
    rw [hn]
    conv => lhs; unfold lastN
    rw [nnAt_end l n (by omega)]
    simp
/-- A byte as a number. -/
def bI (l : List UInt8) (i : Nat) : Int := ((l.getD i 0).toNat : Int)
theorem bI_range (l : List UInt8) (i : Nat) : 0 ≤ bI l i ∧ bI l i ≤ 255 := by unfold bI; have := (l.getD i 0).toNat_lt; omega
theorem rd_ints (l : List UInt8) (i : Nat) : rd (ints l) (i : Int) = bI l i := by
  unfold rd bI ints
  rw [Int.toNat_natCast, List.getD_eq_getElem?_getD, List.getElem?_map, List.getD_eq_getElem?_getD]
  cases l[i]? <;> rfl
theorem nnAt_iff (l : List UInt8) (i : Nat) (h : i + 1 < l.length) : nnAt l i = true ↔ bI l i = 10 ∧ bI l (i + 1) = 10 := by
  unfold nnAt bI
  rw [List.getElem?_eq_getElem (show i < l.length by omega), List.getElem?_eq_getElem h, List.getD_eq_getElem?_getD, List.getD_eq_getElem?_getD, List.getElem?_eq_getElem (show i < l.length by omega), List.getElem?_eq_getElem h]
  have e : ∀ b : UInt8, (b = 10) ↔ ((b.toNat : Int) = 10) := fun b => by
    constructor
    · rintro rfl; rfl
    · intro h; exact UInt8.toNat_inj.1 (by have : (10 : UInt8).toNat = 10 := rfl; omega)
  simp only [Bool.and_eq_true, beq_iff_eq, Option.some.injEq, Option.getD_some]
  rw [e, e]
/-- The hash of the two bytes at a place. -/
def hs2 (l : List UInt8) (i : Nat) : Int := (bI l (i + 1) * 16777619 + bI l i) % 4294967296
theorem hs2_roll (a b c : Int) (ha : 0 ≤ a ∧ a ≤ 255) (hb : 0 ≤ b ∧ b ≤ 255) (hc : 0 ≤ c ∧ c ≤ 255) :
    ((((((c * 16777619 + b) % 4294967296 * 16777619) % 4294967296) + (a % 4294967296)) % 4294967296) - ((637696617 * (c % 4294967296)) % 4294967296)) % 4294967296 = (b * 16777619 + a) % 4294967296 := by
  omega
theorem hash2 : PY.bytealg_hashStrRev_byte.f 10 [10, 10] = some (167776200, 637696617) := by decide +kernel
theorem str2 (l : List UInt8) (i : Nat) (h : i + 1 < l.length) : (strOfNums (((ints l).take (i + 2)).drop i)).toList = (strOfNums [10, 10]).toList ↔ nnAt l i = true := by
  rw [ByteArray.toList_eq, ByteArray.toList_eq, strOfNums_data, strOfNums_data]
  have e : ((ints l).take (i + 2)).drop i = [bI l i, bI l (i + 1)] := by
    have hl : (ints l).length = l.length := ints_length l
    rw [List.drop_take, show i + 2 - i = 2 by omega, List.drop_eq_getElem_cons (by omega), List.drop_eq_getElem_cons (by omega)]
    simp only [List.take_succ_cons, List.take_zero]
    unfold bI ints
    simp [List.getD_eq_getElem?_getD, List.getElem?_eq_getElem (show i < l.length by omega), List.getElem?_eq_getElem h]
  rw [e, nnAt_iff l i h]
  have hr := bI_range l i
  have hr' := bI_range l (i + 1)
  simp only [List.map_cons, List.map_nil, List.cons.injEq, and_true]
  have e1 : ∀ x : Int, 0 ≤ x ∧ x ≤ 255 → (UInt8.ofNat x.toNat = UInt8.ofNat (10 : Int).toNat ↔ x = 10) := fun x hx => by
    constructor
    · intro h
      have := congrArg UInt8.toNat h
      simp at this
      omega
    · rintro rfl; rfl
  rw [e1 _ hr, e1 _ hr']
theorem rk_l1 (l : List UInt8) (hl : l.length ≤ 2147483647) : ∀ n, n + 1 < l.length → ∃ k, PY.bytealg_LastIndexRabinKarp_byte.l1 k (ints l) [10, 10] 167776200 637696617 2 (hs2 l n) ((n : Int) - 1) = some (idxI (lastN l n))
  | 0, h => ⟨1, by unfold PY.bytealg_LastIndexRabinKarp_byte.l1; rw [if_neg (by omega)]; rfl⟩
  | n + 1, h => by
    obtain ⟨k, hk⟩ := rk_l1 l hl n (by omega)
    refine ⟨k + 1, ?_⟩
    have hil : ((ints l).length : Int) = (l.length : Int) := by rw [ints_length]
    have e0 : (((n + 1 : Nat) : Int) - 1) = (n : Int) := by omega
    have e1 : wrap64 ((n : Int) + 2) = ((n + 2 : Nat) : Int) := by rw [IntWalk.wrap64_in _ ⟨by omega, by omega⟩]; omega
    have e2 : wrap64 ((n : Int) - 1) = (n : Int) - 1 := IntWalk.wrap64_in _ ⟨by omega, by omega⟩
    unfold PY.bytealg_LastIndexRabinKarp_byte.l1
    rw [e0, e1, e2, hil]
    rw [if_pos (by omega), if_pos (by omega), if_pos (by omega), if_pos (by omega), if_pos (by omega)]
    rw [rd_ints, rd_ints]
    have hroll : ((((((hs2 l (n + 1)) * 16777619) % 4294967296) + ((bI l n) % 4294967296)) % 4294967296) - ((637696617 * ((bI l (n + 2)) % 4294967296)) % 4294967296)) % 4294967296 = hs2 l n :=
      hs2_roll _ _ _ (bI_range l n) (bI_range l (n + 1)) (bI_range l (n + 2))
    rw [hroll]
    have hstr := str2 l n (by omega)
    rw [Int.toNat_natCast, Int.toNat_natCast]
    by_cases hnn : nnAt l n = true
    · have hh : hs2 l n = 167776200 := by
        obtain ⟨a, b⟩ := (nnAt_iff l n (by omega)).1 hnn
        unfold hs2; rw [a, b]; rfl
      rw [if_pos hh, if_pos (by omega), if_pos (by omega), if_pos (hstr.2 hnn)]
      unfold lastN; rw [if_pos hnn]; rfl
    · have hl1 : lastN l (n + 1) = lastN l n := by
        rw [lastN]; exact if_neg hnn
      rw [hl1]
      by_cases hh : hs2 l n = 167776200
      · rw [if_pos hh, if_pos (by omega), if_pos (by omega), if_neg (fun e => hnn (hstr.1 e))]
        exact hk
      · rw [if_neg hh]; exact hk
theorem last_eq (l : List UInt8) (hl : l.length ≤ 2147483647) : ∃ k, PY.bytes_LastIndex.f k (ints l) [10, 10] = some (idxI (lastN l l.length)) := by
  have hil : ((ints l).length : Int) = (l.length : Int) := by rw [ints_length]
  unfold PY.bytes_LastIndex.f
  simp only [List.length_cons, List.length_nil, hil]
  by_cases h2 : l.length = 2
  · refine ⟨0, ?_⟩
    rw [if_neg (by omega), if_neg (by omega), if_pos (by omega)]
    unfold PY.bytes_Equal.f
    simp only [Option.bind_some]
    have hs := str2 l 0 (by omega)
    rw [show ((ints l).take (0 + 2)).drop 0 = ints l by rw [List.drop_zero]; exact List.take_of_length_le (by rw [ints_length]; omega)] at hs
    rw [lastN_end, h2]
    show _ = some (idxI (lastN l 1))
    by_cases hnn : nnAt l 0 = true
    · rw [if_pos (by rw [hs.2 hnn]; simp)]
      unfold lastN; rw [if_pos hnn]; rfl
    · rw [if_neg (by simp only [beq_iff_eq]; exact fun e => hnn (hs.1 e))]
      unfold lastN; rw [if_neg hnn]; rfl
  · by_cases h3 : l.length < 2
    · refine ⟨0, ?_⟩
      rw [if_neg (by omega), if_neg (by omega), if_neg (by omega), if_pos (by omega)]
      rw [lastN_end]
      have : l.length - 1 = 0 := by omega
      rw [this]; rfl
    · obtain ⟨n, hn⟩ : ∃ n, l.length = n + 3 := ⟨l.length - 3, by omega⟩
      obtain ⟨k1, hk1⟩ := rk_l1 l hl (n + 1) (by omega)
      have key : ∃ k, PY.bytealg_LastIndexRabinKarp_byte.l0 k (ints l) [10, 10] 167776200 637696617 2 (wrap64 ((l.length : Int) - 2)) 0 (wrap64 ((l.length : Int) - 1)) = some (idxI (lastN l l.length)) := by
        refine ⟨k1 + 4, ?_⟩
        have e1 : wrap64 ((l.length : Int) - 2) = ((n + 1 : Nat) : Int) := by rw [IntWalk.wrap64_in _ ⟨by omega, by omega⟩]; omega
        have e2 : wrap64 ((l.length : Int) - 1) = ((n + 2 : Nat) : Int) := by rw [IntWalk.wrap64_in _ ⟨by omega, by omega⟩]; omega
        have e3 : wrap64 (((n + 2 : Nat) : Int) - 1) = ((n + 1 : Nat) : Int) := by rw [IntWalk.wrap64_in _ ⟨by omega, by omega⟩]; omega
        have e4 : wrap64 (((n + 1 : Nat) : Int) - 1) = (n : Int) := by rw [IntWalk.wrap64_in _ ⟨by omega, by omega⟩]; omega
        rw [e1, e2]
        have r2 := bI_range l (n + 2)
        have r1 := bI_range l (n + 1)
        unfold PY.bytealg_LastIndexRabinKarp_byte.l0
        rw [if_pos (by omega), if_pos (by omega), if_pos (by rw [hil]; omega), e3, rd_ints]
        unfold PY.bytealg_LastIndexRabinKarp_byte.l0
        rw [if_pos (by omega), if_pos (by omega), if_pos (by rw [hil]; omega), e4, rd_ints]
        have hh : ((((((0 * 16777619) % 4294967296 + (bI l (n + 2)) % 4294967296) % 4294967296) * 16777619) % 4294967296) + ((bI l (n + 1)) % 4294967296)) % 4294967296 = hs2 l (n + 1) := by unfold hs2; show _ = (bI l (n + 2) * 16777619 + bI l (n + 1)) % 4294967296; omega
        rw [hh]
        unfold PY.bytealg_LastIndexRabinKarp_byte.l0
        rw [if_neg (by omega)]
        have hstr := str2 l (n + 1) (by omega)
        have hdrop : ((ints l).take (n + 1 + 2)).drop (n + 1) = (ints l).drop ((n + 1 : Nat) : Int).toNat := by rw [Int.toNat_natCast, List.take_of_length_le (by rw [ints_length]; omega)]
        rw [hdrop] at hstr
        have hlast : lastN l l.length = lastN l (n + 2) := by rw [lastN_end, hn]; rfl
        rw [hlast]
        have hj : ∀ b : Bool, (b = true ↔ nnAt l (n + 1) = true) → PY.bytealg_LastIndexRabinKarp_byte.j1 (k1 + 1) (ints l) [10, 10] 167776200 637696617 2 ((n + 1 : Nat) : Int) (hs2 l (n + 1)) b = some (idxI (lastN l (n + 2))) := by
          intro b hb
          rw [PY.bytealg_LastIndexRabinKarp_byte.j1]
          by_cases hnn : nnAt l (n + 1) = true
          · rw [if_pos (hb.2 hnn)]
            rw [show lastN l (n + 2) = some (n + 1) by rw [lastN]; exact if_pos hnn]; rfl
          · rw [if_neg (fun e => hnn (hb.1 e))]
            rw [show lastN l (n + 2) = lastN l (n + 1) by rw [lastN]; exact if_neg hnn, e4]
            have : (n : Int) = ((n + 1 : Nat) : Int) - 1 := by omega
            rw [this]
            exact hk1
        by_cases hh2 : hs2 l (n + 1) = 167776200
        · rw [if_pos hh2, if_pos (by omega), if_pos (by rw [hil]; omega)]
          refine hj _ ?_
          rw [beq_iff_eq]; exact hstr
        · rw [if_neg hh2]
          refine hj _ ⟨fun h => (by cases h), fun hnn => absurd ?_ hh2⟩
          obtain ⟨a, b⟩ := (nnAt_iff l (n + 1) (by omega)).1 hnn
          unfold hs2; rw [a, b]; rfl
      obtain ⟨k, hk⟩ := key
      have h10 : ∃ K, PY.bytealg_hashStrRev_byte.f K [10, 10] = some (167776200, 637696617) ∧ PY.bytealg_LastIndexRabinKarp_byte.l0 K (ints l) [10, 10] 167776200 637696617 2 (wrap64 ((l.length : Int) - 2)) 0 (wrap64 ((l.length : Int) - 1)) = some (idxI (lastN l l.length)) :=
        together (PY.bytealg_hashStrRev_byte.mono _) (fun k => (PY.bytealg_LastIndexRabinKarp_byte.mono_l k).1 _ _ _ _ _ _ _ _) ⟨10, hash2⟩ ⟨k, hk⟩
      obtain ⟨K, hK1, hK2⟩ := h10
      refine ⟨K, ?_⟩
      rw [if_neg (by omega), if_neg (by omega), if_neg (by omega), if_neg (by omega)]
      unfold PY.bytealg_LastIndexRabinKarp_byte.f
      rw [hK1]
      simp only [Option.bind_some, List.length_cons, List.length_nil, hil]
      rw [show (((0 + 1 + 1 : Nat)) : Int) = 2 from rfl, hK2]
      rfl
end Go.Proofs.YtkbegfihdpiacaaDoor.PX

namespace Go.Proofs.YtkbegfihdpiacaaDoor.PX
open Go.RowKit Go.Proofs.YtkbegfihdpiacaaDoorW.PrintWords Go.Proofs.YtkbegfihdpiacaaDoorW.PrintLast Go.Proofs.YtkbegfihdpiacaaDoorW.PrintMore
attribute [local go_sem] max2_int min2_int max_two min_two max_three min_three max_four min_four   -- for this text's walks alone
set_option linter.unusedVariables false
set_option linter.unusedSimpArgs false
def sumdbnote_bePutUint32.f (l0 : List Int) (a1 : Int) : Option (List Int) := if 0 < (l0.length : Int) then (if 1 < (l0.length : Int) then (if 2 < (l0.length : Int) then (if 3 < (l0.length : Int) then (some ((((l0.set (0 : Int).toNat ((a1 / 16777216) % 256)).set (1 : Int).toNat ((a1 / 65536) % 256)).set (2 : Int).toNat ((a1 / 256) % 256)).set (3 : Int).toNat ((a1) % 256))) else (none)) else (none)) else (none)) else (none)
def impl_out.l0 : Nat → List (S118) → List (S75) → Int → Int → Option ((List (S118)))
  | 0, _, _, _, _ => none
  | k + 1, x3, x7, x8, x9 => if x9 < x8 then (if 0 ≤ x9 then (if x9 < (x7.length : Int) then (if x3.length < 3518437208883 then (impl_out.l0 k (x3 ++ [(⟨(rd_T75 x7 x9).f0, (rd_T75 x7 x9).f1, (rd_T75 x7 x9).f2⟩ : S118)]) x7 x8 (wrap64 (x9 + 1))) else (none)) else (none)) else (none)) else (some x3)
def impl_out.f (k : Nat) (l0 : List (S75)) : Option ((List (S118))) := impl_out.l0 k (([] : List (S118))) l0 (l0.length : Int) 0
theorem impl_out.mono_l : ∀ k, (∀ y0 y1 y2 y3, LeO (impl_out.l0 k y0 y1 y2 y3) (impl_out.l0 (k + 1) y0 y1 y2 y3))
  | 0 => fun _ _ _ _ r h => by simp [impl_out.l0] at h
  | k + 1 => by
    have ih0 := impl_out.mono_l k
    · intro y0 y1 y2 y3
      unfold impl_out.l0
      repeat' first
      | (with_reducible exact ih0 _ _ _ _)
      | (with_reducible exact LeO.refl _)
      | (with_reducible exact LeO.none _)
      | (with_reducible refine LeO.ite ?_ ?_)
      | (with_reducible refine LeO.bind ?_ (fun _ => ?_))
      | exact ih0 _ _ _ _
      | exact LeO.none _
      | refine LeO.ite ?_ ?_
      | refine LeO.bind ?_ (fun _ => ?_)
theorem impl_out.mono : ∀ a0 k, LeO (impl_out.f k a0) (impl_out.f (k + 1) a0) := by
  intro a0 k
  have ih0 := impl_out.mono_l k
  unfold impl_out.f
  repeat' first
      | (with_reducible exact ih0 _ _ _ _)
      | (with_reducible exact LeO.refl _)
      | (with_reducible exact LeO.none _)
      | (with_reducible refine LeO.ite ?_ ?_)
      | (with_reducible refine LeO.bind ?_ (fun _ => ?_))
      | exact ih0 _ _ _ _
      | exact LeO.none _
      | refine LeO.ite ?_ ?_
      | refine LeO.bind ?_ (fun _ => ?_)
set_option maxHeartbeats 8000000 in
set_option maxRecDepth 100000 in
theorem impl_out.calls (k : Nat) (A0 : Option Addr) (c0 : Nat) (l0 : List (S75)) (r : List (S118)) (w : World) (hr0 : Kd.C k75 w A0 l0.length l0) (hc0 : l0.length ≤ c0) (h : impl_out.f k l0 = some r) :
    Calls Tryd.prog 30 #[.slice A0 l0.length c0] w fun e w' => ∃ v0_ : Value, e = .returned (v0_) ∧ Kd.R k118 118 w' w.heap.size (fun _ => True) v0_ r ∧ Below w.heap.size w w' := by
  have hu75 := Tryd.underlying75
  have hu118 := Tryd.underlying118
  have HR0 := Aside0.mk hr0
  have HC0 := Aside0.mk hc0
  clear hr0 hc0
  have HB := Aside0.mk (Below.refl w.heap.size w)
  have H : (impl_out.l0 k (([] : List (S118))) l0 (l0.length : Int) 0) = some r := h
  clear h
  obtain ⟨y392, hy392⟩ : ∃ y_ : List (S118), y_ = (([] : List (S118))) := ⟨_, rfl⟩
  replace H : (impl_out.l0 k y392 l0 (l0.length : Int) 0) = some r := by first | (rw [hy392]; with_reducible exact H) | (have H2_ := (Option.bind_some _ _).symm.trans H; rw [hy392]; with_reducible exact H2_) | (have H2_ := (Option.bind_some _ _).symm.trans H; with_reducible exact H2_) | with_reducible exact H | (rw [hy392]; exact H) | exact H
  have Ny392 := Aside0.mk hy392
  clear hy392
  have H' := Aside0.mk H
  clear H
  go_enter Tryd.func30, Tryd.ntmps30
  go_wp2_with (first | ((with_reducible refine gate_dst (N := 6) rfl ?_); refine Kd.R_lit k118 _ 118 ?hg (N := 6) ?hd (xs := ([] : List (S118))) (inner := []) (ok := fun _ => True) (okp := fun _ => True) ?hr ?hp (fun _ hk => hk) trivial (Below.refl _ _) (Nat.le_refl _) (by simp) ?_; (case hd => rfl); (case hg => rfl); (case hr => first | (go_simp; done) | (go_simp; rfl)); (case hp => exact (Reps.none _ _)); intro v393 w2 ho3 hb hg_ hnew_; clear hg_ hnew_; (first | rw [← Ny392.out] at ho3 | (simp only [Int.reduceToNat] at ho3; rw [← Ny392.out] at ho3)); have n0_ := Aside0.mk (Kd.R_lower ho3 (below_size (by repeat (first | (with_reducible first | exact HB.out | apply below_alloc | apply pw_below_drewN | apply below_drew1) | exact HB.out)))); have n1_ := Aside0.mk (below_step (by repeat (first | (with_reducible first | exact HB.out | apply below_alloc | apply pw_below_drewN | apply below_drew1) | exact HB.out)) hb); clear HB; have HO394 := n0_; have HB := n1_; clear n0_ n1_; clear hb ho3))
  go_loopg [3, 9] k (fun kq v3 v9 w' => ∃ (x3_1 : List (S118)) (x9_1 : Int), v9 = .int .i64 x9_1 ∧ Aside0 (impl_out.l0 kq x3_1 l0 (l0.length : Int) x9_1 = some r) ∧ Aside0 (kq ≤ k) ∧ Aside0 (Kd.R k118 118 w' w.heap.size (fun _ => True) v3 x3_1) ∧ Aside0 (Below w.heap.size w w'))
  case atStart => exact ⟨(y392), (0), (by first | rfl | (simp; done) | (simp [*]; done)), H', ⟨Nat.le_refl _⟩, ⟨by (with_reducible repeat (first | apply Kd.R_alloc | apply Kd.R_drewN | apply Kd.R_drew)); exact HO394.out⟩, ⟨by repeat (first | (with_reducible first | exact HB.out | apply below_alloc | apply pw_below_drewN | apply below_drew1) | exact HB.out)⟩⟩
  case round =>
    clear H'
    try clear p2
    try clear c3
    obtain ⟨x3_1, x9_1, rfl, HA, HK1, HO_3, HB⟩ := hrel
    cases gk with
    | zero => exact absurd HA.out (by simp [impl_out.l0])
    | succ k1 =>
      have H := HA.out
      clear HA
      simp only [impl_out.l0] at H
      by_cases c4 : x9_1 < (l0.length : Int)
      · rw [if_pos c4] at H
        have c4b0 : decide (x9_1 < (l0.length : Int)) = true := decide_eq_true c4
        clear c4
        by_cases c5 : 0 ≤ x9_1
        · rw [if_pos c5] at H
          have c5b0 : decide (0 ≤ x9_1) = true := decide_eq_true c5
          clear c5
          by_cases c6 : x9_1 < (l0.length : Int)
          · rw [if_pos c6] at H
            have c6b0 : decide (x9_1 < (l0.length : Int)) = true := decide_eq_true c6
            clear c6
            by_cases c7 : x3_1.length < 3518437208883
            · rw [if_pos c7] at H
              have LMc7 := Aside0.mk c7
              clear c7
              obtain ⟨y397, hy397⟩ : ∃ y_ : List (S118), y_ = (x3_1 ++ [(⟨(rd_T75 l0 x9_1).f0, (rd_T75 l0 x9_1).f1, (rd_T75 l0 x9_1).f2⟩ : S118)]) := ⟨_, rfl⟩
              replace H : (impl_out.l0 k1 y397 l0 (l0.length : Int) (wrap64 (x9_1 + 1))) = some r := by first | (rw [hy397]; with_reducible exact H) | (have H2_ := (Option.bind_some _ _).symm.trans H; rw [hy397]; with_reducible exact H2_) | (have H2_ := (Option.bind_some _ _).symm.trans H; with_reducible exact H2_) | with_reducible exact H | (rw [hy397]; exact H) | exact H
              have Ny397 := Aside0.mk hy397
              clear hy397
              have H' := Aside0.mk H
              clear H
              have p395 : 0 ≤ (x9_1 : Int) := of_decide_eq_true (by first | (with_reducible assumption) | assumption)
              have q395 : x9_1 < (l0.length : Int) := of_decide_eq_true (by first | (with_reducible assumption) | assumption)
              obtain ⟨ad395, e395, hx395_0, hx395_1, hx395_2⟩ := at_T75 HR0.out x9_1 p395 q395
              cases e395
              replace hx395_0 := (HB.out.cell (World.block_lt_of_cell? w _ hx395_0)).trans hx395_0
              replace hx395_1 := (HB.out.cell (World.block_lt_of_cell? w _ hx395_1)).trans hx395_1
              replace hx395_2 := (HB.out.cell (World.block_lt_of_cell? w _ hx395_2)).trans hx395_2
              replace p395 := eq_true p395
              replace q395 := eq_true q395
              go_wp2_with (first | ((with_reducible refine gate_dst (N := 5) rfl ?_); refine box_event ?hg (N := 5) ?hd (cs := #[.string (⟨#[]⟩ : ByteArray), .int .u32 0, .string (⟨#[]⟩ : ByteArray)]) (t := 75) ?hr ?_; (case hd => rfl); (case hg => rfl); (case hr => first | (go_simp; done) | (go_simp; rfl)); intro gb396 hg w8 hbox hb; have n0_ := Aside0.mk (Kd.R_below (by (with_reducible repeat (first | apply Kd.R_alloc | apply Kd.R_drewN | apply Kd.R_drew)); exact HO_3.out) hb); have n1_ := Aside0.mk (below_step (by repeat (first | (with_reducible first | exact HB.out | apply below_alloc | apply pw_below_drewN | apply below_drew1) | exact HB.out)) hb); have n2_ := Aside0.mk (hbox); have n3_ := Aside0.mk ((by rw [hg]; exact (below_size (by repeat (first | (with_reducible first | exact HB.out | apply below_alloc | apply pw_below_drewN | apply below_drew1) | exact HB.out))) : w.heap.size ≤ gb396)); have n4_ := Aside0.mk ((by rw [hg]; exact (below_size (by repeat (first | (with_reducible first | exact HB.out | apply below_alloc | apply pw_below_drewN | apply below_drew1) | exact HB.out))) : w.heap.size ≤ gb396)); clear HO_3; clear HB; have HO_3 := n0_; have HB := n1_; have BK396 := n2_; have GW396 := n3_; have GE396 := n4_; clear n0_ n1_ n2_ n3_ n4_; clear hb hbox hg; have hcz9_0 : w8.cell? ⟨gb396, 0, none⟩ = some (.string (⟨#[]⟩ : ByteArray)) := (blk_cell BK396.out 0).trans rfl; have hcz9_1 : w8.cell? ⟨gb396, 1, none⟩ = some (.int .u32 0) := (blk_cell BK396.out 1).trans rfl; have hcz9_2 : w8.cell? ⟨gb396, 2, none⟩ = some (.string (⟨#[]⟩ : ByteArray)) := (blk_cell BK396.out 2).trans rfl; have hfz9_0 := blk_frozen BK396.out 0; have hfz9_1 := blk_frozen BK396.out 1; have hfz9_2 := blk_frozen BK396.out 2) | ((with_reducible refine gate_builtin (b := .append) (xs := #[.tmp 13, .tmp 21]) rfl ?_); at_builtin; refine Kd.R_append k118 (w0 := w) w.heap.size rfl (.tmp 13) (.tmp 21) 91 118 (.agg #[(.string ⟨#[]⟩), (.int .u32 0), (.string ⟨#[]⟩)]) 40 rfl Tryd.underlying91 info118 rfl (by decide) (by omega) u3 x3_1 (⟨(rd_T75 l0 x9_1).f0, (rd_T75 l0 x9_1).f1, (rd_T75 l0 x9_1).f2⟩ : S118) [.string ((rd_T75 l0 x9_1).f0), .int .u32 ((rd_T75 l0 x9_1).f1), .string ((rd_T75 l0 x9_1).f2)] (fun _ => True) (fun _ => False) rfl (by first | (go_simp; done) | (go_simp; rfl)) ?aP (fun _ hk => hk.elim) ?aF ?aO ?aB ?aS ?aL ?_; (case aP => exact k118_mkM _ _ _ (⟨(rd_T75 l0 x9_1).f0, (rd_T75 l0 x9_1).f1, (rd_T75 l0 x9_1).f2⟩ : S118)); (case aB => exact (by repeat (first | (with_reducible first | exact HB.out | apply below_alloc | apply pw_below_drewN | apply below_drew1 | refine below_set ?_ GE396.out) | exact HB.out))); (case aF => exact (fun _ _ => trivial)); (case aO => exact (by (with_reducible repeat (first | apply Kd.R_alloc | apply Kd.R_drewN | apply Kd.R_drew)); exact Kd.R_mono (Kd.R_far (p := ⟨gb396, 2, none⟩) (Kd.R_far (p := ⟨gb396, 1, none⟩) (Kd.R_far (p := ⟨gb396, 0, none⟩) (Kd.R_types HO_3.out BK396.out (by decide)) (fun _ hk => hk.2) (.string ((rd_T75 l0 x9_1).f0))) (fun _ hk => hk.2) (.int .u32 ((rd_T75 l0 x9_1).f1))) (fun _ hk => hk.2) (.string ((rd_T75 l0 x9_1).f2))) (fun _ hk => trivial))); (case aS => exact (below_size (by repeat (first | (with_reducible first | exact HB.out | apply below_alloc | apply pw_below_drewN | apply below_drew1 | refine below_set ?_ GE396.out) | exact HB.out)))); (case aL => have := LMc7.out; omega); intro v398 w10 ho hb hg hat; rw [← Ny397.out] at ho; have n0_ := Aside0.mk (blk_grown (g := gb396) (o := .cells #[.string ((rd_T75 l0 x9_1).f0), .int .u32 ((rd_T75 l0 x9_1).f1), .string ((rd_T75 l0 x9_1).f2)] 75 (0, 0)) (by (with_reducible repeat (first | refine blk_drewN ?_ _ | refine blk_drew ?_ | refine blk_alloc ?_ _)); refine blk_put (cs := #[.string ((rd_T75 l0 x9_1).f0), .int .u32 ((rd_T75 l0 x9_1).f1), .string (⟨#[]⟩ : ByteArray)]) ?_ 2 _ rfl; (with_reducible repeat (first | refine blk_drewN ?_ _ | refine blk_drew ?_ | refine blk_alloc ?_ _)); refine blk_put (cs := #[.string ((rd_T75 l0 x9_1).f0), .int .u32 0, .string (⟨#[]⟩ : ByteArray)]) ?_ 1 _ rfl; (with_reducible repeat (first | refine blk_drewN ?_ _ | refine blk_drew ?_ | refine blk_alloc ?_ _)); refine blk_put (cs := #[.string (⟨#[]⟩ : ByteArray), .int .u32 0, .string (⟨#[]⟩ : ByteArray)]) ?_ 0 _ rfl; (with_reducible repeat (first | refine blk_drewN ?_ _ | refine blk_drew ?_ | refine blk_alloc ?_ _)); exact BK396.out) hg (Kd.R_ne HO_3.out BK396.out (by decide))); have n1_ := Aside0.mk (hb); have n2_ := Aside0.mk (ho); clear BK396; clear HB; clear HO_3; have BK396 := n0_; have HB := n1_; have HO399 := n2_; clear n0_ n1_ n2_; clear ho hb hg hat))
              go_roundg k1
              case measure => have := HK1.out; omega
              case rel => exact ⟨(y397), (wrap64 (x9_1 + 1)), (by first | rfl | (simp; done) | (simp [*]; done)), H', ⟨by have := HK1.out; omega⟩, ⟨by (with_reducible repeat (first | apply Kd.R_alloc | apply Kd.R_drewN | apply Kd.R_drew)); exact HO399.out⟩, ⟨by repeat (first | (with_reducible first | exact HB.out | apply below_alloc | apply pw_below_drewN | apply below_drew1 | refine below_set ?_ GE396.out) | exact HB.out)⟩⟩
            · rw [if_neg c7] at H
              exact absurd H (by simp)
          · rw [if_neg c6] at H
            exact absurd H (by simp)
        · rw [if_neg c5] at H
          exact absurd H (by simp)
      · rw [if_neg c4] at H
        have c4b0 : decide (x9_1 < (l0.length : Int)) = false := decide_eq_false c4
        clear c4
        obtain rfl := Option.some.inj H
        go_wp2
        go_ret
        exact ⟨_, by first | rfl | (simp [errW_none, errW_some] <;> rfl) | (simp [*, errW_none, errW_some] <;> rfl), by (with_reducible repeat (first | apply Kd.R_alloc | apply Kd.R_drewN | apply Kd.R_drew)); exact HO_3.out, by repeat (first | (with_reducible first | exact HB.out | apply below_alloc | apply pw_below_drewN | apply below_drew1) | exact HB.out)⟩
end Go.Proofs.YtkbegfihdpiacaaDoor.PX

namespace Go.Proofs.YtkbegfihdpiacaaDoor.PX
open Go.RowKit Go.Proofs.YtkbegfihdpiacaaDoorW.PrintWords Go.Proofs.YtkbegfihdpiacaaDoorW.PrintLast Go.Proofs.YtkbegfihdpiacaaDoorW.PrintMore
attribute [local go_sem] max2_int min2_int max_two min_two max_three min_three max_four min_four   -- for this text's walks alone
set_option linter.unusedVariables false
set_option linter.unusedSimpArgs false
def spec_Plain.l0 : Nat → ByteArray → Int → Int → Option (Bool)
  | 0, _, _, _ => none
  | k + 1, x0, x5, x6 => if x6 < x5 then (if 0 ≤ x6 then (if x6 < (x0.size : Int) then (if (bt x0 x6) < 32 then (if (bt x0 x6) = 10 then (spec_Plain.l0 k x0 x5 (wrap64 (x6 + 1))) else (some false)) else (spec_Plain.l0 k x0 x5 (wrap64 (x6 + 1)))) else (none)) else (none)) else ((spec_Utf.f x0).bind fun t114 => (some t114))
def spec_Plain.f (k : Nat) (a0 : ByteArray) : Option (Bool) := spec_Plain.l0 k a0 (a0.size : Int) 0
theorem spec_Plain.mono_l : ∀ k, (∀ y0 y1 y2, LeO (spec_Plain.l0 k y0 y1 y2) (spec_Plain.l0 (k + 1) y0 y1 y2))
  | 0 => fun _ _ _ r h => by simp [spec_Plain.l0] at h
  | k + 1 => by
    have ih0 := spec_Plain.mono_l k
    · intro y0 y1 y2
      unfold spec_Plain.l0
      repeat' first
      | (with_reducible exact ih0 _ _ _)
      | (with_reducible exact LeO.refl _)
      | (with_reducible exact LeO.none _)
      | (with_reducible refine LeO.ite ?_ ?_)
      | (with_reducible refine LeO.bind ?_ (fun _ => ?_))
      | exact ih0 _ _ _
      | exact LeO.none _
      | refine LeO.ite ?_ ?_
      | refine LeO.bind ?_ (fun _ => ?_)
theorem spec_Plain.mono : ∀ a0 k, LeO (spec_Plain.f k a0) (spec_Plain.f (k + 1) a0) := by
  intro a0 k
  have ih0 := spec_Plain.mono_l k
  unfold spec_Plain.f
  repeat' first
      | (with_reducible exact ih0 _ _ _)
      | (with_reducible exact LeO.refl _)
      | (with_reducible exact LeO.none _)
      | (with_reducible refine LeO.ite ?_ ?_)
      | (with_reducible refine LeO.bind ?_ (fun _ => ?_))
      | exact ih0 _ _ _
      | exact LeO.none _
      | refine LeO.ite ?_ ?_
      | refine LeO.bind ?_ (fun _ => ?_)
set_option maxHeartbeats 8000000 in
set_option maxRecDepth 100000 in
theorem spec_Plain.calls (k : Nat) (a0 : ByteArray) (r : Bool) (w : World) (h : spec_Plain.f k a0 = some r) :
    Calls Tryd.prog 18 #[.string a0] w fun e w' => e = .returned (.bool r) ∧ Below w.heap.size w w' := by
  have HB := Aside0.mk (Below.refl w.heap.size w)
  have H : (spec_Plain.l0 k a0 (a0.size : Int) 0) = some r := h
  clear h
  have H' := Aside0.mk H
  clear H
  go_enter Tryd.func18, Tryd.ntmps18
  go_wp2
  go_loopg [6] k (fun kq v6 w' => ∃ (x6_1 : Int), v6 = .int .i64 x6_1 ∧ Aside0 (spec_Plain.l0 kq a0 (a0.size : Int) x6_1 = some r) ∧ Aside0 (kq ≤ k) ∧ Aside0 (Below w.heap.size w w'))
  case atStart => exact ⟨(0), (by first | rfl | (simp; done) | (simp [*]; done)), H', ⟨Nat.le_refl _⟩, ⟨by repeat (first | (with_reducible first | exact HB.out | apply below_alloc | apply pw_below_drewN | apply below_drew1) | exact HB.out)⟩⟩
  case round =>
    clear H'
    try clear c1
    obtain ⟨x6_1, rfl, HA, HK1, HB⟩ := hrel
    cases gk with
    | zero => exact absurd HA.out (by simp [spec_Plain.l0])
    | succ k1 =>
      have H := HA.out
      clear HA
      simp only [spec_Plain.l0] at H
      by_cases c2 : x6_1 < (a0.size : Int)
      · rw [if_pos c2] at H
        have c2b0 : decide (x6_1 < (a0.size : Int)) = true := decide_eq_true c2
        clear c2
        by_cases c3 : 0 ≤ x6_1
        · rw [if_pos c3] at H
          have c3b0 : decide (0 ≤ x6_1) = true := decide_eq_true c3
          clear c3
          by_cases c4 : x6_1 < (a0.size : Int)
          · rw [if_pos c4] at H
            have c4b0 : decide (x6_1 < (a0.size : Int)) = true := decide_eq_true c4
            clear c4
            by_cases c6 : (bt a0 x6_1) < 32
            · rw [if_pos c6] at H
              have c6b0 : decide ((bt a0 x6_1) < 32) = true := decide_eq_true c6
              clear c6
              by_cases c8 : (bt a0 x6_1) = 10
              · rw [if_pos c8] at H
                have c8b0 : ((bt a0 x6_1) == 10) = true := beq_iff_eq.mpr c8
                have c8b1 : ((bt a0 x6_1) != 10) = false := bne_eq_false_iff_eq.mpr c8
                clear c8
                have H' := Aside0.mk H
                clear H
                have p5 : 0 ≤ (x6_1 : Int) := of_decide_eq_true (by first | (with_reducible assumption) | assumption)
                have q5 : x6_1 < (a0.size : Int) := of_decide_eq_true (by first | (with_reducible assumption) | assumption)
                have hx5 := bt_at a0 x6_1
                replace p5 := eq_true p5
                replace q5 := eq_true q5
                have p7 : 0 ≤ (x6_1 : Int) := of_decide_eq_true (by first | (with_reducible assumption) | assumption)
                have q7 : x6_1 < (a0.size : Int) := of_decide_eq_true (by first | (with_reducible assumption) | assumption)
                have hx7 := bt_at a0 x6_1
                replace p7 := eq_true p7
                replace q7 := eq_true q7
                go_wp2
                go_roundg k1
                case measure => have := HK1.out; omega
                case rel => exact ⟨(wrap64 (x6_1 + 1)), (by first | rfl | (simp; done) | (simp [*]; done)), H', ⟨by have := HK1.out; omega⟩, ⟨by repeat (first | (with_reducible first | exact HB.out | apply below_alloc | apply pw_below_drewN | apply below_drew1) | exact HB.out)⟩⟩
              · rw [if_neg c8] at H
                have c8b0 : ((bt a0 x6_1) == 10) = false := beq_eq_false_iff_ne.mpr c8
                have c8b1 : ((bt a0 x6_1) != 10) = true := bne_iff_ne.mpr c8
                obtain rfl := Option.some.inj H
                have p5 : 0 ≤ (x6_1 : Int) := of_decide_eq_true (by first | (with_reducible assumption) | assumption)
                have q5 : x6_1 < (a0.size : Int) := of_decide_eq_true (by first | (with_reducible assumption) | assumption)
                have hx5 := bt_at a0 x6_1
                replace p5 := eq_true p5
                replace q5 := eq_true q5
                have p7 : 0 ≤ (x6_1 : Int) := of_decide_eq_true (by first | (with_reducible assumption) | assumption)
                have q7 : x6_1 < (a0.size : Int) := of_decide_eq_true (by first | (with_reducible assumption) | assumption)
                have hx7 := bt_at a0 x6_1
                replace p7 := eq_true p7
                replace q7 := eq_true q7
                go_wp2
                go_ret
                exact ⟨by first | rfl | (simp [errW_none, errW_some] <;> rfl) | (simp [*, errW_none, errW_some] <;> rfl), by repeat (first | (with_reducible first | exact HB.out | apply below_alloc | apply pw_below_drewN | apply below_drew1) | exact HB.out)⟩
            · rw [if_neg c6] at H
              have c6b0 : decide ((bt a0 x6_1) < 32) = false := decide_eq_false c6
              clear c6
              have H' := Aside0.mk H
              clear H
              have p5 : 0 ≤ (x6_1 : Int) := of_decide_eq_true (by first | (with_reducible assumption) | assumption)
              have q5 : x6_1 < (a0.size : Int) := of_decide_eq_true (by first | (with_reducible assumption) | assumption)
              have hx5 := bt_at a0 x6_1
              replace p5 := eq_true p5
              replace q5 := eq_true q5
              go_wp2
              go_roundg k1
              case measure => have := HK1.out; omega
              case rel => exact ⟨(wrap64 (x6_1 + 1)), (by first | rfl | (simp; done) | (simp [*]; done)), H', ⟨by have := HK1.out; omega⟩, ⟨by repeat (first | (with_reducible first | exact HB.out | apply below_alloc | apply pw_below_drewN | apply below_drew1) | exact HB.out)⟩⟩
          · rw [if_neg c4] at H
            exact absurd H (by simp)
        · rw [if_neg c3] at H
          exact absurd H (by simp)
      · rw [if_neg c2] at H
        have c2b0 : decide (x6_1 < (a0.size : Int)) = false := decide_eq_false c2
        clear c2
        replace H := Option.bind_eq_some_iff.mp H
        obtain ⟨t114, A90, H⟩ := H
        replace H : (some t114) = some r := H
        have A9 := Aside0.mk A90
        clear A90
        obtain rfl := Option.some.inj H
        go_wp2_with (first | ((with_reducible refine gate_callee (f := 32) rfl ?_); refine goesL_ (some 21) rfl rfl Tryd.func32 (by kernel_rfl) rfl #[.string a0] rfl (by (try simp only [List.map_toArray, List.map_cons, List.map_nil]); first | done | rfl | (simp only [List.length_drop, List.length_take]; rfl)) ?_; (with_reducible refine (spec_Utf.calls a0 t114 _ A9.out).mono ?_); rintro e w10 ⟨rfl, hb⟩; refine ⟨_, rfl, ?_⟩; have n0_ := Aside0.mk (below_step (by repeat (first | (with_reducible first | exact HB.out | apply below_alloc | apply pw_below_drewN | apply below_drew1) | exact HB.out)) hb); clear HB; have HB := n0_; clear n0_; (try clear hb); (try clear hb2); (try clear hk); (try clear hi)))
        go_ret
        exact ⟨by first | rfl | (simp [errW_none, errW_some] <;> rfl) | (simp [*, errW_none, errW_some] <;> rfl), by repeat (first | (with_reducible first | exact HB.out | apply below_alloc | apply pw_below_drewN | apply below_drew1) | exact HB.out)⟩
mutual
def spec_figure.j0 : Nat → Int → Bool → Option (Int)
  | 0, _, _ => none
  | k + 1, x0, x3 => if x3 = true then (some ((x0 - 65) % 256)) else (if x0 ≥ 97 then (spec_figure.j1 k x0 (decide (x0 ≤ 122))) else (spec_figure.j1 k x0 false))
def spec_figure.j1 : Nat → Int → Bool → Option (Int)
  | 0, _, _ => none
  | k + 1, x0, x13 => if x13 = true then (some (((x0 - 97) % 256) + 26)) else (if x0 ≥ 48 then (spec_figure.j2 k x0 (decide (x0 ≤ 57))) else (spec_figure.j2 k x0 false))
def spec_figure.j2 : Nat → Int → Bool → Option (Int)
  | 0, _, _ => none
  | k + 1, x0, x24 => if x24 = true then (some (((x0 - 48) % 256) + 52)) else (if x0 = 43 then (some 62) else (if x0 = 47 then (some 63) else (some (-1))))
end
def spec_figure.f (k : Nat) (a0 : Int) : Option (Int) := if a0 ≥ 65 then (spec_figure.j0 k a0 (decide (a0 ≤ 90))) else (spec_figure.j0 k a0 false)
theorem spec_figure.mono_l : ∀ k, (∀ y0 y1, LeO (spec_figure.j0 k y0 y1) (spec_figure.j0 (k + 1) y0 y1)) ∧ (∀ y0 y1, LeO (spec_figure.j1 k y0 y1) (spec_figure.j1 (k + 1) y0 y1)) ∧ (∀ y0 y1, LeO (spec_figure.j2 k y0 y1) (spec_figure.j2 (k + 1) y0 y1))
  | 0 => ⟨fun _ _ r h => by simp [spec_figure.j0] at h, fun _ _ r h => by simp [spec_figure.j1] at h, fun _ _ r h => by simp [spec_figure.j2] at h⟩
  | k + 1 => by
    obtain ⟨ih0, ih1, ih2⟩ := spec_figure.mono_l k
    refine ⟨?_, ?_, ?_⟩
    · intro y0 y1
      unfold spec_figure.j0
      repeat' first
      | (with_reducible exact ih0 _ _)
      | (with_reducible exact ih1 _ _)
      | (with_reducible exact ih2 _ _)
      | (with_reducible exact LeO.refl _)
      | (with_reducible exact LeO.none _)
      | (with_reducible refine LeO.ite ?_ ?_)
      | (with_reducible refine LeO.bind ?_ (fun _ => ?_))
      | exact ih0 _ _
      | exact ih1 _ _
      | exact ih2 _ _
      | exact LeO.none _
      | refine LeO.ite ?_ ?_
      | refine LeO.bind ?_ (fun _ => ?_)
    · intro y0 y1
      unfold spec_figure.j1
      repeat' first
      | (with_reducible exact ih0 _ _)
      | (with_reducible exact ih1 _ _)
      | (with_reducible exact ih2 _ _)
      | (with_reducible exact LeO.refl _)
      | (with_reducible exact LeO.none _)
      | (with_reducible refine LeO.ite ?_ ?_)
      | (with_reducible refine LeO.bind ?_ (fun _ => ?_))
      | exact ih0 _ _
      | exact ih1 _ _
      | exact ih2 _ _
      | exact LeO.none _
      | refine LeO.ite ?_ ?_
      | refine LeO.bind ?_ (fun _ => ?_)
    · intro y0 y1
      unfold spec_figure.j2
      repeat' first
      | (with_reducible exact ih0 _ _)
      | (with_reducible exact ih1 _ _)
      | (with_reducible exact ih2 _ _)
      | (with_reducible exact LeO.refl _)
      | (with_reducible exact LeO.none _)
      | (with_reducible refine LeO.ite ?_ ?_)
      | (with_reducible refine LeO.bind ?_ (fun _ => ?_))
      | exact ih0 _ _
      | exact ih1 _ _
      | exact ih2 _ _
      | exact LeO.none _
      | refine LeO.ite ?_ ?_
      | refine LeO.bind ?_ (fun _ => ?_)
theorem spec_figure.mono : ∀ a0 k, LeO (spec_figure.f k a0) (spec_figure.f (k + 1) a0) := by
  intro a0 k
  obtain ⟨ih0, ih1, ih2⟩ := spec_figure.mono_l k
  unfold spec_figure.f
  repeat' first
      | (with_reducible exact ih0 _ _)
      | (with_reducible exact ih1 _ _)
      | (with_reducible exact ih2 _ _)
      | (with_reducible exact LeO.refl _)
      | (with_reducible exact LeO.none _)
      | (with_reducible refine LeO.ite ?_ ?_)
      | (with_reducible refine LeO.bind ?_ (fun _ => ?_))
      | exact ih0 _ _
      | exact ih1 _ _
      | exact ih2 _ _
      | exact LeO.none _
      | refine LeO.ite ?_ ?_
      | refine LeO.bind ?_ (fun _ => ?_)
set_option maxHeartbeats 8000000 in
set_option maxRecDepth 100000 in
theorem spec_figure.calls (k : Nat) (a0 : Int) (r : Int) (w : World) (h : spec_figure.f k a0 = some r) :
    Calls Tryd.prog 52 #[.int .u8 a0] w fun e w' => e = .returned (.int .i64 r) ∧ Drawn0 w w' := by
  have H : (if a0 ≥ 65 then (spec_figure.j0 k a0 (decide (a0 ≤ 90))) else (spec_figure.j0 k a0 false)) = some r := h
  clear h
  have HC2 := Aside0.mk H
  clear H
  go_enter Tryd.func52, Tryd.ntmps52
  go_upto_region 1 with (fail)
  go_cut [3] (fun v3 wc => ∃ (kq : Nat) (x3_1 : Bool), v3 = .bool x3_1 ∧ Aside0 (spec_figure.j0 kq a0 x3_1 = some r) ∧ Aside0 (kq ≤ k) ∧ Drawn0 w wc)
  case first =>
    have H := HC2.out
    clear HC2
    by_cases c3 : a0 ≥ 65
    · rw [if_pos c3] at H
      have c3b0 : decide (65 ≤ a0) = true := decide_eq_true c3
      clear c3
      (first | rw [c3b0] | (simp only [i64_w, i32_w]; rw [c3b0]) | skip)
      have H' := Aside0.mk H
      clear H
      go_wp2
      go_meet
      case rel => exact ⟨_, (decide (a0 ≤ 90)), (by first | rfl | (simp; done) | (simp [*]; done)), H', ⟨by first | omega | exact Nat.le_refl _⟩, by repeat (first | exact Drawn0.refl _ | apply Drawn0.step)⟩
    · rw [if_neg c3] at H
      have c3b0 : decide (65 ≤ a0) = false := decide_eq_false c3
      clear c3
      (first | rw [c3b0] | (simp only [i64_w, i32_w]; rw [c3b0]) | skip)
      have H' := Aside0.mk H
      clear H
      go_wp2
      go_meet
      case rel => exact ⟨_, (false), (by first | rfl | (simp; done) | (simp [*]; done)), H', ⟨by first | omega | exact Nat.le_refl _⟩, by repeat (first | exact Drawn0.refl _ | apply Drawn0.step)⟩
  case rest =>
    clear HC2
    try clear p2
    try clear c3
    try clear c3b0
    obtain ⟨kq, x3_1, rfl, HA, HJ1, ⟨mc1, rfl⟩⟩ := hcut
    cases kq with
    | zero => exact absurd HA.out (by simp [spec_figure.j0])
    | succ kj1 =>
      have H := HA.out
      clear HA
      simp only [spec_figure.j0] at H
      by_cases c4 : x3_1 = true
      · subst c4
        have H1 : (some ((a0 - 65) % 256)) = some r := by rw [if_pos rfl] at H; exact H
        clear H
        have H := H1
        clear H1
        obtain rfl := Option.some.inj H
        go_wp2
        go_ret
        exact ⟨by first | rfl | (simp; done) | (simp [*]; done), by repeat (first | exact Drawn0.refl _ | apply Drawn0.step)⟩
      · replace c4 := Bool.eq_false_iff.mpr c4
        subst c4
        have H1 : (if a0 ≥ 97 then (spec_figure.j1 kj1 a0 (decide (a0 ≤ 122))) else (spec_figure.j1 kj1 a0 false)) = some r := by rw [if_neg (show ¬ (false = true) by decide)] at H; exact H
        clear H
        have H := H1
        clear H1
        have HC5 := Aside0.mk H
        clear H
        go_upto_region 3 with (fail)
        go_cut [13] (fun v13 wc => ∃ (kq : Nat) (x13_4 : Bool), v13 = .bool x13_4 ∧ Aside0 (spec_figure.j1 kq a0 x13_4 = some r) ∧ Aside0 (kq ≤ kj1) ∧ Drawn0 w wc)
        case first =>
          have H := HC5.out
          clear HC5
          by_cases c6 : a0 ≥ 97
          · rw [if_pos c6] at H
            have c6b0 : decide (97 ≤ a0) = true := decide_eq_true c6
            clear c6
            (first | rw [c6b0] | (simp only [i64_w, i32_w]; rw [c6b0]) | skip)
            have H' := Aside0.mk H
            clear H
            go_wp2
            go_meet
            case rel => exact ⟨_, (decide (a0 ≤ 122)), (by first | rfl | (simp; done) | (simp [*]; done)), H', ⟨by have := HJ1.out; first | omega | exact Nat.le_refl _⟩, by repeat (first | exact Drawn0.refl _ | apply Drawn0.step)⟩
          · rw [if_neg c6] at H
            have c6b0 : decide (97 ≤ a0) = false := decide_eq_false c6
            clear c6
            (first | rw [c6b0] | (simp only [i64_w, i32_w]; rw [c6b0]) | skip)
            have H' := Aside0.mk H
            clear H
            go_wp2
            go_meet
            case rel => exact ⟨_, (false), (by first | rfl | (simp; done) | (simp [*]; done)), H', ⟨by have := HJ1.out; first | omega | exact Nat.le_refl _⟩, by repeat (first | exact Drawn0.refl _ | apply Drawn0.step)⟩
        case rest =>
          clear HC5
          try clear c1
          try clear p2
          try clear c3
          try clear c3b0
          try clear c4
          try clear c5
          try clear c6
          try clear c6b0
          try clear p2
          obtain ⟨kq, x13_4, rfl, HA, HJ4, ⟨mc4, rfl⟩⟩ := hcut
          cases kq with
          | zero => exact absurd HA.out (by simp [spec_figure.j1])
          | succ kj4 =>
            have H := HA.out
            clear HA
            simp only [spec_figure.j1] at H
            by_cases c7 : x13_4 = true
            · subst c7
              have H1 : (some (((a0 - 97) % 256) + 26)) = some r := by rw [if_pos rfl] at H; exact H
              clear H
              have H := H1
              clear H1
              obtain rfl := Option.some.inj H
              go_wp2
              go_ret
              exact ⟨by first | rfl | (simp; done) | (simp [*]; done), by repeat (first | exact Drawn0.refl _ | apply Drawn0.step)⟩
            · replace c7 := Bool.eq_false_iff.mpr c7
              subst c7
              have H1 : (if a0 ≥ 48 then (spec_figure.j2 kj4 a0 (decide (a0 ≤ 57))) else (spec_figure.j2 kj4 a0 false)) = some r := by rw [if_neg (show ¬ (false = true) by decide)] at H; exact H
              clear H
              have H := H1
              clear H1
              have HC8 := Aside0.mk H
              clear H
              go_upto_region 5 with (fail)
              go_cut [24] (fun v24 wc => ∃ (kq : Nat) (x24_7 : Bool), v24 = .bool x24_7 ∧ Aside0 (spec_figure.j2 kq a0 x24_7 = some r) ∧ Aside0 (kq ≤ kj4) ∧ Drawn0 w wc)
              case first =>
                have H := HC8.out
                clear HC8
                by_cases c9 : a0 ≥ 48
                · rw [if_pos c9] at H
                  have c9b0 : decide (48 ≤ a0) = true := decide_eq_true c9
                  clear c9
                  (first | rw [c9b0] | (simp only [i64_w, i32_w]; rw [c9b0]) | skip)
                  have H' := Aside0.mk H
                  clear H
                  go_wp2
                  go_meet
                  case rel => exact ⟨_, (decide (a0 ≤ 57)), (by first | rfl | (simp; done) | (simp [*]; done)), H', ⟨by have := HJ1.out; have := HJ4.out; first | omega | exact Nat.le_refl _⟩, by repeat (first | exact Drawn0.refl _ | apply Drawn0.step)⟩
                · rw [if_neg c9] at H
                  have c9b0 : decide (48 ≤ a0) = false := decide_eq_false c9
                  clear c9
                  (first | rw [c9b0] | (simp only [i64_w, i32_w]; rw [c9b0]) | skip)
                  have H' := Aside0.mk H
                  clear H
                  go_wp2
                  go_meet
                  case rel => exact ⟨_, (false), (by first | rfl | (simp; done) | (simp [*]; done)), H', ⟨by have := HJ1.out; have := HJ4.out; first | omega | exact Nat.le_refl _⟩, by repeat (first | exact Drawn0.refl _ | apply Drawn0.step)⟩
              case rest =>
                clear HC8
                try clear c1
                try clear p2
                try clear c3
                try clear c3b0
                try clear c4
                try clear c5
                try clear c6
                try clear c6b0
                try clear c7
                try clear c9
                try clear c9b0
                try clear p2
                obtain ⟨kq, x24_7, rfl, HA, HJ7, ⟨mc7, rfl⟩⟩ := hcut
                cases kq with
                | zero => exact absurd HA.out (by simp [spec_figure.j2])
                | succ kj7 =>
                  have H := HA.out
                  clear HA
                  simp only [spec_figure.j2] at H
                  by_cases c10 : x24_7 = true
                  · subst c10
                    have H1 : (some (((a0 - 48) % 256) + 52)) = some r := by rw [if_pos rfl] at H; exact H
                    clear H
                    have H := H1
                    clear H1
                    obtain rfl := Option.some.inj H
                    go_wp2
                    go_ret
                    exact ⟨by first | rfl | (simp; done) | (simp [*]; done), by repeat (first | exact Drawn0.refl _ | apply Drawn0.step)⟩
                  · replace c10 := Bool.eq_false_iff.mpr c10
                    subst c10
                    have H1 : (if a0 = 43 then (some 62) else (if a0 = 47 then (some 63) else (some (-1)))) = some r := by rw [if_neg (show ¬ (false = true) by decide)] at H; exact H
                    clear H
                    have H := H1
                    clear H1
                    by_cases c11 : a0 = 43
                    · rw [if_pos c11] at H
                      have c11b0 : (a0 == 43) = true := beq_iff_eq.mpr c11
                      have c11b1 : (a0 != 43) = false := bne_eq_false_iff_eq.mpr c11
                      clear c11
                      obtain rfl := Option.some.inj H
                      go_wp2
                      go_ret
                      exact ⟨by first | rfl | (simp; done) | (simp [*]; done), by repeat (first | exact Drawn0.refl _ | apply Drawn0.step)⟩
                    · rw [if_neg c11] at H
                      have c11b0 : (a0 == 43) = false := beq_eq_false_iff_ne.mpr c11
                      have c11b1 : (a0 != 43) = true := bne_iff_ne.mpr c11
                      by_cases c12 : a0 = 47
                      · rw [if_pos c12] at H
                        have c12b0 : (a0 == 47) = true := beq_iff_eq.mpr c12
                        have c12b1 : (a0 != 47) = false := bne_eq_false_iff_eq.mpr c12
                        clear c12
                        obtain rfl := Option.some.inj H
                        go_wp2
                        go_ret
                        exact ⟨by first | rfl | (simp; done) | (simp [*]; done), by repeat (first | exact Drawn0.refl _ | apply Drawn0.step)⟩
                      · rw [if_neg c12] at H
                        have c12b0 : (a0 == 47) = false := beq_eq_false_iff_ne.mpr c12
                        have c12b1 : (a0 != 47) = true := bne_iff_ne.mpr c12
                        obtain rfl := Option.some.inj H
                        go_wp2
                        go_ret
                        exact ⟨by first | rfl | (simp; done) | (simp [*]; done), by repeat (first | exact Drawn0.refl _ | apply Drawn0.step)⟩
end Go.Proofs.YtkbegfihdpiacaaDoor.PX
