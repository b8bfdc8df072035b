/- Part 15 of the proof: what the theorem reaches of the texts KR19, KR20. -/
import Derived.Shelf.Strings.Prefix
import Derived.Shelf.LaysM
import Derived.Shelf.Bytes.BufferK
import Derived.Shelf.Bytes.WriteAny
import Derived.Shelf.Bytes.Bytes
import Derived.Test.YtkbegfihdpiacaaGreatDoorProg
import Derived.Lib.BufferOld
import Derived.Deep.RegionHeld3
import Derived.Shelf.Bytes.GrowOwn
import Derived.Laws.IdiomCopy
import Derived.Lib.BufferWrite
import Derived.Test.YtkbegfihdpiacaaGreatDoorKT4
import Derived.Test.YtkbegfihdpiacaaGreatDoorKT5
import Derived.Test.YtkbegfihdpiacaaGreatDoorKT6
import Derived.Test.YtkbegfihdpiacaaGreatDoorKT10
import Derived.Test.YtkbegfihdpiacaaGreatDoorKT11
import Derived.Test.YtkbegfihdpiacaaGreatDoorKT12
import Derived.Test.YtkbegfihdpiacaaGreatDoorKT13
import Derived.Test.YtkbegfihdpiacaaGreatDoorKT14
set_option linter.unusedVariables false
set_option linter.unusedSimpArgs false
namespace Go.Proofs.YtkbegfihdpiacaaGreatDoor.PX
open Go.RowKit Go.Proofs.YtkbegfihdpiacaaGreatDoorW.PrintWords Go.Proofs.YtkbegfihdpiacaaGreatDoorW.PrintLast Go.Proofs.YtkbegfihdpiacaaGreatDoorW.PrintMore
attribute [local go_sem] max2_int min2_int max_two min_two max_three min_three max_four min_four   -- for this text's walks alone
def spec_Bytes.f (a0 : Int) (a1 : ByteArray) : Option (ByteArray) := (some (([(a0 / 16777216) % 256, (a0 / 65536) % 256, (a0 / 256) % 256, (a0) % 256] : List Int) : List Int)).bind fun y344 => (if (strOfNums y344).size + a1.size ≤ 9223372036854775807 then (some ((strOfNums y344) ++ a1)) else (none))
set_option maxHeartbeats 8000000 in
set_option maxRecDepth 100000 in
theorem spec_Bytes.calls (a0 : Int) (a1 : ByteArray) (r : ByteArray) (w : World) (h : spec_Bytes.f a0 a1 = some r) :
  Calls Tryz.prog 31 #[.int .u32 a0, .string a1] w fun e w' => e = .returned (.string r) ∧ Below w.heap.size w w' := by
 have HB := Aside0.mk (Below.refl w.heap.size w)
 have H : ((some (([(a0 / 16777216) % 256, (a0 / 65536) % 256, (a0 / 256) % 256, (a0) % 256] : List Int) : List Int)).bind fun y344 => (if (strOfNums y344).size + a1.size ≤ 9223372036854775807 then (some ((strOfNums y344) ++ a1)) else (none))) = some r := h
 clear h
 obtain ⟨y344, hy344⟩ : ∃ y_ : List Int, y_ = (([(a0 / 16777216) % 256, (a0 / 65536) % 256, (a0 / 256) % 256, (a0) % 256] : List Int)) := ⟨_, rfl⟩
 replace H : (if (strOfNums y344).size + a1.size ≤ 9223372036854775807 then (some ((strOfNums y344) ++ a1)) else (none)) = some r := by first | (rw [hy344]; with_reducible exact H) | (have H2_ := (Option.bind_some _ _).symm.trans H; rw [hy344]; with_reducible exact H2_) | (have H2_ := (Option.bind_some _ _).symm.trans H; with_reducible exact H2_) | with_reducible exact H | (rw [hy344]; exact H) | exact H
 have Ny344 := Aside0.mk hy344
 clear hy344
 by_cases c3 : (strOfNums y344).size + a1.size ≤ 9223372036854775807
 ·rw [if_pos c3] at H
  have c3b0 := eq_true c3
  have c3b1 : decide ((strOfNums y344).size + a1.size ≤ 9223372036854775807) = true := decide_eq_true c3
  try have c3b2 : (9223372036854775807 < (strOfNums y344).size + a1.size) = False := eq_false (Nat.not_lt.2 c3)
  obtain rfl := Option.some.inj H
  go_enter Tryz.func31, Tryz.ntmps31
  go_wp2_with (first | ((with_reducible refine gate_dst (N := 16) rfl ?_); refine Kd.R_lit (Kd.int .u8) _ 5 ?hg (N := 16) ?hd (xs := ([(a0 / 16777216) % 256, (a0 / 65536) % 256, (a0 / 256) % 256, (a0) % 256] : List Int)) (inner := [.int .u8 ((a0 / 16777216) % 256), .int .u8 ((a0 / 65536) % 256), .int .u8 ((a0 / 256) % 256), .int .u8 ((a0) % 256)]) (ok := fun _ => True) (okp := fun _ => True) ?hr ?hp (fun _ hk => hk) trivial (Below.refl _ _) (Nat.le_refl _) (by simp) ?_; (case hd => rfl); (case hg => rfl); (case hr => first | (go_simp; done) | (go_simp; rfl)); (case hp => exact (Reps.one (show Kd.M (Kd.int .u8) _ _ _ ((a0 / 16777216) % 256) [.int .u8 ((a0 / 16777216) % 256)] from rfl) (Reps.one (show Kd.M (Kd.int .u8) _ _ _ ((a0 / 65536) % 256) [.int .u8 ((a0 / 65536) % 256)] from rfl) (Reps.one (show Kd.M (Kd.int .u8) _ _ _ ((a0 / 256) % 256) [.int .u8 ((a0 / 256) % 256)] from rfl) (Reps.one (show Kd.M (Kd.int .u8) _ _ _ ((a0) % 256) [.int .u8 ((a0) % 256)] from rfl) (Reps.none _ _)))))); intro v345 w4 ho5 hb hg_ hnew_; clear hg_ hnew_; (first | rw [← Ny344.out] at ho5 | (simp only [Int.reduceToNat] at ho5; rw [← Ny344.out] at ho5)); have n0_ := Aside0.mk (Kd.R_lower ho5 (below_size (by repeat (first | (with_reducible first | exact HB.out | apply below_alloc | apply pw_below_drewN | apply below_drew1) | exact HB.out)))); have n1_ := Aside0.mk (below_step (by repeat (first | (with_reducible first | exact HB.out | apply below_alloc | apply pw_below_drewN | apply below_drew1) | exact HB.out)) hb); clear HB; have HO346 := n0_; have HB := n1_; clear n0_ n1_; clear hb ho5; have hcv6 := own_string (P := Tryz.prog) Tryz.underlying72 Tryz.underlying5 Tryz.underlying9 (Kd.own_of_R HO346.out)))
  go_ret
  exact ⟨by first | rfl | (simp [errW_none, errW_some] <;> rfl) | (simp [*, errW_none, errW_some] <;> rfl), by repeat (first | (with_reducible first | exact HB.out | apply below_alloc | apply pw_below_drewN | apply below_drew1) | exact HB.out)⟩
 ·rw [if_neg c3] at H
  exact absurd H (by simp)
end Go.Proofs.YtkbegfihdpiacaaGreatDoor.PX
namespace Go.Proofs.YtkbegfihdpiacaaGreatDoor.PX
open Go.RowKit Nt Go.Lib Go.Maps Go.Proofs.YtkbegfihdpiacaaGreatDoorW.PrintWords Go.Proofs.YtkbegfihdpiacaaGreatDoorW.PrintLast
def s37 (x : S82) : S49 := ⟨x.f0, x.f1, x.f2⟩
theorem rd75 (l : List S82) (i : Nat) (h : i < l.length) : rd_T82 l (i : Int) = l[i] := by
 unfold rd_T82; simp [List.getElem?_eq_getElem h]
theorem sigs_l0 (x : List S82) (hx : x.length ≤ 1000000) : ∀ (k i : Nat) (acc : List S49), acc.length ≤ i → i ≤ x.length → x.length - i < k → laws_sigs.l0 k acc x (x.length : Int) (i : Int) = some (acc ++ (x.drop i).map s37)
 | 0, i, acc, _, _, h => by omega
 | k + 1, i, acc, ha, hi, h => by
  unfold laws_sigs.l0
  by_cases hlt : i < x.length
  ·rw [if_pos (by omega), if_pos (by omega), if_pos (by omega), if_pos (by omega), w1 i (by omega), sigs_l0 x hx k (i + 1) _ (by rw [List.length_append]; simp only [List.length_cons, List.length_nil]; omega) (by omega) (by omega), List.drop_eq_getElem_cons hlt, List.map_cons, List.append_assoc, rd75 x i hlt]
   rfl
  ·rw [if_neg (by omega), List.drop_eq_nil_of_le (by omega)]
   simp
theorem sigs_f (x : List S82) (hx : x.length ≤ 1000000) (k : Nat) (hk : x.length < k) : laws_sigs.f k x = some (x.map s37) := by
 have h := sigs_l0 x hx k 0 [] (Nat.le_refl _) (by omega) (by omega)
 unfold laws_sigs.f
 simpa using h
theorem outM_len (t : ByteArray) (o : ORes) (h : ∀ s u, o = .ok s u → s.length ≤ 1000000 ∧ u.length ≤ 1000000) : (outM t o).2.1.length ≤ 1000000 ∧ (outM t o).2.2.1.length ≤ 1000000 := by
 cases o with
 | bad => exact ⟨by show 0 ≤ _; omega, by show 0 ≤ _; omega⟩
 | inv nm g => exact ⟨by show 1 ≤ _; omega, by show 0 ≤ _; omega⟩
 | ok s u =>
  obtain ⟨h1, h2⟩ := h s u rfl
  cases s with
  | nil => exact ⟨by show 0 ≤ _; omega, by unfold outM; simpa using h2⟩
  | cons x s => exact ⟨by unfold outM; simpa using h1, by unfold outM; simpa using h2⟩
theorem told_out {ks : List S56} {l : List UInt8} {r1 : ByteArray} {r2 r3 : List S49} {r4 : Int} (h : ((r1, r2, r3, r4, true) : ByteArray × List S49 × List S49 × Int × Bool) = resD (openM ks l).1 (openM ks l).2)
  (hcnt : ∀ i, lastN l l.length = some i → l[l.length - 1]? = some 10 → (linesD (l.drop (i + 2))).length ≤ 100) :
  ∃ (p1 p2 : List S82), outM (openM ks l).1 (openM ks l).2 = (r1, p1, p2, r4) ∧ r2 = p1.map s37 ∧ r3 = p2.map s37 ∧ p1.length ≤ 1000000 ∧ p2.length ≤ 1000000 := by
 obtain ⟨e4, e1, e2, e3⟩ := out_res (openM ks l).1 (openM ks l).2
 obtain ⟨g1, g2⟩ := outM_len (openM ks l).1 (openM ks l).2 (openM_len ks l hcnt)
 rw [← h] at e1 e2 e3 e4
 exact ⟨_, _, Prod.ext e1 (Prod.ext rfl (Prod.ext rfl e4)), e2.symm, e3.symm, g1, g2⟩
abbrev IORd (W : World) (t : ByteArray) (p1 p2 : List S82) (k : Int) (e : Ending) (w' : World) : Prop :=
 ∃ E1 e1 E2 e2, e = .returned (.tuple #[.agg #[.string t, .slice E1 p1.length e1, .slice E2 p2.length e2], .int .i64 k]) ∧ (p1.length ≤ e1 ∧ Kd.C k82 w' E1 p1.length p1) ∧ (p2.length ≤ e2 ∧ Kd.C k82 w' E2 p2.length p2) ∧ Below W.heap.size W w'
theorem IOPost.rd {W : World} {t : ByteArray} {p1 p2 : List S82} {k : Int} {e : Ending} {w' : World} (h : IOPost W (t, p1, p2, k) e w') : IORd W t p1 p2 k e w' := by
 obtain ⟨v1, v2, rfl, hq1, hq2, hb⟩ := h
 obtain ⟨E1, e1, rfl⟩ := Kd.R_slice hq1
 obtain ⟨E2, e2, rfl⟩ := Kd.R_slice hq2
 exact ⟨E1, e1, E2, e2, rfl, (Kd.R_reads' hq1).2, (Kd.R_reads' hq2).2, hb⟩
def sgOf (l : List UInt8) : S122 := ⟨S (lineD l).1, ((lineD l).2.1 : Int), S (lineD l).2.2.1⟩
theorem decodeN_more (n m b0 b1 b2 b3 c1 c2 c3 : Nat) (hm : n ≤ m) (h1 : 1 < n → c1 = b1) (h2 : 2 < n → c2 = b2) (h3 : 3 < n → c3 = b3) (ok : ¬ ((decodeN n b0 b1 b2 b3).1 = 65533 ∧ (decodeN n b0 b1 b2 b3).2 = 1)) : decodeN m b0 c1 c2 c3 = decodeN n b0 b1 b2 b3 := by
 unfold decodeN at ok ⊢
 by_cases e0 : b0 < 128
 ·rw [if_pos e0, if_pos e0]
 ·rw [if_neg e0] at ok ⊢
  rw [if_neg e0]
  by_cases e1 : b0 / 32 = 6 ∧ (1 < n ∧ b1 / 64 = 2)
  ·obtain rfl := h1 e1.2.1
   rw [if_pos e1, if_pos ⟨e1.1, by omega, e1.2.2⟩]
  ·rw [if_neg e1] at ok ⊢
   by_cases e2 : b0 / 16 = 14 ∧ (1 < n ∧ b1 / 64 = 2) ∧ (2 < n ∧ b2 / 64 = 2)
   ·obtain rfl := h1 e2.2.1.1
    obtain rfl := h2 e2.2.2.1
    rw [if_neg (fun e => by omega), if_pos e2, if_pos ⟨e2.1, ⟨by omega, e2.2.1.2⟩, by omega, e2.2.2.2⟩]
   ·rw [if_neg e2] at ok ⊢
    by_cases e3 : b0 / 8 = 30 ∧ (1 < n ∧ b1 / 64 = 2) ∧ (2 < n ∧ b2 / 64 = 2) ∧ (3 < n ∧ b3 / 64 = 2)
    ·obtain rfl := h1 e3.2.1.1
     obtain rfl := h2 e3.2.2.1.1
     obtain rfl := h3 e3.2.2.2.1
     rw [if_neg (fun e => by omega), if_neg (fun e => by omega), if_pos e3, if_pos ⟨e3.1, ⟨by omega, e3.2.1.2⟩, ⟨by omega, e3.2.2.1.2⟩, by omega, e3.2.2.2.2⟩]
    ·rw [if_neg e3] at ok
     exact absurd ⟨rfl, rfl⟩ ok
theorem decodeN_cont (n b0 b1 b2 b3 : Nat) (ok : ¬ ((decodeN n b0 b1 b2 b3).1 = 65533 ∧ (decodeN n b0 b1 b2 b3).2 = 1)) : (decodeN n b0 b1 b2 b3).2 ≤ 4 ∧ (1 < (decodeN n b0 b1 b2 b3).2 → 128 ≤ b1) ∧ (2 < (decodeN n b0 b1 b2 b3).2 → 128 ≤ b2) ∧ (3 < (decodeN n b0 b1 b2 b3).2 → 128 ≤ b3) := by
 unfold decodeN at ok ⊢
 split
 ·simp
 ·rename_i e0
  rw [if_neg e0] at ok
  split
  ·rename_i e1
   rw [if_pos e1] at ok
   split
   ·refine ⟨by simp, fun _ => by omega, fun h => ?_, fun h => ?_⟩ <;> simp at h
   ·simp
  ·rename_i e1
   rw [if_neg e1] at ok
   split
   ·rename_i e2
    split
    ·refine ⟨by simp, fun _ => by omega, fun _ => by omega, fun h => ?_⟩
     simp at h
    ·simp
   ·split
    ·rename_i e2 e3
     split
     ·exact ⟨by simp, fun _ => by omega, fun _ => by omega, fun _ => by omega⟩
     ·simp
    ·simp
theorem decodeN_err (n m b0 b1 b2 b3 c1 c2 c3 : Nat) (hm : n ≤ m) (h1 : 1 < n → c1 = b1) (h2 : 2 < n → c2 = b2) (h3 : 3 < n → c3 = b3) (ok : ¬ ((decodeN m b0 c1 c2 c3).1 = 65533 ∧ (decodeN m b0 c1 c2 c3).2 = 1)) (hk : (decodeN m b0 c1 c2 c3).2 ≤ n) (err : (decodeN n b0 b1 b2 b3).1 = 65533 ∧ (decodeN n b0 b1 b2 b3).2 = 1) : False := by
 have key : decodeN n b0 b1 b2 b3 = decodeN m b0 c1 c2 c3 := by
  unfold decodeN at ok hk ⊢
  by_cases e0 : b0 < 128
  ·rw [if_pos e0, if_pos e0]
  ·rw [if_neg e0] at ok hk
   rw [if_neg e0, if_neg e0]
   by_cases e1 : b0 / 32 = 6 ∧ (1 < m ∧ c1 / 64 = 2)
   ·rw [if_pos e1] at ok hk
    have hn : 1 < n := by split at hk <;> simp at hk <;> first | omega | (rename_i g; rw [if_neg g] at ok; simp at ok)
    obtain rfl := h1 hn
    rw [if_pos e1, if_pos ⟨e1.1, hn, e1.2.2⟩]
   ·rw [if_neg e1] at ok hk
    by_cases e2 : b0 / 16 = 14 ∧ (1 < m ∧ c1 / 64 = 2) ∧ (2 < m ∧ c2 / 64 = 2)
    ·rw [if_pos e2] at ok hk
     have hn : 2 < n := by split at hk <;> simp at hk <;> first | omega | (rename_i g; rw [if_neg g] at ok; simp at ok)
     obtain rfl := h1 (by omega)
     obtain rfl := h2 hn
     conv => lhs; rw [if_neg (fun e => by omega), if_pos ⟨e2.1, ⟨by omega, e2.2.1.2⟩, hn, e2.2.2.2⟩]
     conv => rhs; rw [if_neg e1, if_pos e2]
    ·rw [if_neg e2] at ok hk
     by_cases e3 : b0 / 8 = 30 ∧ (1 < m ∧ c1 / 64 = 2) ∧ (2 < m ∧ c2 / 64 = 2) ∧ (3 < m ∧ c3 / 64 = 2)
     ·rw [if_pos e3] at ok hk
      have hn : 3 < n := by split at hk <;> simp at hk <;> first | omega | (rename_i g; rw [if_neg g] at ok; simp at ok)
      obtain rfl := h1 (by omega)
      obtain rfl := h2 (by omega)
      obtain rfl := h3 hn
      conv => lhs; rw [if_neg (fun e => by omega), if_neg (fun e => by omega), if_pos ⟨e3.1, ⟨by omega, e3.2.1.2⟩, ⟨by omega, e3.2.2.1.2⟩, hn, e3.2.2.2.2⟩]
      conv => rhs; rw [if_neg e1, if_neg e2, if_pos e3]
     ·rw [if_neg e3] at ok
      exact absurd ⟨rfl, rfl⟩ ok
 rw [key] at err
 exact ok err
theorem getD_app (a b : List UInt8) (i : Nat) (h : i < a.length) : (a ++ b).getD i 0 = a.getD i 0 := by
 rw [List.getD_eq_getElem?_getD, List.getD_eq_getElem?_getD, List.getElem?_append_left h]
theorem decodeL_app (a b : List UInt8) (ha : a ≠ []) (ok : ¬ ((decodeL a).1 = 65533 ∧ (decodeL a).2 = 1)) : decodeL (a ++ b) = decodeL a := by
 have hp := List.length_pos_iff.2 ha
 rw [decodeL_N] at ok
 rw [decodeL_N, decodeL_N a, getD_app a b 0 hp]
 exact decodeN_more _ _ _ _ _ _ _ _ _ (by rw [List.length_append]; omega) (fun h => by rw [getD_app a b 1 h]) (fun h => by rw [getD_app a b 2 h]) (fun h => by rw [getD_app a b 3 h]) ok
theorem valid_app : ∀ (n : Nat) (a b : List UInt8), a.length = n → validD a = true → validD (a ++ b) = validD b := by
 intro n
 induction n using Nat.strongRecOn with
 | _ n ih =>
  intro a b hn ha
  by_cases he : a = []
  ·subst he; rfl
  ·have h := ha
   rw [validD_step a he] at h
   split at h
   ·cases h
   ·rename_i ok
    have hle := decodeL_le a he
    have hw := decodeL_width a
    rw [validD_step (a ++ b) (by simp [he]), decodeL_app a b he ok, if_neg ok, List.drop_append_of_le_length hle]
    exact ih (a.drop (decodeL a).2).length (by rw [List.length_drop]; have := List.length_pos_iff.2 he; omega) _ b rfl h
theorem valid_cut : ∀ (n : Nat) (a b : List UInt8) (c : UInt8), a.length = n → c.toNat < 128 → validD (a ++ c :: b) = true → validD a = true ∧ validD b = true := by
 intro n
 induction n using Nat.strongRecOn with
 | _ n ih =>
  intro a b c hn hc h
  by_cases he : a = []
  ·subst he
   rw [List.nil_append, validD_cons c b hc] at h
   exact ⟨rfl, h⟩
  ·have hp := List.length_pos_iff.2 he
   rw [validD_step _ (by simp)] at h
   split at h
   ·cases h
   ·rename_i ok
    have hk : (decodeL (a ++ c :: b)).2 ≤ a.length := by
     rw [decodeL_N] at ok ⊢
     obtain ⟨h4, h1, h2, h3⟩ := decodeN_cont _ _ _ _ _ ok
     have hat : (a ++ c :: b).getD a.length 0 = c := by rw [List.getD_eq_getElem?_getD, List.getElem?_append_right (Nat.le_refl _)]; simp
     rcases Nat.lt_or_ge a.length (decodeN (a ++ c :: b).length ((a ++ c :: b).getD 0 0).toNat ((a ++ c :: b).getD 1 0).toNat ((a ++ c :: b).getD 2 0).toNat ((a ++ c :: b).getD 3 0).toNat).2 with hlt | hge
     ·exfalso
      have : a.length = 1 ∨ a.length = 2 ∨ a.length = 3 := by omega
      rcases this with e | e | e
      ·rw [e] at hat hlt; have := h1 hlt; rw [hat] at this; omega
      ·rw [e] at hat hlt; have := h2 hlt; rw [hat] at this; omega
      ·rw [e] at hat hlt; have := h3 hlt; rw [hat] at this; omega
     ·exact hge
    have hd : (a ++ c :: b).drop (decodeL (a ++ c :: b)).2 = a.drop (decodeL (a ++ c :: b)).2 ++ c :: b := List.drop_append_of_le_length hk
    have hw := decodeL_width (a ++ c :: b)
    rw [hd] at h
    obtain ⟨i1, i2⟩ := ih (a.drop (decodeL (a ++ c :: b)).2).length (by rw [List.length_drop]; omega) _ b c rfl hc h
    refine ⟨?_, i2⟩
    have hsame : decodeL a = decodeL (a ++ c :: b) := by
     by_cases oka : (decodeL a).1 = 65533 ∧ (decodeL a).2 = 1
     ·exfalso
      have hl : (a ++ c :: b).length = a.length + (b.length + 1) := by simp
      rw [decodeL_N] at ok hk oka
      rw [getD_app a _ 0 hp] at ok hk
      refine decodeN_err _ _ _ _ _ _ _ _ _ (by rw [hl]; omega) (fun h => by rw [getD_app a _ 1 h]) (fun h => by rw [getD_app a _ 2 h]) (fun h => by rw [getD_app a _ 3 h]) ok hk oka
     ·exact (decodeL_app a _ he oka).symm
    rw [validD_step a he, hsame, if_neg ok]
    exact i1
def lineS (x : S122) : List UInt8 := dashL ++ sgLine x
def flat (xs : List (List UInt8)) : List UInt8 := (xs.map fun x => x ++ [10]).flatten
def wr (t : List UInt8) (xs : List (List UInt8)) : List UInt8 := t ++ 10 :: flat xs
theorem flat_cons (x : List UInt8) (xs : List (List UInt8)) : flat (x :: xs) = x ++ 10 :: flat xs := by unfold flat; simp
theorem nl_app : ∀ (x rest : List UInt8), 10 ∉ x → nl (x ++ 10 :: rest) = x.length
 | [], rest, _ => by unfold nl; simp
 | a :: x, rest, h => by
  have := nl_app x rest (fun e => h (List.mem_cons_of_mem _ e))
  rw [List.cons_append, nl, if_neg (fun e => h (by rw [e]; simp)), this]
  rfl
theorem lines_flat : ∀ (xs : List (List UInt8)), (∀ x ∈ xs, 10 ∉ x) → linesD (flat xs) = xs
 | [], _ => rfl
 | x :: xs, h => by
  have hx := h x (List.mem_cons_self ..)
  rw [flat_cons, linesD_cons _ (by simp), nl_app x _ hx, List.take_left' rfl, List.drop_append, List.drop_eq_nil_of_le (by omega), show x.length + 1 - x.length = 1 by omega]
  simp only [List.nil_append, List.drop_succ_cons, List.drop_zero]
  rw [lines_flat xs fun y hy => h y (List.mem_cons_of_mem _ hy)]
theorem flat_nn : ∀ (xs : List (List UInt8)), (∀ x ∈ xs, 10 ∉ x ∧ x ≠ []) → (∀ j, nnAt (flat xs) j = false) ∧ (flat xs)[0]? ≠ some 10
 | [], _ => ⟨fun j => by simp [nnAt, flat], by simp [flat]⟩
 | x :: xs, h => by
  obtain ⟨hx, hne⟩ := h x (List.mem_cons_self ..)
  obtain ⟨ih, i0⟩ := flat_nn xs fun y hy => h y (List.mem_cons_of_mem _ hy)
  have hp := List.length_pos_iff.2 hne
  have hlo : ∀ j, j < x.length → (x ++ 10 :: flat xs)[j]? ≠ some 10 := fun j hj e => by
   rw [List.getElem?_append_left hj] at e
   exact hx (List.mem_of_getElem? e)
  rw [flat_cons]
  refine ⟨fun j => ?_, hlo 0 hp⟩
  unfold nnAt
  rcases Nat.lt_trichotomy j x.length with hj | hj | hj
  ·rw [Bool.and_eq_false_iff]; left
   exact beq_eq_false_iff_ne.2 (hlo j hj)
  ·rw [Bool.and_eq_false_iff]; right
   rw [hj, List.getElem?_append_right (by omega), show x.length + 1 - x.length = 1 by omega]
   exact beq_eq_false_iff_ne.2 (by simpa using i0)
  ·have := ih (j - x.length - 1)
   unfold nnAt at this
   rw [List.getElem?_append_right (by omega), List.getElem?_append_right (by omega), show j - x.length = (j - x.length - 1) + 1 by omega, show j + 1 - x.length = (j - x.length - 1 + 1) + 1 by omega, List.getElem?_cons_succ, List.getElem?_cons_succ]
   exact this
theorem lastN_is (l : List UInt8) (i : Nat) (h : nnAt l i = true) (hn : ∀ j, i < j → nnAt l j = false) : ∀ n, i < n → lastN l n = some i
 | 0, hi => by omega
 | n + 1, hi => by
  rw [lastN]
  by_cases e : n = i
  ·rw [e, if_pos h]
  ·rw [if_neg (by rw [hn n (by omega)]; simp), lastN_is l i h hn n (by omega)]
theorem flat_plain : ∀ (xs : List (List UInt8)), (∀ x ∈ xs, plainD x = true) → plainD (flat xs) = true
 | [], _ => rfl
 | x :: xs, h => by
  have h1 := h x (List.mem_cons_self ..)
  have h2 := flat_plain xs fun y hy => h y (List.mem_cons_of_mem _ hy)
  unfold plainD at h1 h2 ⊢
  rw [Bool.and_eq_true] at h1 h2 ⊢
  rw [flat_cons, valid_app _ x _ rfl h1.2, validD_cons _ _ (by decide)]
  refine ⟨?_, h2.2⟩
  unfold lowD at h1 h2 ⊢
  rw [List.all_append, List.all_cons, h1.1, h2.1]; rfl
theorem wr_plain (t : List UInt8) (xs : List (List UInt8)) (ht : plainD t = true) (hx : ∀ x ∈ xs, plainD x = true) : plainD (wr t xs) = true := by
 have h2 := flat_plain xs hx
 unfold plainD at ht h2 ⊢
 rw [Bool.and_eq_true] at ht h2 ⊢
 unfold wr
 rw [valid_app _ t _ rfl ht.2, validD_cons _ _ (by decide)]
 refine ⟨?_, h2.2⟩
 unfold lowD at ht h2 ⊢
 rw [List.all_append, List.all_cons, ht.1, h2.1]; rfl
theorem flat_end : ∀ (xs : List (List UInt8)), xs ≠ [] → flat xs ≠ [] ∧ (flat xs)[(flat xs).length - 1]? = some 10
 | [], h => absurd rfl h
 | [x], _ => by
  rw [flat_cons, show flat [] = [] from rfl]
  refine ⟨by simp, ?_⟩
  rw [List.length_append, List.getElem?_append_right (by simp)]
  simp
 | x :: y :: xs, _ => by
  obtain ⟨h1, h2⟩ := flat_end (y :: xs) (by simp)
  have hp := List.length_pos_iff.2 h1
  rw [flat_cons]
  refine ⟨by simp, ?_⟩
  rw [List.length_append, List.length_cons, List.getElem?_append_right (by omega), show x.length + ((flat (y :: xs)).length + 1) - 1 - x.length = ((flat (y :: xs)).length - 1) + 1 by omega, List.getElem?_cons_succ]
  exact h2
theorem openM_wr (ks : List S56) (t : List UInt8) (xs : List (List UInt8)) (ht : plainD t = true) (h10 : t ≠ [] ∧ t[t.length - 1]? = some 10) (hx : ∀ x ∈ xs, plainD x = true ∧ 10 ∉ x ∧ x ≠ []) (hne : xs ≠ []) : openM ks (wr t xs) = (S t, openL ks (S t) xs [] [] []) := by
 have hp := List.length_pos_iff.2 h10.1
 obtain ⟨hnn, h0⟩ := flat_nn xs fun x h => (hx x h).2
 obtain ⟨hf, hfe⟩ := flat_end xs hne
 have hfp := List.length_pos_iff.2 hf
 have hlen : (wr t xs).length = t.length + ((flat xs).length + 1) := by unfold wr; simp
 have hlast : lastN (wr t xs) (wr t xs).length = some (t.length - 1) := by
  refine lastN_is _ _ ?_ ?_ _ (by omega)
  ·unfold nnAt wr
   rw [List.getElem?_append_left (by omega), h10.2, List.getElem?_append_right (by omega), show t.length - 1 + 1 - t.length = 0 by omega]
   rfl
  ·intro j hj
   unfold wr
   have hj' : t.length ≤ j := by omega
   unfold nnAt
   rw [List.getElem?_append_right hj', List.getElem?_append_right (by omega)]
   rcases Nat.eq_zero_or_pos (j - t.length) with e | e
   ·rw [Bool.and_eq_false_iff]; right
    rw [show j + 1 - t.length = 1 by omega]
    exact beq_eq_false_iff_ne.2 (by simpa using h0)
   ·have := hnn (j - t.length - 1)
    unfold nnAt at this
    rw [show j - t.length = (j - t.length - 1) + 1 by omega, show j + 1 - t.length = (j - t.length - 1 + 1) + 1 by omega, List.getElem?_cons_succ, List.getElem?_cons_succ]
    exact this
 have hd : (wr t xs).drop (t.length - 1 + 2) = flat xs := by
  unfold wr
  rw [List.drop_append, List.drop_eq_nil_of_le (by omega), show t.length - 1 + 2 - t.length = 1 by omega]; rfl
 have htk : (wr t xs).take (t.length - 1 + 1) = t := by
  unfold wr
  rw [show t.length - 1 + 1 = t.length by omega, List.take_left' rfl]
 unfold openM
 rw [if_pos (wr_plain t xs ht fun x h => (hx x h).1), hlast]
 simp only
 rw [hd, htk, if_neg hf, if_pos ?_, lines_flat xs fun x h => (hx x h).2.1]
 rw [hlen]
 unfold wr
 rw [List.getElem?_append_right (by omega), show t.length + ((flat xs).length + 1) - 1 - t.length = ((flat xs).length - 1) + 1 by omega, List.getElem?_cons_succ]
 exact hfe
structure LineF (l : List UInt8) (raw : List UInt8) : Prop where
 eq : l = lineS (sgOf l)
 std : Nt.std (lineD l).2.2.1 = some raw
 hash : (lineD l).2.1 = hashL raw
 sg : (lineD l).2.2.2.1 = raw.drop 4
 name : nameD (lineD l).1 = true
 len : 5 ≤ raw.length
theorem line_F (l : List UInt8) (h : (lineD l).2.2.2.2.1 = true) : ∃ raw, LineF l raw := by
 by_cases hd : l.take 4 = dashL
 ·by_cases hb : blank (l.drop 4) = (l.drop 4).length
  ·rw [line_noblank l hd hb] at h; cases h
  ·cases hs : Nt.std ((l.drop 4).drop (blank (l.drop 4) + 1)) with
   | none => rw [line_nostd l hd hs] at h; cases h
   | some raw =>
    cases hn : nameD ((l.drop 4).take (blank (l.drop 4))) with
    | false => rw [line_noname l hd hn] at h; cases h
    | true =>
     rcases Nat.lt_or_ge raw.length 5 with h5 | h5
     ·rw [line_short5 l hd raw hs h5] at h; cases h
     ·have hlt : blank (l.drop 4) < (l.drop 4).length := by have := blank_le (l.drop 4); omega
      obtain ⟨_, e1, e2, e3, e4⟩ := line_fine l hd hlt raw hs hn h5
      refine ⟨raw, ?_, by rw [e3]; exact hs, e2, e4, by rw [e1]; exact hn, h5⟩
      have hat := blank_at (l.drop 4) hlt
      obtain ⟨hl', he⟩ := List.getElem?_eq_some_iff.1 hat
      show l = dashL ++ ((lineD l).1 ++ 32 :: (lineD l).2.2.1)
      rw [e1, e3, ← he, ← List.drop_eq_getElem_cons hl', List.take_append_drop, ← hd, List.take_append_drop]
 ·rw [line_nodash' l hd] at h; cases h
structure SgF (x : S122) : Prop where
 fine : (lineD (lineS x)).2.2.2.2.1 = true
 back : sgOf (lineS x) = x
theorem SgF.of {l : List UInt8} (h : (lineD l).2.2.2.2.1 = true) : lineS (sgOf l) = l ∧ SgF (sgOf l) := by
 obtain ⟨raw, hF⟩ := line_F l h
 exact ⟨hF.eq.symm, by rw [← hF.eq]; exact h, by rw [← hF.eq]⟩
def Known (ks : List S56) (text : ByteArray) (x : S122) : Prop := ∃ k, findS ks x.f0 x.f1 = some k ∧ accS k.f2 k.f3 text (S (lineD (lineS x)).2.2.2.1) = true
def Dif (x y : S122) : Prop := ¬ (x.f0 = y.f0 ∧ x.f1 = y.f1)
theorem openL_inv (ks : List S56) (text : ByteArray) (L : List (List UInt8)) : ∀ (lines : List (List UInt8)) (seen : List (ByteArray × Int)) (sigs unv s u : List S122), openL ks text lines seen sigs unv = .ok s u → (∀ l ∈ lines, l ∈ L) → (∀ p, p ∈ seen ↔ ∃ x ∈ sigs, (x.f0, x.f1) = p) →
  (∀ x ∈ sigs, SgF x ∧ lineS x ∈ L ∧ Known ks text x) → (∀ x ∈ unv, SgF x ∧ lineS x ∈ L ∧ findS ks x.f0 x.f1 = none) → sigs.Pairwise Dif → unv.Nodup →
  (∀ x ∈ s, SgF x ∧ lineS x ∈ L ∧ Known ks text x) ∧ (∀ x ∈ u, SgF x ∧ lineS x ∈ L ∧ findS ks x.f0 x.f1 = none) ∧ s.Pairwise Dif ∧ u.Nodup
 | [], seen, sigs, unv, s, u, h, _, _, h1, h2, h3, h4 => by
  rw [openL] at h
  injection h with a b
  subst a; subst b
  exact ⟨h1, h2, h3, h4⟩
 | l :: ls, seen, sigs, unv, s, u, h, hL, hs, h1, h2, h3, h4 => by
  have hl := hL l (List.mem_cons_self ..)
  have hL' : ∀ x ∈ ls, x ∈ L := fun x hx => hL x (List.mem_cons_of_mem _ hx)
  rw [openL] at h
  split at h
  ·cases h
  ·rename_i hf
   have hfine : (lineD l).2.2.2.2.1 = true := by simpa using hf
   obtain ⟨hb0, hS⟩ := SgF.of hfine
   have hb : lineS ⟨S (lineD l).1, ((lineD l).2.1 : Int), S (lineD l).2.2.1⟩ = l := hb0
   cases hk : findS ks (S (lineD l).1) ((lineD l).2.1 : Int) with
   | none =>
    rw [hk] at h
    simp only at h
    split at h
    ·exact openL_inv ks text L ls _ _ _ _ _ h hL' hs h1 h2 h3 h4
    ·rename_i hin
     refine openL_inv ks text L ls _ _ _ _ _ h hL' hs h1 (fun x hx => ?_) h3 ?_
     ·rcases List.mem_append.1 hx with hx | hx
      ·exact h2 x hx
      ·obtain rfl := List.mem_singleton.1 hx
       exact ⟨hS, by rw [hb]; exact hl, hk⟩
     ·rw [List.nodup_append]
      exact ⟨h4, by simp, fun a ha b hb e => by rw [List.mem_singleton.1 hb] at e; exact hin (e ▸ ha)⟩
   | some k =>
    rw [hk] at h
    simp only at h
    split at h
    ·exact openL_inv ks text L ls _ _ _ _ _ h hL' hs h1 h2 h3 h4
    ·rename_i hin
     split at h
     ·rename_i ha
      refine openL_inv ks text L ls _ _ _ _ _ h hL' (fun p => ?_) (fun x hx => ?_) h2 ?_ h4
      ·rw [List.mem_cons, hs p]
       constructor
       ·rintro (rfl | ⟨x, hx, e⟩)
        ·exact ⟨_, List.mem_append_right _ (List.mem_singleton.2 rfl), rfl⟩
        ·exact ⟨x, List.mem_append_left _ hx, e⟩
       ·rintro ⟨x, hx, e⟩
        rcases List.mem_append.1 hx with hx | hx
        ·exact .inr ⟨x, hx, e⟩
        ·rw [List.mem_singleton.1 hx] at e; exact .inl e.symm
      ·rcases List.mem_append.1 hx with hx | hx
       ·exact h1 x hx
       ·obtain rfl := List.mem_singleton.1 hx
        refine ⟨hS, by rw [hb]; exact hl, k, hk, ?_⟩
        rw [hb]; exact ha
      ·rw [List.pairwise_append]
       refine ⟨h3, by simp, fun a ha b hb e => ?_⟩
       rw [List.mem_singleton.1 hb] at e
       exact hin ((hs _).2 ⟨a, ha, by rw [e.1, e.2]⟩)
     ·cases h
theorem openL_unv (ks : List S56) (text : ByteArray) (ls : List (List UInt8)) (seen : List (ByteArray × Int)) (sigs : List S122) : ∀ (u unv : List S122), (∀ x ∈ u, SgF x ∧ findS ks x.f0 x.f1 = none) → u.Nodup → (∀ x ∈ u, x ∉ unv) →
  openL ks text (u.map lineS ++ ls) seen sigs unv = openL ks text ls seen sigs (unv ++ u)
 | [], unv, _, _, _ => by simp
 | x :: u, unv, h, hd, hn => by
  obtain ⟨⟨hf, hb⟩, hk⟩ := h x (List.mem_cons_self ..)
  have e0 : S (lineD (lineS x)).1 = x.f0 := congrArg S122.f0 hb
  have e1 : ((lineD (lineS x)).2.1 : Int) = x.f1 := congrArg S122.f1 hb
  have hx : (⟨S (lineD (lineS x)).1, ((lineD (lineS x)).2.1 : Int), S (lineD (lineS x)).2.2.1⟩ : S122) = x := hb
  rw [List.map_cons, List.cons_append, openL, hf, if_neg (by simp), hx, e0, e1, hk]
  simp only
  rw [if_neg (hn x (List.mem_cons_self ..)), openL_unv ks text ls seen sigs u (unv ++ [x]) (fun y hy => h y (List.mem_cons_of_mem _ hy)) (List.nodup_cons.1 hd).2 (fun y hy hm => by
   rcases List.mem_append.1 hm with hm | hm
   ·exact hn y (List.mem_cons_of_mem _ hy) hm
   ·rw [List.mem_singleton.1 hm] at hy; exact (List.nodup_cons.1 hd).1 hy), List.append_assoc]
  rfl
theorem plain_cut {a b : List UInt8} (h : plainD (a ++ 10 :: b) = true) : plainD a = true ∧ plainD b = true := by
 unfold plainD at h ⊢
 rw [Bool.and_eq_true] at h
 obtain ⟨h1, h2⟩ := valid_cut _ a b 10 rfl (by decide) h.2
 have hl := h.1
 unfold lowD at hl ⊢
 rw [List.all_append, List.all_cons, Bool.and_eq_true, Bool.and_eq_true] at hl
 rw [hl.1, hl.2.2, h1, h2]
 exact ⟨rfl, rfl⟩
theorem nl_at : ∀ (l : List UInt8) (h : nl l < l.length), l[nl l] = 10
 | [], h => by simp at h
 | a :: l, h => by
  by_cases e : a = 10
  ·have : nl (a :: l) = 0 := by rw [nl, if_pos e]
   simp only [this]
   exact e
  ·have hn : nl (a :: l) = nl l + 1 := by rw [nl, if_neg e]
   simp only [hn, List.getElem_cons_succ]
   exact nl_at l (by rw [hn] at h; simpa using h)
theorem lines_plain : ∀ (n : Nat) (l : List UInt8), plainD l = true → endsNl l → ∀ x ∈ linesF n l, plainD x = true ∧ 10 ∉ x
 | 0, l, _, _, x, hx => by cases hx
 | n + 1, l, hp, he, x, hx => by
  rw [linesF] at hx
  by_cases hl : l = []
  ·rw [if_pos hl] at hx; cases hx
  ·rw [if_neg hl] at hx
   have hlt := nl_lt l hl he
   have h10 : l[nl l] = 10 := nl_at l hlt
   have hsp : l = l.take (nl l) ++ 10 :: l.drop (nl l + 1) := by rw [← h10, ← List.drop_eq_getElem_cons hlt, List.take_append_drop]
   obtain ⟨p1, p2⟩ := plain_cut (hsp ▸ hp)
   rcases List.mem_cons.1 hx with rfl | hx
   ·exact ⟨p1, nl_not l⟩
   ·exact lines_plain n _ p2 (endsNl_drop l _ he) x hx
structure Told (ks : List S56) (t : List UInt8) (s u : List S122) : Prop where
 pt : plainD t = true
 nt : t ≠ [] ∧ t[t.length - 1]? = some 10
 hs : ∀ x ∈ s, SgF x ∧ plainD (lineS x) = true ∧ 10 ∉ lineS x ∧ Known ks (S t) x
 hu : ∀ x ∈ u, SgF x ∧ plainD (lineS x) = true ∧ 10 ∉ lineS x ∧ findS ks x.f0 x.f1 = none
 ds : s.Pairwise Dif
 du : u.Nodup
theorem openM_told (ks : List S56) (l : List UInt8) (s u : List S122) (h : (openM ks l).2 = .ok s u) : ∃ t, (openM ks l).1 = S t ∧ Told ks t s u := by
 unfold openM at h ⊢
 by_cases hp : plainD l = true
 ·rw [if_pos hp] at h ⊢
  cases hlast : lastN l l.length with
  | none => rw [hlast] at h; cases h
  | some i =>
   rw [hlast] at h
   simp only at h ⊢
   by_cases hd : l.drop (i + 2) = []
   ·rw [if_pos hd] at h; cases h
   ·rw [if_neg hd] at h ⊢
    by_cases h10 : l[l.length - 1]? = some 10
    ·rw [if_pos h10] at h ⊢
     refine ⟨l.take (i + 1), rfl, ?_⟩
     obtain ⟨hi, hnn⟩ := lastN_lt l _ _ hlast
     unfold nnAt at hnn
     rw [Bool.and_eq_true, beq_iff_eq, beq_iff_eq] at hnn
     obtain ⟨hi1, he1⟩ := List.getElem?_eq_some_iff.1 hnn.2
     have hsp : l = l.take (i + 1) ++ 10 :: l.drop (i + 2) := by rw [← he1, ← List.drop_eq_getElem_cons hi1, List.take_append_drop]
     obtain ⟨p1, p2⟩ := plain_cut (hsp ▸ hp)
     have hln := lines_plain (l.drop (i + 2)).length _ p2 (endsNl_drop l (i + 2) (.inr h10))
     obtain ⟨g1, g2, g3, g4⟩ := openL_inv ks _ (linesD (l.drop (i + 2))) _ [] [] [] s u h (fun _ h => h) (fun p => by simp) (fun x hx => by cases hx) (fun x hx => by cases hx) List.Pairwise.nil List.nodup_nil
     exact
     {pt := p1
      nt := ⟨fun e => by have := congrArg List.length e; rw [List.length_take] at this; simp only [List.length_nil] at this; omega, by rw [List.length_take, show min (i + 1) l.length - 1 = i by omega, List.getElem?_take_of_lt (by omega)]; exact hnn.1⟩
      hs := fun x hx => ⟨(g1 x hx).1, (hln _ (g1 x hx).2.1).1, (hln _ (g1 x hx).2.1).2, (g1 x hx).2.2⟩
      hu := fun x hx => ⟨(g2 x hx).1, (hln _ (g2 x hx).2.1).1, (hln _ (g2 x hx).2.1).2, (g2 x hx).2.2⟩
      ds := g3
      du := g4 }
    ·rw [if_neg h10] at h; cases h
 ·rw [if_neg hp] at h; cases h
theorem lineS_ne (x : S122) : lineS x ≠ [] := by unfold lineS dashL; simp
end Go.Proofs.YtkbegfihdpiacaaGreatDoor.PX
namespace Go.Proofs
open Go.Shelf
def Tryz.lays100_ren : Go.Shelf.Ren := ⟨fun | 100 => 47 | 207 => 67 | n => n, fun | 9 => 9 | 4 => 4 | 3 => 3 | n => n, fun | n => n⟩
theorem Tryz.lays100 : Go.Proofs.Lays.n100 Tryz.prog Tryz.lays100_ren := {
 mixed := by kernel_rfl
 f100 := Tryz.func47.trans (congrArg some (by kernel_rfl))
 f207 := Tryz.func67.trans (congrArg some (by kernel_rfl))
 t3 := Tryz.underlying3
 a3 := Tryz.isAgg3
 z3 := Tryz.sizeOf3
 v3 := Tryz.zeroValue3
 t4 := Tryz.underlying4
 a4 := Tryz.isAgg4
 z4 := Tryz.sizeOf4
 v4 := Tryz.zeroValue4
 t9 := Tryz.underlying9
 a9 := Tryz.isAgg9
 z9 := Tryz.sizeOf9
 v9 := Tryz.zeroValue9 }
open Go.RowKit Go.Lib in
theorem Tryz.strings_HasSuffix (s p : ByteArray) (w : World) (hs : s.size ≤ 9223372036854775807) :
  Calls Tryz.prog 47 #[.string s, .string p] w fun e w' => e = .returned (.bool (Lib.hasSuffix s.data.toList p.data.toList)) ∧ w' = w := Any.strings_HasSuffix Tryz.lays100 s p w hs
def Tryz.laysM178_ren : Go.Shelf.Ren := ⟨fun | 178 => 48 | 251 => 68 | 252 => 69 | 181 => 82 | 184 => 83 | 290 => 84 | 324 => 87 | n => n, fun | 130 => 155 | 9 => 9 | 3 => 3 | 75 => 69 | 0 => 0 | 93 => 135 | 91 => 133 | 131 => 156 | 4 => 4 | 37 => 72 | 20 => 20 | 80 => 123 | 5 => 5 | n => n, fun | 14 => 7 | n => n⟩
theorem Tryz.laysM178 : Go.Proofs.LaysM.n178 Tryz.prog Tryz.laysM178_ren := {
 mixed := by kernel_rfl
 f178 := Tryz.func48.trans (congrArg some (by kernel_rfl))
 f181 := Tryz.func82.trans (congrArg some (by kernel_rfl))
 f184 := Tryz.func83.trans (congrArg some (by kernel_rfl))
 f251 := Tryz.func68.trans (congrArg some (by kernel_rfl))
 f252 := Tryz.func69.trans (congrArg some (by kernel_rfl))
 f290 := Tryz.func84.trans (congrArg some (by kernel_rfl))
 f324 := Tryz.func87.trans (congrArg some (by kernel_rfl))
 t0 := Tryz.underlying0
 a0 := Tryz.isAgg0
 z0 := Tryz.sizeOf0
 v0 := Tryz.zeroValue0
 t3 := Tryz.underlying3
 a3 := Tryz.isAgg3
 z3 := Tryz.sizeOf3
 v3 := Tryz.zeroValue3
 t4 := Tryz.underlying4
 a4 := Tryz.isAgg4
 z4 := Tryz.sizeOf4
 v4 := Tryz.zeroValue4
 t9 := Tryz.underlying9
 a9 := Tryz.isAgg9
 z9 := Tryz.sizeOf9
 v9 := Tryz.zeroValue9
 t20 := Tryz.underlying20
 a20 := Tryz.isAgg20
 z20 := Tryz.sizeOf20
 v20 := Tryz.zeroValue20
 t37 := Tryz.underlying72
 a37 := Tryz.isAgg72
 z37 := Tryz.sizeOf72
 v37 := Tryz.zeroValue72
 t75 := Tryz.underlying69
 a75 := Tryz.isAgg69
 z75 := Tryz.sizeOf69
 v75 := Tryz.zeroValue69
 t91 := Tryz.underlying133
 a91 := Tryz.isAgg133
 z91 := Tryz.sizeOf133
 v91 := Tryz.zeroValue133
 t93 := Tryz.underlying135
 a93 := Tryz.isAgg135
 z93 := Tryz.sizeOf135
 v93 := Tryz.zeroValue135
 t130 := Tryz.underlying155
 a130 := Tryz.isAgg155
 z130 := Tryz.sizeOf155
 v130 := Tryz.zeroValue155
 t131 := Tryz.underlying156
 a131 := Tryz.isAgg156
 z131 := Tryz.sizeOf156
 v131 := Tryz.zeroValue156
 g14 := by kernel_rfl
 t5 := Tryz.underlying5
 a5 := Tryz.isAgg5
 z5 := Tryz.sizeOf5
 v5 := Tryz.zeroValue5
 t80 := Tryz.underlying123
 a80 := Tryz.isAgg123
 z80 := Tryz.sizeOf123
 v80 := Tryz.zeroValue123
 i0 := by kernel_rfl
 i3 := by kernel_rfl
 i4 := by kernel_rfl
 i5 := by kernel_rfl
 i9 := by kernel_rfl
 i20 := by kernel_rfl
 i37 := by kernel_rfl
 i75 := by kernel_rfl
 i80 := by kernel_rfl
 i91 := by kernel_rfl
 i93 := by kernel_rfl
 i130 := by kernel_rfl
 i131 := by kernel_rfl
 m14 := by kernel_rfl }
open Go.RowKit in
theorem Tryz.Buffer_WriteString_k (B b : Nat) (bs : List Value) (s : ByteArray) (w : World) (h : Lib.IsBuffer 135 5 B b bs w) (hBw : B ≤ w.heap.size) (h1 : ∀ v ∈ bs, v.oneCell' = true) (hlim : bs.length + s.size ≤ 140737488355328) :
  Calls Tryz.prog 48 #[.pointer (some ⟨b, 0, none⟩), .string s] w fun e w' => e = .returned (.tuple #[.int .i64 s.size, .nilIface]) ∧ Lib.IsBuffer 135 5 B b (bs ++ Lib.byteCells s.data.toList) w' ∧ Below B w w' ∧ Lib.OthersKept 5 (some b) w w' := Any.Buffer_WriteString_k Tryz.laysM178 B b bs s w h hBw h1 hlim
def Tryz.laysM180_ren : Go.Shelf.Ren := ⟨fun | 180 => 52 | 251 => 68 | 252 => 69 | 181 => 82 | 184 => 83 | 290 => 84 | 324 => 87 | n => n, fun | 130 => 155 | 37 => 72 | 3 => 3 | 75 => 69 | 0 => 0 | 93 => 135 | 91 => 133 | 131 => 156 | 4 => 4 | 20 => 20 | 5 => 5 | 80 => 123 | 9 => 9 | n => n, fun | 14 => 7 | n => n⟩
theorem Tryz.laysM180 : Go.Proofs.LaysM.n180 Tryz.prog Tryz.laysM180_ren := {
 mixed := by kernel_rfl
 f180 := Tryz.func52.trans (congrArg some (by kernel_rfl))
 f181 := Tryz.func82.trans (congrArg some (by kernel_rfl))
 f184 := Tryz.func83.trans (congrArg some (by kernel_rfl))
 f251 := Tryz.func68.trans (congrArg some (by kernel_rfl))
 f252 := Tryz.func69.trans (congrArg some (by kernel_rfl))
 f290 := Tryz.func84.trans (congrArg some (by kernel_rfl))
 f324 := Tryz.func87.trans (congrArg some (by kernel_rfl))
 t0 := Tryz.underlying0
 a0 := Tryz.isAgg0
 z0 := Tryz.sizeOf0
 v0 := Tryz.zeroValue0
 t3 := Tryz.underlying3
 a3 := Tryz.isAgg3
 z3 := Tryz.sizeOf3
 v3 := Tryz.zeroValue3
 t4 := Tryz.underlying4
 a4 := Tryz.isAgg4
 z4 := Tryz.sizeOf4
 v4 := Tryz.zeroValue4
 t20 := Tryz.underlying20
 a20 := Tryz.isAgg20
 z20 := Tryz.sizeOf20
 v20 := Tryz.zeroValue20
 t37 := Tryz.underlying72
 a37 := Tryz.isAgg72
 z37 := Tryz.sizeOf72
 v37 := Tryz.zeroValue72
 t75 := Tryz.underlying69
 a75 := Tryz.isAgg69
 z75 := Tryz.sizeOf69
 v75 := Tryz.zeroValue69
 t91 := Tryz.underlying133
 a91 := Tryz.isAgg133
 z91 := Tryz.sizeOf133
 v91 := Tryz.zeroValue133
 t93 := Tryz.underlying135
 a93 := Tryz.isAgg135
 z93 := Tryz.sizeOf135
 v93 := Tryz.zeroValue135
 t130 := Tryz.underlying155
 a130 := Tryz.isAgg155
 z130 := Tryz.sizeOf155
 v130 := Tryz.zeroValue155
 t131 := Tryz.underlying156
 a131 := Tryz.isAgg156
 z131 := Tryz.sizeOf156
 v131 := Tryz.zeroValue156
 g14 := by kernel_rfl
 t5 := Tryz.underlying5
 a5 := Tryz.isAgg5
 z5 := Tryz.sizeOf5
 v5 := Tryz.zeroValue5
 t9 := Tryz.underlying9
 a9 := Tryz.isAgg9
 z9 := Tryz.sizeOf9
 v9 := Tryz.zeroValue9
 t80 := Tryz.underlying123
 a80 := Tryz.isAgg123
 z80 := Tryz.sizeOf123
 v80 := Tryz.zeroValue123
 i0 := by kernel_rfl
 i3 := by kernel_rfl
 i4 := by kernel_rfl
 i5 := by kernel_rfl
 i9 := by kernel_rfl
 i20 := by kernel_rfl
 i37 := by kernel_rfl
 i75 := by kernel_rfl
 i80 := by kernel_rfl
 i91 := by kernel_rfl
 i93 := by kernel_rfl
 i130 := by kernel_rfl
 i131 := by kernel_rfl
 m14 := by kernel_rfl }
def Tryz.laysM183_ren : Go.Shelf.Ren := ⟨fun | 183 => 49 | n => n, fun | 130 => 155 | 37 => 72 | 0 => 0 | 93 => 135 | 3 => 3 | 5 => 5 | 91 => 133 | n => n, fun | n => n⟩
theorem Tryz.laysM183 : Go.Proofs.LaysM.n183 Tryz.prog Tryz.laysM183_ren := {
 mixed := by kernel_rfl
 f183 := Tryz.func49.trans (congrArg some (by kernel_rfl))
 t0 := Tryz.underlying0
 a0 := Tryz.isAgg0
 z0 := Tryz.sizeOf0
 v0 := Tryz.zeroValue0
 t3 := Tryz.underlying3
 a3 := Tryz.isAgg3
 z3 := Tryz.sizeOf3
 v3 := Tryz.zeroValue3
 t37 := Tryz.underlying72
 a37 := Tryz.isAgg72
 z37 := Tryz.sizeOf72
 v37 := Tryz.zeroValue72
 t93 := Tryz.underlying135
 a93 := Tryz.isAgg135
 z93 := Tryz.sizeOf135
 v93 := Tryz.zeroValue135
 t130 := Tryz.underlying155
 a130 := Tryz.isAgg155
 z130 := Tryz.sizeOf155
 v130 := Tryz.zeroValue155
 t5 := Tryz.underlying5
 a5 := Tryz.isAgg5
 z5 := Tryz.sizeOf5
 v5 := Tryz.zeroValue5
 t91 := Tryz.underlying133
 a91 := Tryz.isAgg133
 z91 := Tryz.sizeOf133
 v91 := Tryz.zeroValue133
 i0 := by kernel_rfl
 i3 := by kernel_rfl
 i5 := by kernel_rfl
 i37 := by kernel_rfl
 i91 := by kernel_rfl
 i93 := by kernel_rfl
 i130 := by kernel_rfl }
open Go.RowKit in
theorem Tryz.Buffer_Bytes (B b : Nat) (bs : List Value) (w : World) (h : Lib.IsBuffer 135 5 B b bs w) :
  Calls Tryz.prog 49 #[.pointer (some ⟨b, 0, none⟩)] w fun e w' => ∃ v, e = .returned v ∧ w'.ownsRow B 5 1 v bs.length bs ∧ ∃ n, w' = w.drewN n := Any.Buffer_Bytes Tryz.laysM183 B b bs w h
end Go.Proofs
namespace Go.Proofs.YtkbegfihdpiacaaGreatDoor.PX
open Go.RowKit Nt Go.Lib Go.Maps Go.Proofs.YtkbegfihdpiacaaGreatDoorW.PrintWords Go.Proofs.YtkbegfihdpiacaaGreatDoorW.PrintLast
structure SgW (x : S122) : Prop where
 name : nameD x.f0.data.toList = true
 sn : x.f0.size ≤ 1000000
 sb : x.f2.size ≤ 1000000
 wf : (Lit.int .u32 x.f1).wf = true
 std : ∃ raw, Nt.std x.f2.data.toList = some raw ∧ 4 ≤ raw.length ∧ x.f1 = ((hashL raw : Nat) : Int)
 nl : ∀ b ∈ x.f2.data.toList, b ≠ 10 ∧ b ≠ 13
abbrev Buf (w0 : World) (b : Nat) (o : List UInt8) (w : World) : Prop := Lib.IsBuffer 135 5 w0.heap.size b (Lib.byteCells o) w
abbrev Wrote (w0 : World) (b : Nat) (o : List UInt8) (s : ByteArray) (KP : World → Prop) (w : World) (e : Ending) (w' : World) : Prop :=
 e = .returned (.tuple #[.int .i64 s.size, .nilIface]) ∧ Buf w0 b (o ++ s.data.toList) w' ∧ Below w0.heap.size w w' ∧ Lib.OthersKept 5 (some b) w w' ∧ KP w'
structure EH (w0 : World) (b6 : Nat) (gH : Value → Option Value) (KP : World → Prop) : Prop where
 hU : Utf8Tabs 3 4 w0
 hW : WhiteTab 6 w0
 kpB : ∀ w w', KP w → Below w.heap.size w w' → KP w'
 ws : ∀ (o : List UInt8) (s : ByteArray) (w : World), Buf w0 b6 o w → KP w → w0.heap.size ≤ w.heap.size → o.length + s.size ≤ 140737488355328 → Calls Tryz.prog 48 #[.pointer (some ⟨b6, 0, none⟩), .string s] w (Wrote w0 b6 o s KP w)
 hv : ∀ k v, gH k = some v → v = .bool true
structure ES (w0 w : World) (b6 b8 b93 : Nat) (c93 : Array Value) (gH : Value → Option Value) (KP : World → Prop) (o : List UInt8) : Prop where
 below : Below w0.heap.size w0 w
 buf : Buf w0 b6 o w
 map : MapR Tryz.prog 126 w b8 gH
 lit : w.heap[b93]? = some (.cells c93 91 (0, 0))
 kp : KP w
 ne : b8 ≠ b6
section
variable {w0 w w' : World} {b6 b8 b93 : Nat} {c93 : Array Value} {gH : Value → Option Value} {KP : World → Prop} {o : List UInt8}
theorem ES.step (h : ES w0 w b6 b8 b93 c93 gH KP o) (H : EH w0 b6 gH KP) (hb : Below w.heap.size w w') : ES w0 w' b6 b8 b93 c93 gH KP o :=
 {h with below := h.below.trans (hb.mono h.below.size), buf := Lib.IsBuffer.old h.buf hb, map := h.map.below hb, lit := (hb.block _ (blk_lt h.lit)).trans h.lit, kp := H.kpB _ _ h.kp hb }
theorem kept_cells {k : Nat} {cells : Array Value} {t : TypeId} {fz : Nat × Nat} {b : Nat} (hk : Lib.OthersKept 5 (some b) w w') (h : w.heap[k]? = some (.cells cells t fz)) (ht : t ≠ 5) (hb : k ≠ b) : w'.heap[k]? = some (.cells cells t fz) :=
 hk k _ h (fun e => hb (Option.some.inj e)) (fun c f e => ht (by injection e))
theorem ne_buf {k b : Nat} {cells : Array Value} {t : TypeId} {fz : Nat × Nat} {o : List UInt8} (h : w.heap[k]? = some (.cells cells t fz)) (hB : Buf w0 b o w) (ht : t ≠ 135) : k ≠ b := by
 rintro rfl
 obtain ⟨_, v, lr, hb, _⟩ := hB
 rw [h] at hb
 injection hb with hb
 injection hb with _ e
 exact ht e
theorem ES.wrote (h : ES w0 w b6 b8 b93 c93 gH KP o) {s : ByteArray} {e : Ending} (hw : Wrote w0 b6 o s KP w e w') : ES w0 w' b6 b8 b93 c93 gH KP (o ++ s.data.toList) :=
 {h with
  below := h.below.trans hw.2.2.1
  buf := hw.2.1
  map := by
   obtain ⟨es, clock, hb, _⟩ := id h.map
   exact h.map.keep ((hw.2.2.2.1 b8 _ hb (fun e => h.ne (Option.some.inj e)) (fun c f e => by cases e)).trans hb.symm)
  lit := kept_cells hw.2.2.2.1 h.lit (by decide) (ne_buf h.lit h.buf (by decide))
  kp := hw.2.2.2.2 }
end
theorem dstrY (w : World) (ge : Nat) (s : ByteArray) (raw : List UInt8) (hs : s.size ≤ 2147483647) (he : EncR w ge) (hnl : ∀ b ∈ s.data.toList, b ≠ 10 ∧ b ≠ 13) (hstd : Nt.std s.data.toList = some raw) :
  Calls Tryz.prog 43 #[.pointer (some ⟨ge, 0, none⟩), .string s] w fun e w' => ∃ g c, e = .returned (.tuple #[.slice (some ⟨g, 0, none⟩) raw.length c, .nilIface]) ∧ raw.length ≤ c ∧ RB w' (some ⟨g, 0, none⟩) raw ∧ Below w.heap.size w w' := by
 refine (dstring w ge s hs he hnl).mono ?_
 rintro e w' ⟨hb, ⟨g, c, bs, hstd', rfl, hc, hr⟩ | ⟨hstd', _⟩⟩
 ·obtain rfl := Option.some.inj (hstd.symm.trans hstd')
  exact ⟨g, c, rfl, hc, hr, hb⟩
 ·rw [hstd] at hstd'; cases hstd'
def emit (gH : Value → Option Value) (xs : List S122) : List UInt8 := flat ((xs.filter fun x => (gH (keyV x.f0 x.f1)).isNone).map lineS)
theorem flat_snoc (xs : List (List UInt8)) (x : List UInt8) : flat (xs ++ [x]) = flat xs ++ (x ++ [10]) := by unfold flat; simp
theorem emit_no (gH : Value → Option Value) (xs : List S122) (x : S122) (h : gH (keyV x.f0 x.f1) ≠ none) : emit gH (xs ++ [x]) = emit gH xs := by
 unfold emit
 rw [List.filter_append]
 simp [Option.isNone_iff_eq_none, h]
theorem emit_yes (gH : Value → Option Value) (xs : List S122) (x : S122) (h : gH (keyV x.f0 x.f1) = none) : emit gH (xs ++ [x]) = emit gH xs ++ dashL ++ x.f0.data.toList ++ [32] ++ x.f2.data.toList ++ [10] := by
 unfold emit
 rw [List.filter_append, List.filter_cons_of_pos (by simp [h]), List.filter_nil, List.map_append, List.map_singleton, flat_snoc]
 unfold lineS sgLine
 simp
theorem emit_len (gH : Value → Option Value) : ∀ (xs : List S122), (∀ x ∈ xs, SgW x) → (emit gH xs).length ≤ xs.length * 2000010
 | [], _ => by simp [emit, flat]
 | x :: xs, h => by
  have ih := emit_len gH xs fun y hy => h y (List.mem_cons_of_mem _ hy)
  have hx := h x (List.mem_cons_self ..)
  have h1 : x.f0.data.toList.length = x.f0.size := rfl
  have h2 : x.f2.data.toList.length = x.f2.size := rfl
  have s1 := hx.sn
  have s2 := hx.sb
  unfold emit at ih ⊢
  by_cases hk : (gH (keyV x.f0 x.f1)).isNone = true
  ·rw [List.filter_cons_of_pos (p := fun x : S122 => (gH (keyV x.f0 x.f1)).isNone) hk, List.map_cons, flat_cons, List.length_append, List.length_cons, List.length_cons]
   have : (lineS x).length = 5 + x.f0.size + x.f2.size := by unfold lineS sgLine dashL; simp [h1, h2]; omega
   omega
  ·rw [List.filter_cons_of_neg (p := fun x : S122 => (gH (keyV x.f0 x.f1)).isNone) hk, List.length_cons]
   exact Nat.le_trans ih (Nat.mul_le_mul_right _ (Nat.le_succ _))
theorem rd118 (l : List S122) (i : Nat) (h : i < l.length) : rd_T122 l (i : Int) = l[i] := by
 unfold rd_T122; simp [List.getElem?_eq_getElem h]
set_option maxRecDepth 100000 in
def litE (g : Nat → Value) : Array Value := #[g 0, g 1, g 2, g 3, g 4, g 5, g 6, g 7, g 8, g 9, g 10, g 11, g 12, g 13, g 14, g 15, g 16, g 17, g 18, g 19, g 20, g 21, g 22, g 23, g 24, g 25, g 26, g 27, g 28, g 29, g 30, g 31, g 32, g 33, g 34, g 35, g 36, g 37, g 38, g 39, g 40, g 41, g 42, g 43, g 44, g 45, g 46, g 47, g 48, g 49, g 50, g 51, g 52, g 53, g 54, g 55, g 56, g 57, g 58, g 59, g 60, g 61, g 62, g 63, g 64, g 65, g 66, g 67, g 68, g 69, g 70, g 71, g 72, g 73, g 74, g 75, g 76, g 77, g 78, g 79, g 80, g 81, g 82, g 83, g 84, g 85, g 86, g 87, g 88, g 89, g 90, g 91, g 92, g 93, g 94, g 95, g 96, g 97, g 98, g 99, g 100, g 101, g 102, g 103, g 104, g 105, g 106, g 107, g 108, g 109, g 110, g 111, g 112, g 113, g 114, g 115, g 116, g 117, g 118, g 119, g 120, g 121, g 122, g 123, g 124, g 125, g 126, g 127, g 128, g 129, g 130, g 131, g 132, g 133, g 134, g 135, g 136, g 137, g 138, g 139, g 140, g 141, g 142, g 143, g 144, g 145, g 146, g 147, g 148, g 149, g 150, g 151, g 152]
set_option maxRecDepth 100000 in
theorem range153 (g : Nat → Value) : (List.range 153).map g = (litE g).toList := by rfl
noncomputable def nBlk (n : Nat) : Code := (Tryz.f28.body.bind (blkNo n)).getD .skip
abbrev FrSo (b6 b7 b8 b93 : Nat) (i : Int) : List (Nat × Value) :=
 [(6, .pointer (some ⟨b6, 0, none⟩)), (7, .pointer (some ⟨b7, 0, none⟩)), (8, .map (some b8)), (93, .slice (some ⟨b93, 0, none⟩) 2 2), (94, .int .i64 2), (95, .int .i64 i)]
abbrev FrSg (b6 b7 b8 b93 : Nat) (i : Int) (A : Option Addr) (n c : Nat) (j : Int) : List (Nat × Value) :=
 (99, .slice A n c) :: (100, .int .i64 (n : Int)) :: (101, .int .i64 j) :: FrSo b6 b7 b8 b93 i
def EI (w0 : World) (b6 b7 b8 b93 : Nat) (c93 : Array Value) (gH : Value → Option Value) (KP : World → Prop) (i : Int) (A : Option Addr) (c : Nat) (xs : List S122) (pre : List UInt8) (a : Act) (w : World) : Prop :=
 ∃ j : Nat, j ≤ xs.length ∧ FrN 153 (FrSg b6 b7 b8 b93 i A xs.length c (j : Int)) a ∧ ES w0 w b6 b8 b93 c93 gH KP (pre ++ emit gH (xs.take j))
def Emus (L : Nat) (a : Act) (_ : World) : Nat := L - (intOf (a.tmps.getD 101 undef)).toNat
set_option maxRecDepth 100000 in
set_option maxHeartbeats 4000000 in
theorem eloop (w0 W0 : World) (b6 b7 b8 b93 : Nat) (c93 : Array Value) (gH : Value → Option Value) (KP : World → Prop) (H : EH w0 b6 gH KP) (i : Int) (A : Option Addr) (c : Nat) (xs : List S122) (hxs : ∀ x ∈ xs, SgW x) (hn : xs.length ≤ 1000) (pre : List UInt8) (hpre : pre.length ≤ 10000000000)
  (hC : Kd.C k122 w0 A xs.length xs) (a : Act) (hI : EI w0 b6 b7 b8 b93 c93 gH KP i A c xs pre a W0) (Q : Exit → Act → World → Prop)
  (hE : ∀ a' w', FrN 153 (FrSo b6 b7 b8 b93 i) a' → ES w0 w' b6 b8 b93 c93 gH KP (pre ++ emit gH xs) → Q .normal a' w') : (nBlk 4).wp Tryz.prog Q a W0 := by
 conv => arg 2; whnf
 have HH := Lib.hid H
 have HE := Lib.hid hE
 have HX := Lib.hid hxs
 have HC := Lib.hid hC
 clear H hE hxs hC
 refine wp_block ?_
 refine wp_loop (EI w0 b6 b7 b8 b93 c93 gH KP i A c xs pre) (Emus xs.length) hI ?_
 clear hI
 rintro a wr ⟨j, hj, hF, hS⟩
 have HS := Lib.hid hS
 clear hS
 obtain ⟨g, rfl, hg⟩ := hF.lit range153
 clear hF
 simp only [List.forall_mem_cons] at hg
 obtain ⟨k99, k100, k101, k6, k7, k8, k93, k94, k95, -⟩ := hg
 unfold litE
 simp only [k99, k100, k101, k6, k7, k8, k93, k94, k95]
 clear k99 k100 k101 k6 k7 k8 k93 k94 k95
 by_cases hlt : j < xs.length
 ·have h1 : decide ((j : Int) < (xs.length : Int)) = true := decide_eq_true (by omega)
  have h2 : decide (j < xs.length) = true := decide_eq_true hlt
  have hjj : (j : Int) < (xs.length : Int) := by omega
  obtain ⟨ad, rfl, x0, x1, x2⟩ := at_T122 HC.out (j : Int) (by omega) hjj
  rw [rd118 xs j hlt, Int.toNat_natCast] at x0 x1 x2
  replace x0 := pw_cell_below HS.out.below x0
  replace x1 := pw_cell_below HS.out.below x1
  replace x2 := pw_cell_below HS.out.below x2
  have HXJ := Lib.hid (HX.out xs[j] (List.getElem_mem hlt))
  have HTK := Lib.hid (show xs.take (j + 1) = xs.take j ++ [xs[j]] from List.take_succ_eq_append_getElem hlt)
  have hel : (emit gH (xs.take j)).length ≤ 1000 * 2000010 := Nat.le_trans (emit_len gH _ fun y hy => HX.out y (List.mem_of_mem_take hy)) (Nat.mul_le_mul_right _ (by rw [List.length_take]; omega))
  have HEL := Lib.hid hel
  clear hel
  generalize xs[j] = x at *
  go_upto_region 34 with fail
  have hs := (Below.refl wr.heap.size wr).alloc (Nat.le_refl _) (.cells #[.string x.f0, .int .u32 x.f1, .string x.f2] 122)
  have hb := heap_alloc_new wr (.cells #[.string x.f0, .int .u32 x.f1, .string x.f2] 122)
  generalize wr.alloc (.cells #[.string x.f0, .int .u32 x.f1, .string x.f2] 122) = W1 at *
  have HS1 := Lib.hid (HS.out.step HH.out hs)
  clear hs
  generalize wr.heap.size = g20 at *
  have HB1 := Lib.hid hb
  clear x0 x1 x2 HS hb
  obtain ⟨c0, c1, c2, -, -, -⟩ := three HB1.out
  go_quiet (fail)
  have HS2 := Lib.hid (HS1.out.step HH.out (pw_below_drewN (Below.refl _ _) nq))
  have HB2 : Hid ((W1.drewN nq).heap[g20]? = some (.cells #[.string x.f0, .int .u32 x.f1, .string x.f2] 122 (0, 0))) := Lib.hid HB1.out
  generalize W1.drewN nq = W2 at *
  clear HS1 HB1 c0 c1 c2
  have cV := valid_any x.f0 W2 (Nat.le_trans HXJ.out.sn (by omega)) (Utf8Tabs.below' HH.out.hU HS2.out.below) (WhiteTab.below' HH.out.hW HS2.out.below)
  rw [HXJ.out.name] at cV
  have HV := Lib.hid cV
  clear cV
  go_wp2_with (go_at_call 44; refine HV.out.mono ?_; rintro e w3 ⟨rfl, hb3⟩; have HS3 := Lib.hid (HS2.out.step HH.out hb3); have HB3 := Lib.hid ((hb3.block _ (blk_lt HB2.out)).trans HB2.out); clear hb3)
  have S0 : x.f0.data.toList.length = x.f0.size := rfl
  have S2 : x.f2.data.toList.length = x.f2.size := rfl
  have hkS := keyOfK x.f0 x.f1 (by simp only [maxLen]; have := HXJ.out.sn; omega) HXJ.out.wf
  have hlook := HS3.out.map.look lawK Tryz.underlying106 (zeroB _) hkS.choose_spec false
  cases hk : gH (keyV x.f0 x.f1) with
  | some v =>
   obtain rfl := HH.out.hv _ _ hk
   rw [hk] at hlook
   simp only [Option.getD_some, Bool.false_eq_true, if_false] at hlook
   unfold keyV at hlook
   have HK := Lib.hid hk
   clear hk
   rw [hlook]
   clear hlook hkS
   simp only [Result.andThen_ok, Oper.upon]
   go_wp2_with fail
   exact ⟨⟨j + 1, by omega, ⟨rfl, rfl, by repeat (first | exact ks_nil _ | refine ks_cons (by first | rfl | exact congrArg (Value.int .i64) (Int.natCast_add j 1).symm) ?_)⟩, by rw [HTK.out, emit_no gH _ x (by rw [HK.out]; simp)]; exact HS3.out⟩, by show xs.length - ((j : Int) + 1).toNat < xs.length - (j : Int).toNat; omega⟩
  | none =>
   rw [hk] at hlook
   simp only [Option.getD_none, Bool.false_eq_true, if_false] at hlook
   unfold keyV at hlook
   have HK := Lib.hid hk
   clear hk
   rw [hlook]
   clear hlook hkS
   simp only [Result.andThen_ok, Oper.upon]
   obtain ⟨raw, hstd, h4, hhash⟩ := HXJ.out.std
   obtain ⟨o0, ho0⟩ : ∃ o, o = pre ++ emit gH (xs.take j) := ⟨_, rfl⟩
   rw [← ho0] at HS3
   have HO0 := Lib.hid (show o0.length = pre.length + (emit gH (xs.take j)).length by rw [ho0, List.length_append])
   have HOE := Lib.hid (show pre ++ emit gH (xs.take (j + 1)) = o0 ++ [226, 128, 148, 32] ++ x.f0.data.toList ++ [32] ++ x.f2.data.toList ++ [10] by
    rw [HTK.out, emit_yes gH _ x HK.out, ho0]; simp [dashL])
   have HSTD := Lib.hid hstd
   have q4 : decide ((raw.length : Int) < 4) = false := decide_eq_false (by omega)
   have q4' : decide (raw.length < 4) = false := decide_eq_false (by omega)
   have hbe := be_eq raw h4
   have HBE := Lib.hid hbe
   rw [hhash] at *
   have q5 : (((hashL raw : Nat) : Int) != ((hashL raw : Nat) : Int)) = false := by simp
   clear hstd hbe ho0
   go_upto_region 38 with fail
   obtain ⟨d0, d1, d2, -, -, -⟩ := three HB3.out
   go_region_held3 (fun W => Below w3.heap.size w3 W ∧ W.cell? ⟨g20, 2, none⟩ = some (.string x.f2))
    (first | exact ⟨below_drew1 (Below.refl _ _), d2⟩ | exact ⟨hq1, pw_cell_below hq1 d2⟩ | exact ⟨hq2, pw_cell_below hq2 d2⟩ | fail)
    (first
     | (go_at_call 42; with_reducible refine (stdenc _).mono ?_; rintro e w4 ⟨ge, rfl, hO⟩; have hq1 := (below_drew1 (Below.refl w3.heap.size w3)).trans (hO.below.mono (below_drew1 (Below.refl w3.heap.size w3)).size); have hEn := EncR.of hO)
     | (go_at_call 43; with_reducible refine (dstrY _ ge x.f2 raw (Nat.le_trans HXJ.out.sb (by omega)) hEn HXJ.out.nl HSTD.out).mono ?_; rintro e w5 ⟨gr, cr, rfl, hcr, hrr, hb5⟩; have hq2 := hq1.trans (hb5.mono hq1.size)))
   have HS5 := Lib.hid (HS3.out.step HH.out hq2)
   have HB5 := Lib.hid ((hq2.block _ (blk_lt HB3.out)).trans HB3.out)
   have hbc := sumdbnote_beUint32.calls (some ⟨gr, 0, none⟩) cr (ints raw) _ w5 hrr.C (by rw [ints_length]; exact hcr) HBE.out
   rw [ints_length] at hbc
   have HBC := Lib.hid hbc
   clear hbc hq1 hq2 hb5 hEn hO hrr d0 d1 d2 HS3 HB3
   have HL := Lib.hid (show ∀ (o : List UInt8) (n : Nat), o.length ≤ o0.length + 3000000 → n ≤ 1000000 → o.length + n ≤ 140737488355328 from fun o n h1 h2 => by rw [HO0.out] at h1; have := HEL.out; omega)
   clear hpre h1 h2
   go_upto_region 41 with (go_at_call 45; refine HBC.out.mono ?_; rintro e w6 ⟨rfl, ⟨m6, rfl⟩⟩; have HS6 := Lib.hid (HS5.out.step HH.out (pw_below_drewN (Below.refl _ _) m6)); have HB6 := Lib.hid (show (w5.drewN m6).heap[g20]? = _ from HB5.out))
   obtain ⟨d0, d1, d2, -, -, -⟩ := three HB6.out
   go_upto_region 42 with (go_at_call 48; refine (HH.out.ws _ ⟨#[226, 128, 148, 32]⟩ _ HS6.out.buf HS6.out.kp HS6.out.below.size (HL.out _ _ (by first | (simp [S0, S2]; done) | (simp [S0, S2]; have := HXJ.out.sn; have := HXJ.out.sb; omega)) (by decide))).mono ?_; rintro e w7 hw7; have HS7 := Lib.hid (HS6.out.wrote hw7); have HB7 := Lib.hid (kept_cells hw7.2.2.2.1 HB6.out (by decide) (ne_buf HB6.out HS6.out.buf (by decide))); obtain ⟨rfl, -⟩ := hw7)
   clear d0 d1 d2
   obtain ⟨d0, d1, d2, -, -, -⟩ := three HB7.out
   go_upto_region 43 with (go_at_call 48; refine (HH.out.ws _ x.f0 _ HS7.out.buf HS7.out.kp HS7.out.below.size (HL.out _ _ (by first | (simp [S0, S2]; done) | (simp [S0, S2]; have := HXJ.out.sn; have := HXJ.out.sb; omega)) HXJ.out.sn)).mono ?_; rintro e w8 hw8; have HS8 := Lib.hid (HS7.out.wrote hw8); have HB8 := Lib.hid (kept_cells hw8.2.2.2.1 HB7.out (by decide) (ne_buf HB7.out HS7.out.buf (by decide))); obtain ⟨rfl, -⟩ := hw8)
   clear d0 d1 d2
   obtain ⟨d0, d1, d2, -, -, -⟩ := three HB8.out
   go_upto_region 44 with (go_at_call 48; refine (HH.out.ws _ ⟨#[32]⟩ _ HS8.out.buf HS8.out.kp HS8.out.below.size (HL.out _ _ (by first | (simp [S0, S2]; done) | (simp [S0, S2]; have := HXJ.out.sn; have := HXJ.out.sb; omega)) (by decide))).mono ?_; rintro e w9 hw9; have HS9 := Lib.hid (HS8.out.wrote hw9); have HB9 := Lib.hid (kept_cells hw9.2.2.2.1 HB8.out (by decide) (ne_buf HB8.out HS8.out.buf (by decide))); obtain ⟨rfl, -⟩ := hw9)
   clear d0 d1 d2
   obtain ⟨d0, d1, d2, -, -, -⟩ := three HB9.out
   go_upto_region 45 with (go_at_call 48; refine (HH.out.ws _ x.f2 _ HS9.out.buf HS9.out.kp HS9.out.below.size (HL.out _ _ (by first | (simp [S0, S2]; done) | (simp [S0, S2]; have := HXJ.out.sn; have := HXJ.out.sb; omega)) HXJ.out.sb)).mono ?_; rintro e w10 hw10; have HS10 := Lib.hid (HS9.out.wrote hw10); have HB10 := Lib.hid (kept_cells hw10.2.2.2.1 HB9.out (by decide) (ne_buf HB9.out HS9.out.buf (by decide))); obtain ⟨rfl, -⟩ := hw10)
   clear d0 d1 d2
   obtain ⟨d0, d1, d2, -, -, -⟩ := three HB10.out
   go_wp2_with (go_at_call 48; refine (HH.out.ws _ ⟨#[10]⟩ _ HS10.out.buf HS10.out.kp HS10.out.below.size (HL.out _ _ (by first | (simp [S0, S2]; done) | (simp [S0, S2]; have := HXJ.out.sn; have := HXJ.out.sb; omega)) (by decide))).mono ?_; rintro e w11 hw11; have HS11 := Lib.hid (HS10.out.wrote hw11); have HB11 := Lib.hid (kept_cells hw11.2.2.2.1 HB10.out (by decide) (ne_buf HB10.out HS10.out.buf (by decide))); obtain ⟨rfl, -⟩ := hw11)
   exact ⟨⟨j + 1, hlt, ⟨rfl, rfl, by repeat (first | exact ks_nil _ | refine ks_cons (by first | rfl | exact congrArg (Value.int .i64) (Int.natCast_add j 1).symm) ?_)⟩, by rw [HOE.out]; exact HS11.out⟩, by show xs.length - ((j : Int) + 1).toNat < xs.length - (j : Int).toNat; omega⟩
 ·have h1 : decide ((j : Int) < (xs.length : Int)) = false := decide_eq_false (by omega)
  have h2 : decide (j < xs.length) = false := decide_eq_false hlt
  have hs := HS.out
  rw [List.take_of_length_le (by omega)] at hs
  have HS' := Lib.hid hs
  clear hs HS
  go_wp2_with fail
  exact HE.out _ _ ⟨rfl, rfl, by repeat (first | exact ks_nil _ | refine ks_cons rfl ?_)⟩ HS'.out
theorem wsk (w0 : World) (b : Nat) (o : List UInt8) (s : ByteArray) (w : World) (h : Buf w0 b o w) (hB : w0.heap.size ≤ w.heap.size) (hl : o.length + s.size ≤ 140737488355328) :
  Calls Tryz.prog 48 #[.pointer (some ⟨b, 0, none⟩), .string s] w (Wrote w0 b o s (fun _ => True) w) := by
 refine (Tryz.Buffer_WriteString_k w0.heap.size b (Lib.byteCells o) s w h hB (Lib.byteCells_one o) (by rw [Lib.byteCells_length]; exact hl)).mono ?_
 rintro e w' ⟨rfl, h1, h2, h3⟩
 exact ⟨rfl, by rw [← Lib.byteCells_append] at h1; exact h1, h2, h3, trivial⟩
abbrev KP7 (b7 : Nat) (w : World) : Prop := w.heap[b7]? = some (.cells #[.slice none 0 0, .int .i64 0, .int .i8 0] 135 (0, 0))
theorem eh0 (w0 : World) (b6 b7 : Nat) (hne : b7 ≠ b6) (hU : Utf8Tabs 3 4 w0) (hW : WhiteTab 6 w0) : EH w0 b6 (fun _ => none) (KP7 b7) where
 hU := hU
 hW := hW
 kpB := fun w w' h hb => (hb.block _ (blk_lt h)).trans h
 ws := fun o s w h hk hB hl => (wsk w0 b6 o s w h hB hl).mono fun e w' hw => ⟨hw.1, hw.2.1, hw.2.2.1, hw.2.2.2.1, kept_cells hw.2.2.2.1 hk (by decide) hne⟩
 hv := fun k v h => by cases h
theorem flat_app (a b : List (List UInt8)) : flat (a ++ b) = flat a ++ flat b := by unfold flat; simp
def Omus (a : Act) (_ : World) : Nat := 2 - (intOf (a.tmps.getD 95 undef)).toNat
theorem two93 {w : World} {g t : Nat} {x0 x1 : Value} (h : w.heap[g]? = some (.cells #[x0, x1] t (0, 0))) : w.cell? ⟨g, 0, none⟩ = some x0 ∧ w.cell? ⟨g, 1, none⟩ = some x1 := ⟨(blk_cell h 0).trans rfl, (blk_cell h 1).trans rfl⟩
theorem hold2 {w : World} {a b : Addr} {x y : Value} {o : Obj} (h1 : w.cell? a = some x) (h2 : w.cell? b = some y) : Below w.heap.size w (w.drew.alloc o) ∧ (w.drew.alloc o).cell? a = some x ∧ (w.drew.alloc o).cell? b = some y :=
 have hb : Below w.heap.size w (w.drew.alloc o) := (below_drew1 (Below.refl _ _)).alloc (Nat.le_refl _) _
 ⟨hb, pw_cell_below hb h1, pw_cell_below hb h2⟩
def n118 (x : S82) : S122 := ⟨x.f0, x.f1, x.f2⟩
theorem rd75' (l : List S82) (i : Nat) (h : i < l.length) : rd_T82 l (i : Int) = l[i] := by
 unfold rd_T82; simp [List.getElem?_eq_getElem h]
theorem out_l0 (x : List S82) (hx : x.length ≤ 1000000) : ∀ (k i : Nat) (acc : List S122), acc.length ≤ i → i ≤ x.length → x.length - i < k → impl_out.l0 k acc x (x.length : Int) (i : Int) = some (acc ++ (x.drop i).map n118)
 | 0, i, acc, _, _, h => by omega
 | k + 1, i, acc, ha, hi, h => by
  unfold impl_out.l0
  by_cases hlt : i < x.length
  ·rw [if_pos (by omega), if_pos (by omega), if_pos (by omega), if_pos (by omega), w1 i (by omega), out_l0 x hx k (i + 1) _ (by rw [List.length_append]; simp only [List.length_cons, List.length_nil]; omega) (by omega) (by omega), List.drop_eq_getElem_cons hlt, List.map_cons, List.append_assoc, rd75' x i hlt]
   rfl
  ·rw [if_neg (by omega), List.drop_eq_nil_of_le (by omega)]
   simp
theorem outC (x : List S82) (hx : x.length ≤ 1000000) (A : Option Addr) (c : Nat) (W : World) (h : x.length ≤ c ∧ Kd.C k82 W A x.length x) :
  Calls Tryz.prog 29 #[.slice A x.length c] W fun e w' => ∃ B d, e = .returned (.slice B x.length d) ∧ x.length ≤ d ∧ Kd.C k122 w' B x.length (x.map n118) ∧ Below W.heap.size W w' := by
 refine (impl_out.calls (x.length + 1) A c x (x.map n118) W h.2 h.1 ?_).mono ?_
 ·have h := out_l0 x hx (x.length + 1) 0 [] (Nat.le_refl _) (by omega) (by omega)
  unfold impl_out.f
  simpa using h
 ·rintro e w' ⟨v, rfl, hr, hb⟩
  obtain ⟨B, d, rfl⟩ := Kd.R_slice hr
  have := (Kd.R_reads' hr).2
  rw [List.length_map] at this ⊢
  exact ⟨B, d, rfl, this.1, this.2, hb⟩
theorem rb_own {w : World} {B : Nat} {v : Value} {l : List UInt8} (h : w.ownsRow B 5 1 v l.length (Lib.byteCells l)) (hl : l ≠ []) : ∃ A c, v = .slice A l.length c ∧ RB w A l := by
 have hr : Kd.R (Kd.int .u8) 5 w B (fun _ => True) v (ints l) := by
  refine ⟨fun _ _ => trivial, Lib.byteCells l, by rw [ints_length]; exact h, by rw [Lib.byteCells_length, ints_length]; exact (Nat.mul_one _).symm, fun j p hj => ?_⟩
  rw [ints, List.getElem?_map] at hj
  obtain ⟨b, hb, rfl⟩ := Option.map_eq_some_iff.1 hj
  obtain ⟨hlt, he⟩ := List.getElem?_eq_some_iff.1 hb
  show (List.drop (j * 1) (Lib.byteCells l)).take 1 = [Value.int .u8 (b.toNat : Int)]
  rw [Nat.mul_one, List.drop_eq_getElem_cons (by rw [Lib.byteCells_length]; exact hlt)]
  simp [Lib.byteCells, he]
 obtain ⟨A, c, rfl⟩ := Kd.R_slice hr
 have hc := (Kd.R_reads' hr).2.2
 rw [ints_length] at hc ⊢
 refine ⟨A, c, rfl, ?_⟩
 have := Kd.reads_of_C (enc := Value.int .u8) (d := (0 : Int)) (h1 := fun _ => rfl) hc
 exact this
theorem bsI {w W : World} {g : Nat} {x0 x1 x2 : Value} (hb : Below w.heap.size w W) (h0 : w.cell? ⟨g, 0, none⟩ = some x0) (h1 : w.cell? ⟨g, 1, none⟩ = some x1) (h2 : w.cell? ⟨g, 2, none⟩ = some x2) :
  Below w.heap.size w W ∧ W.cell? ⟨g, 0, none⟩ = some x0 ∧ W.cell? ⟨g, 1, none⟩ = some x1 ∧ W.cell? ⟨g, 2, none⟩ = some x2 := ⟨hb, pw_cell_below hb h0, pw_cell_below hb h1, pw_cell_below hb h2⟩
theorem wr_last (t : List UInt8) (xs : List (List UInt8)) (h10 : t ≠ [] ∧ t[t.length - 1]? = some 10) (hx : ∀ x ∈ xs, 10 ∉ x ∧ x ≠ []) : lastN (wr t xs) (wr t xs).length = some (t.length - 1) ∧ (wr t xs).drop (t.length - 1 + 2) = flat xs := by
 have hp := List.length_pos_iff.2 h10.1
 obtain ⟨hnn, h0⟩ := flat_nn xs hx
 have hlen : (wr t xs).length = t.length + ((flat xs).length + 1) := by unfold wr; simp
 refine ⟨lastN_is _ _ ?_ ?_ _ (by omega), ?_⟩
 ·unfold nnAt wr
  rw [List.getElem?_append_left (by omega), h10.2, List.getElem?_append_right (by omega), show t.length - 1 + 1 - t.length = 0 by omega]
  rfl
 ·intro j hj
  unfold wr
  have hj' : t.length ≤ j := by omega
  unfold nnAt
  rw [List.getElem?_append_right hj', List.getElem?_append_right (by omega)]
  rcases Nat.eq_zero_or_pos (j - t.length) with e | e
  ·rw [Bool.and_eq_false_iff]; right
   rw [show j + 1 - t.length = 1 by omega]
   exact beq_eq_false_iff_ne.2 (by simpa using h0)
  ·have := hnn (j - t.length - 1)
   unfold nnAt at this
   rw [show j - t.length = (j - t.length - 1) + 1 by omega, show j + 1 - t.length = (j - t.length - 1 + 1) + 1 by omega, List.getElem?_cons_succ, List.getElem?_cons_succ]
   exact this
 ·unfold wr
  rw [List.drop_append, List.drop_eq_nil_of_le (by omega), show t.length - 1 + 2 - t.length = 1 by omega]; rfl
theorem flat_small : ∀ (xs : List S122), (∀ x ∈ xs, x.f0.size ≤ 60 ∧ x.f2.size ≤ 120) → (flat (xs.map lineS)).length ≤ xs.length * 200
 | [], _ => by simp [flat]
 | x :: xs, h => by
  have ih := flat_small xs fun y hy => h y (List.mem_cons_of_mem _ hy)
  have hx := h x (List.mem_cons_self ..)
  have h1 : x.f0.data.toList.length = x.f0.size := rfl
  have h2 : x.f2.data.toList.length = x.f2.size := rfl
  rw [List.map_cons, flat_cons, List.length_append, List.length_cons, List.length_cons]
  have : (lineS x).length = 5 + x.f0.size + x.f2.size := by unfold lineS sgLine dashL; simp [h1, h2]; omega
  omega
theorem SgW.told {x : S122} (hf : SgF x) (hp : plainD (lineS x) = true) (h10 : 10 ∉ lineS x) (h0 : x.f0.size ≤ 60) (h2 : x.f2.size ≤ 120) : SgW x := by
 obtain ⟨raw, hF⟩ := line_F (lineS x) hf.fine
 have e0 : S (lineD (lineS x)).1 = x.f0 := congrArg S122.f0 hf.back
 have e1 : ((lineD (lineS x)).2.1 : Int) = x.f1 := congrArg S122.f1 hf.back
 have e2 : S (lineD (lineS x)).2.2.1 = x.f2 := congrArg S122.f2 hf.back
 have hl := hF.len
 exact
 {name := by rw [← e0]; exact hF.name
  sn := by omega
  sb := by omega
  wf := by rw [← e1, hF.hash]; exact hash_wf raw
  std := ⟨raw, by rw [← e2]; exact hF.std, by omega, by rw [← e1, hF.hash]⟩
  nl := fun b hb => by
   have hm : b ∈ lineS x := by unfold lineS sgLine; simp [hb]
   refine ⟨fun e => h10 (e ▸ hm), fun e => ?_⟩
   unfold plainD at hp
   rw [Bool.and_eq_true] at hp
   have := List.all_eq_true.1 hp.1 b hm
   rw [e] at this
   exact absurd this (by decide) }
theorem map_n (l : List S122) : (l.map sig75).map n118 = l := by
 rw [List.map_map]; exact List.map_id _
end Go.Proofs.YtkbegfihdpiacaaGreatDoor.PX
