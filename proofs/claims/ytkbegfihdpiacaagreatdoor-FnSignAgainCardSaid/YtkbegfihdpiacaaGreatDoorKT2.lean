/- Part 2 of the proof: what the theorem reaches of the texts KR0. -/
import Derived.Lib.MapLaws
import Derived.Lib.ValidLaws
import Derived.Lib.SpaceR
import Derived.Laws.Cover4
import Derived.Laws.IdiomStrings
import Derived.Lib.TrimUEq
set_option linter.unusedVariables false
set_option linter.unusedSimpArgs false
namespace Nt
open Go Go.Lib
def runesN : Nat → List UInt8 → List Nat
 | 0, _ => []
 | n + 1, l => if l = [] then [] else (decodeL l).1 :: runesN n (l.drop (decodeL l).2)
def runesD (l : List UInt8) : List Nat := runesN l.length l
theorem runesN_nil (n : Nat) : runesN n [] = [] := by cases n <;> simp [runesN]
theorem runesN_cons (n : Nat) {l : List UInt8} (h : l ≠ []) : runesN (n + 1) l = (decodeL l).1 :: runesN n (l.drop (decodeL l).2) := by rw [runesN, if_neg h]
theorem runesN_more : ∀ (n m : Nat) (l : List UInt8), l.length ≤ n → l.length ≤ m → runesN n l = runesN m l
 | 0, m, l, hn, _ => by
  have : l = [] := List.length_eq_zero_iff.1 (by omega)
  subst this
  rw [runesN_nil, runesN_nil]
 | n + 1, m, l, hn, hm => by
  by_cases h : l = []
  ·subst h; rw [runesN_nil, runesN_nil]
  ·have hl := List.length_pos_iff.2 h
   obtain ⟨m, rfl⟩ : ∃ k, m = k + 1 := ⟨m - 1, by omega⟩
   have hw := decodeL_width l
   have hd : (l.drop (decodeL l).2).length ≤ l.length - 1 := by rw [List.length_drop]; omega
   rw [runesN_cons n h, runesN_cons m h, runesN_more n m _ (by omega) (by omega)]
theorem runesD_cons {l : List UInt8} (h : l ≠ []) : runesD l = (decodeL l).1 :: runesD (l.drop (decodeL l).2) := by
 have hl := List.length_pos_iff.2 h
 have hw := decodeL_width l
 unfold runesD
 obtain ⟨n, hn⟩ : ∃ k, l.length = k + 1 := ⟨l.length - 1, by omega⟩
 rw [hn, runesN_cons n h, runesN_more n (l.drop (decodeL l).2).length _ (by rw [List.length_drop]; omega) (Nat.le_refl _)]
theorem runesN_length : ∀ (n : Nat) (l : List UInt8), (runesN n l).length ≤ n
 | 0, _ => by simp [runesN]
 | n + 1, l => by
  unfold runesN
  split
  ·simp
  ·have := runesN_length n (l.drop (decodeL l).2); simp; omega
theorem runesD_length (l : List UInt8) : (runesD l).length ≤ l.length := runesN_length _ _
theorem runesN_le : ∀ (n : Nat) (l : List UInt8), ∀ r ∈ runesN n l, r ≤ 1114111
 | 0, _, r, h => by simp [runesN] at h
 | n + 1, l, r, h => by
  unfold runesN at h
  split at h
  ·simp at h
  ·rcases List.mem_cons.1 h with rfl | h
   ·exact decodeL_rune l
   ·exact runesN_le n _ r h
def encs (rs : List Nat) : List UInt8 := (rs.map fun (r : Nat) => encodeRune (r : Int)).flatten
theorem encs_cons (r : Nat) (rs : List Nat) : encs (r :: rs) = encodeRune (r : Int) ++ encs rs := by simp [encs]
theorem bad_length : (encodeRune ((65533 : Nat) : Int)).length = 3 := by decide
theorem encs_runes : ∀ (n : Nat) (l : List UInt8), l.length = n → (validD l = true ∧ encs (runesD l) = l) ∨ (validD l = false ∧ l.length < (encs (runesD l)).length) := by
 intro n
 induction n using Nat.strongRecOn with
 | _ n ih =>
  intro l hn
  by_cases h : l = []
  ·subst h; exact .inl ⟨validD_nil, rfl⟩
  ·have hl := List.length_pos_iff.2 h
   have hw := decodeL_width l
   have hle := decodeL_le l h
   rw [runesD_cons h, encs_cons, validD_step l h]
   have key := ih (l.drop (decodeL l).2).length (by rw [List.length_drop]; omega) _ rfl
   by_cases hv : (decodeL l).1 = 65533 ∧ (decodeL l).2 = 1
   ·rw [if_pos hv]
    refine .inr ⟨rfl, ?_⟩
    rw [hv.1, List.length_append, bad_length]
    rw [hv.2] at key ⊢
    rcases key with ⟨_, k⟩ | ⟨_, k⟩
    ·rw [k, List.length_drop]; omega
    ·rw [List.length_drop] at k; omega
   ·rw [if_neg hv, encode_decode l h hv]
    rcases key with ⟨a, k⟩ | ⟨a, k⟩
    ·exact .inl ⟨a, by rw [k, List.take_append_drop]⟩
    ·refine .inr ⟨a, ?_⟩
     rw [List.length_append, List.length_take]
     rw [List.length_drop] at k
     omega
theorem encs_eq (l : List UInt8) : (encs (runesD l) == l) = validD l := by
 rcases encs_runes l.length l rfl with ⟨a, k⟩ | ⟨a, k⟩
 ·rw [a, k]; simp
 ·rw [a]
  refine beq_eq_false_iff_ne.2 fun h => ?_
  rw [h] at k
  omega
theorem encode_list (r : Nat) : (Utf8.encode (r : Int)).data.toList = encodeRune (r : Int) := by
 unfold Utf8.encode encodeRune
 by_cases hv : Utf8.valid (r : Int) = true
 ·simp only [hv, if_true, Int.toNat_natCast]
  simp only [Utf8.valid, Bool.or_eq_true, Bool.and_eq_true, decide_eq_true_eq] at hv
  have hb : ∀ n : Nat, ((n : Int).toNat.toUInt8) = UInt8.ofNat n := fun n => rfl
  by_cases h1 : r < 128
  ·rw [if_pos h1, encodeRuneZ_one (by omega) (by omega)]; rfl
  ·rw [if_neg h1]
   by_cases h2 : r < 2048
   ·rw [if_pos h2, encodeRuneZ_two (by omega) (by omega)]
    show [UInt8.ofNat (192 + r / 64), UInt8.ofNat (128 + r % 64)] = [(192 + (r : Int) / 64).toNat.toUInt8, (128 + (r : Int) % 64).toNat.toUInt8]
    rw [show (192 + (r : Int) / 64).toNat = 192 + r / 64 by omega, show (128 + (r : Int) % 64).toNat = 128 + r % 64 by omega]
   ·rw [if_neg h2]
    by_cases h3 : r < 65536
    ·rw [if_pos h3, encodeRuneZ_three (by omega)]
     show [UInt8.ofNat (224 + r / 4096), UInt8.ofNat (128 + r / 64 % 64), UInt8.ofNat (128 + r % 64)] = [(224 + (r : Int) / 4096).toNat.toUInt8, (128 + (r : Int) / 64 % 64).toNat.toUInt8, (128 + (r : Int) % 64).toNat.toUInt8]
     rw [show (224 + (r : Int) / 4096).toNat = 224 + r / 4096 by omega, show (128 + (r : Int) / 64 % 64).toNat = 128 + r / 64 % 64 by omega, show (128 + (r : Int) % 64).toNat = 128 + r % 64 by omega]
    ·rw [if_neg h3, encodeRuneZ_four (by omega) (by omega)]
     show [UInt8.ofNat (240 + r / 262144), UInt8.ofNat (128 + r / 4096 % 64), UInt8.ofNat (128 + r / 64 % 64), UInt8.ofNat (128 + r % 64)] = [(240 + (r : Int) / 262144).toNat.toUInt8, (128 + (r : Int) / 4096 % 64).toNat.toUInt8, (128 + (r : Int) / 64 % 64).toNat.toUInt8, (128 + (r : Int) % 64).toNat.toUInt8]
     rw [show (240 + (r : Int) / 262144).toNat = 240 + r / 262144 by omega, show (128 + (r : Int) / 4096 % 64).toNat = 128 + r / 4096 % 64 by omega, show (128 + (r : Int) / 64 % 64).toNat = 128 + r / 64 % 64 by omega, show (128 + (r : Int) % 64).toNat = 128 + r % 64 by omega]
 ·have hv' : Utf8.valid (r : Int) = false := by simpa using hv
  rw [hv']
  simp only [Utf8.valid, Bool.or_eq_false_iff, Bool.and_eq_false_iff, decide_eq_false_iff_not] at hv'
  rw [encodeRuneZ_bad (by omega)]
  simp [Utf8.runeError]
theorem foldl_data (ns : List Nat) : ∀ s : ByteArray, ((ns.map fun (n : Nat) => (n : Int)).foldl (fun r n => r ++ Utf8.encode n) s).data.toList = s.data.toList ++ encs ns := by
 induction ns with
 | nil => intro s; simp [encs]
 | cons n ns ih =>
  intro s
  rw [List.map_cons, List.foldl_cons, ih, encs_cons, ByteArray.data_append, Array.toList_append, encode_list, List.append_assoc]
theorem runesBytes_data (ns : List Nat) : (runesBytes (ns.map fun (n : Nat) => (n : Int))).data.toList = encs ns := by
 unfold runesBytes
 rw [foldl_data]
 rfl
theorem runesFrom_eq (s : ByteArray) : ∀ (n i : Nat) (acc : Array Value), Conv.runesFrom s n i acc = acc ++ ((runesN n (s.data.toList.drop i)).map fun (r : Nat) => Value.int .i32 (r : Int)).toArray
 | 0, i, acc => by simp [Conv.runesFrom, runesN]
 | n + 1, i, acc => by
  unfold Conv.runesFrom
  have hsz : s.data.toList.length = s.size := by rw [Array.length_toList]; rfl
  by_cases h : i < s.size
  ·have hne : s.data.toList.drop i ≠ [] := by
    intro e
    have := congrArg List.length e
    rw [List.length_drop, hsz] at this
    simp at this
    omega
   rw [if_pos h, runesN_cons n hne]
   simp only
   rw [runesFrom_eq s n, List.drop_drop, decodeL_drop]
   simp
  ·have he : s.data.toList.drop i = [] := List.drop_eq_nil_of_le (by omega)
   rw [if_neg h, he, runesN_nil]
   simp
theorem runesFrom_top (s : ByteArray) : Conv.runesFrom s s.size 0 #[] = ((runesD s.data.toList).map fun (r : Nat) => Value.int .i32 (r : Int)).toArray := by
 have hsz : s.data.toList.length = s.size := by rw [Array.length_toList]; rfl
 rw [runesFrom_eq, List.drop_zero, ← hsz]
 simp [runesD]
def nameD (l : List UInt8) : Bool := ((runesD l).all fun r => !(isSpaceR r || r == 43)) && (!l.isEmpty && validD l)
end Nt
