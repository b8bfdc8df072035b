/- Part 18 of the proof: what the theorem reaches of the texts SpecM, LawK, PX10, Conv, LawO, MoreP, LawM, PX11, OpenK. -/
import Derived.Deep.RegionHeld3
import Derived.Deep.Strs
import Derived.ChangeArms
import Derived.Test.YtkbegfihdpiacaaDoorKP5
import Derived.Test.YtkbegfihdpiacaaDoorKP6
import Derived.Test.YtkbegfihdpiacaaDoorKP7
import Derived.Test.YtkbegfihdpiacaaDoorKP8
import Derived.Test.YtkbegfihdpiacaaDoorKP9
import Derived.Test.YtkbegfihdpiacaaDoorKP13
import Derived.Test.YtkbegfihdpiacaaDoorKP14
import Derived.Test.YtkbegfihdpiacaaDoorKP15
import Derived.Test.YtkbegfihdpiacaaDoorKP16
import Derived.Test.YtkbegfihdpiacaaDoorKP17

namespace Go.Proofs.YtkbegfihdpiacaaDoor.PX
open Go.RowKit Nt Go.Lib Go.Maps Go.Proofs.YtkbegfihdpiacaaDoorW.PrintWords Go.Proofs.YtkbegfihdpiacaaDoorW.PrintLast
set_option linter.unusedVariables false
set_option linter.unusedSimpArgs false
theorem rd34 (ks : List S34) (i : Nat) (h : i < ks.length) : rd_T34 ks (i : Int) = ks[i] := by
  unfold rd_T34; simp [List.getElem?_eq_getElem h]
theorem keys_l0 (ks : List S34) (hk : ks.length ≤ 3000000000) : ∀ (k i : Nat) (acc : List S59), i ≤ ks.length → acc.length ≤ i → ks.length - i < k → laws_keys.l0 k acc ks (ks.length : Int) (i : Int) = some (acc ++ (ks.drop i).map key59)
  | 0, i, acc, _, _, hf => by omega
  | k + 1, i, acc, hi, ha, hf => by
    unfold laws_keys.l0
    by_cases hlt : i < ks.length
    · rw [if_pos (by omega), if_pos (by omega), if_pos (by omega), if_pos (by omega), w1 i (by omega), keys_l0 ks hk k (i + 1) _ (by omega) (by simp; omega) (by omega), List.drop_eq_getElem_cons hlt, List.map_cons, List.append_assoc, rd34 ks i hlt]
      rfl
    · rw [if_neg (by omega), List.drop_eq_nil_of_le (by omega)]
      simp
theorem keys_f (ks : List S34) (hk : ks.length ≤ 3000000000) (k : Nat) (hf : ks.length < k) : laws_keys.f k ks = some (ks.map key59) := by
  have := keys_l0 ks hk k 0 [] (Nat.zero_le _) (Nat.le_refl _) (by omega)
  unfold laws_keys.f
  simpa using this
/-- What Good keys are. -/
def GoodK (ks : List S34) : Prop := Apart ks ∧ ks.length ≤ 8 ∧ ∀ x ∈ ks, x.f2.length ≤ 8 ∧ x.f3.length = x.f2.length
theorem good_l0 (ks : List S34) (hk : ks.length ≤ 3000000000) : ∀ (k i : Nat), i ≤ ks.length → (ks.length - i) + ks.length + 1 < k →
    ∃ b, spec_Good.l0 k (ks.map key59) (ks.map key59) (ks.length : Int) (i : Int) = some b ∧ (b = true → ks.length ≤ 8 ∧ ∀ j (x : S34), i ≤ j → ks[j]? = some x → findS (ks.take j) x.f0 x.f1 = none ∧ x.f2.length ≤ 8 ∧ x.f3.length = x.f2.length)
  | 0, i, _, hf => by omega
  | k + 1, i, hi, hf => by
    unfold spec_Good.l0
    by_cases hlt : i < ks.length
    · have ht : (ks.map key59).take (i : Int).toNat = (ks.take i).map key59 := by rw [Int.toNat_natCast, List.map_take]
      have htl : (ks.take i).length = i := by rw [List.length_take]; omega
      rw [if_pos (by omega), if_pos (by omega), if_pos (by rw [List.length_map]; omega), if_pos (by rw [List.length_map]; omega), rd59 ks i hlt, ht, find_f (ks.take i) (by omega) _ _ k (by omega), w1 i (by omega)]
      simp only [Option.bind_some]
      show ∃ b, (if findI ks[i].f0 ks[i].f1 (ks.take i) 0 ≥ 0 then some false else if (ks[i].f2.length : Int) > 8 then some false else if (ks[i].f3.length : Int) = (ks[i].f2.length : Int) then _ else some false) = some b ∧ _
      rcases findI_spec ks[i].f0 ks[i].f1 (ks.take i) 0 with ⟨e1, e2⟩ | ⟨j, x, e1, e2, e3⟩
      · rw [e1, if_neg (by omega)]
        by_cases h8 : (ks[i].f2.length : Int) > 8
        · rw [if_pos h8]; exact ⟨_, rfl, fun h => by cases h⟩
        · rw [if_neg h8]
          by_cases hq : (ks[i].f3.length : Int) = (ks[i].f2.length : Int)
          · rw [if_pos hq]
            obtain ⟨b, hb, hb2⟩ := good_l0 ks hk k (i + 1) (by omega) (by omega)
            refine ⟨b, hb, fun h => ⟨(hb2 h).1, fun j x hij hx => ?_⟩⟩
            by_cases hji : j = i
            · subst hji
              have : ks[j] = x := (List.getElem?_eq_some_iff.1 hx).2
              rw [this] at e2 h8 hq
              exact ⟨e2, by omega, by omega⟩
            · exact (hb2 h).2 j x (by omega) hx
          · rw [if_neg hq]; exact ⟨_, rfl, fun h => by cases h⟩
      · rw [e1, if_pos (by omega)]; exact ⟨_, rfl, fun h => by cases h⟩
    · rw [if_neg (by omega)]
      refine ⟨_, rfl, fun h => ⟨?_, fun j x hij hx => ?_⟩⟩
      · have := of_decide_eq_true h
        rw [List.length_map] at this
        omega
      · have := (List.getElem?_eq_some_iff.1 hx).1
        omega
theorem good_f (ks : List S34) (hk : ks.length ≤ 3000000000) (k : Nat) (hf : ks.length + ks.length + 1 < k) : ∃ b, spec_Good.f k (ks.map key59) = some b ∧ (b = true → GoodK ks) := by
  obtain ⟨b, hb, hb2⟩ := good_l0 ks hk k 0 (Nat.zero_le _) (by omega)
  refine ⟨b, ?_, fun h => ⟨fun i j x y hij hx hy => ?_, (hb2 h).1, fun x hx => ?_⟩⟩
  · unfold spec_Good.f; rw [List.length_map]; exact hb
  · rintro ⟨e1, e2⟩
    have := ((hb2 h).2 j y (Nat.zero_le _) hy).1
    unfold findS at this
    rw [List.find?_eq_none] at this
    exact this x (List.mem_of_getElem? (by rw [List.getElem?_take_of_lt hij]; exact hx)) (by simp [e1, e2])
  · obtain ⟨j, hj⟩ := List.getElem?_of_mem hx
    exact ((hb2 h).2 j x (Nat.zero_le _) hj).2
/-- What fits. -/
def FitK (ks : List S34) : Prop := ks.length ≤ 2147483647 ∧ ∀ x ∈ ks, x.f0.size ≤ 2147483647 ∧ x.f2.length ≤ 2147483647 ∧ x.f3.length ≤ 2147483647
theorem fits3_l0 (l : List ByteArray) (hk : l.length ≤ 2147483647) : ∀ (k i : Nat), i ≤ l.length → l.length - i < k → ∃ b, laws_zzFits3.l0 k l (l.length : Int) (i : Int) = some b
  | 0, i, _, hf => by omega
  | k + 1, i, hi, hf => by
    unfold laws_zzFits3.l0
    by_cases hlt : i < l.length
    · rw [if_pos (by omega), if_pos (by omega), if_pos (by omega), w1 i (by omega)]
      split
      · exact ⟨_, rfl⟩
      · exact fits3_l0 l hk k (i + 1) (by omega) (by omega)
    · rw [if_neg (by omega)]; exact ⟨_, rfl⟩
theorem fits3_f (l : List ByteArray) (k : Nat) (hf : 2147483647 < k) : ∃ b, laws_zzFits3.f k l = some b ∧ (b = true → l.length ≤ 2147483647) := by
  unfold laws_zzFits3.f
  by_cases h : (l.length : Int) > 2147483647
  · rw [if_pos h]; exact ⟨_, rfl, fun h => by cases h⟩
  · rw [if_neg h]
    obtain ⟨b, hb⟩ := fits3_l0 l (by omega) k 0 (Nat.zero_le _) (by omega)
    exact ⟨b, hb, fun _ => by omega⟩
theorem fits2_f (x : S34) (k : Nat) (hf : 2147483647 < k) : ∃ b, laws_zzFits2.f k x.f0 x.f1 x.f2 x.f3 = some b ∧ (b = true → x.f0.size ≤ 2147483647 ∧ x.f2.length ≤ 2147483647 ∧ x.f3.length ≤ 2147483647) := by
  unfold laws_zzFits2.f
  by_cases h : (x.f0.size : Int) > 2147483647
  · rw [if_pos h]; exact ⟨_, rfl, fun h => by cases h⟩
  · rw [if_neg h]
    obtain ⟨b2, e2, h2⟩ := fits3_f x.f2 k hf
    obtain ⟨b3, e3, h3⟩ := fits3_f x.f3 k hf
    rw [e2, e3]
    simp only [Option.bind_some]
    cases b2 with
    | false => exact ⟨_, rfl, fun h => by cases h⟩
    | true =>
      cases b3 with
      | false => exact ⟨_, rfl, fun h => by cases h⟩
      | true => exact ⟨_, rfl, fun _ => ⟨by omega, h2 rfl, h3 rfl⟩⟩
theorem fits1_l0 (ks : List S34) (hk : ks.length ≤ 2147483647) : ∀ (k i : Nat), i ≤ ks.length → (ks.length - i) + 2147483648 < k → ∃ b, laws_zzFits1.l0 k ks (ks.length : Int) (i : Int) = some b ∧ (b = true → ∀ j x, i ≤ j → ks[j]? = some x → x.f0.size ≤ 2147483647 ∧ x.f2.length ≤ 2147483647 ∧ x.f3.length ≤ 2147483647)
  | 0, i, _, hf => by omega
  | k + 1, i, hi, hf => by
    unfold laws_zzFits1.l0
    by_cases hlt : i < ks.length
    · obtain ⟨b2, e2, h2⟩ := fits2_f ks[i] k (by omega)
      rw [if_pos (by omega), if_pos (by omega), if_pos (by omega), w1 i (by omega), rd34 ks i hlt, e2]
      simp only [Option.bind_some]
      cases b2 with
      | false => exact ⟨_, rfl, fun h => by cases h⟩
      | true =>
        rw [if_pos (show true = true from rfl)]
        obtain ⟨b, hb, hb2⟩ := fits1_l0 ks hk k (i + 1) (by omega) (by omega)
        refine ⟨b, hb, fun h j x hij hx => ?_⟩
        by_cases hji : j = i
        · subst hji
          have : ks[j] = x := (List.getElem?_eq_some_iff.1 hx).2
          rw [this] at h2
          exact h2 rfl
        · exact hb2 h j x (by omega) hx
    · rw [if_neg (by omega)]
      refine ⟨_, rfl, fun h j x hij hx => ?_⟩
      have := (List.getElem?_eq_some_iff.1 hx).1
      omega
theorem fits1_f (ks : List S34) (k : Nat) (hf : 4294967296 < k) : ∃ b, laws_zzFits1.f k ks = some b ∧ (b = true → FitK ks) := by
  unfold laws_zzFits1.f
  by_cases h : (ks.length : Int) > 2147483647
  · rw [if_pos h]; exact ⟨_, rfl, fun h => by cases h⟩
  · rw [if_neg h]
    obtain ⟨b, hb, hb2⟩ := fits1_l0 ks (by omega) k 0 (Nat.zero_le _) (by omega)
    refine ⟨b, hb, fun h => ⟨by omega, fun x hx => ?_⟩⟩
    obtain ⟨j, hj⟩ := List.getElem?_of_mem hx
    exact hb2 h j x (Nat.zero_le _) hj
theorem openL_len (ks : List S34) (text : ByteArray) : ∀ (lines : List (List UInt8)) (seen : List (ByteArray × Int)) (sigs unv s u : List S118), openL ks text lines seen sigs unv = .ok s u → s.length ≤ sigs.length + lines.length ∧ u.length ≤ unv.length + lines.length
  | [], seen, sigs, unv, s, u, h => by
    rw [openL] at h
    injection h with a b
    subst a; subst b
    exact ⟨by simp, by simp⟩
  | l :: ls, seen, sigs, unv, s, u, h => by
    rw [openL] at h
    have hl : (l :: ls).length = ls.length + 1 := rfl
    split at h
    · cases h
    · split at h
      · split at h
        · have := openL_len ks text ls _ _ _ _ _ h; omega
        · have := openL_len ks text ls _ _ _ _ _ h; simp at this; omega
      · split at h
        · have := openL_len ks text ls _ _ _ _ _ h; omega
        · split at h
          · have := openL_len ks text ls _ _ _ _ _ h; simp at this; omega
          · cases h
theorem openM_len (ks : List S34) (l : List UInt8) (hcnt : ∀ i, lastN l l.length = some i → l[l.length - 1]? = some 10 → (linesD (l.drop (i + 2))).length ≤ 100) (s u : List S118) (h : (openM ks l).2 = .ok s u) : s.length ≤ 1000000 ∧ u.length ≤ 1000000 := by
  unfold openM at h
  split at h
  · split at h
    · cases h
    · rename_i i hi
      split at h
      · cases h
      · split at h
        · rename_i h10
          have h1 := openL_len ks _ _ _ _ _ _ _ h
          have h2 := hcnt i hi h10
          simp at h1
          omega
        · cases h
  · cases h
/-- The two answers. -/
theorem out_res (t : ByteArray) (o : ORes) : (outM t o).2.2.2 = (resD t o).2.2.2.1 ∧ (outM t o).1 = (resD t o).1 ∧ (outM t o).2.1.map (fun x : S75 => (⟨x.f0, x.f1, x.f2⟩ : S37)) = (resD t o).2.1 ∧ (outM t o).2.2.1.map (fun x : S75 => (⟨x.f0, x.f1, x.f2⟩ : S37)) = (resD t o).2.2.1 := by
  cases o with
  | bad => exact ⟨rfl, rfl, rfl, rfl⟩
  | inv nm h => exact ⟨rfl, rfl, rfl, rfl⟩
  | ok s u =>
    cases s with
    | nil => exact ⟨rfl, rfl, rfl, by unfold outM resD; simp [sig75, sig37]⟩
    | cons x s => exact ⟨rfl, rfl, by unfold outM resD; simp [sig75, sig37], by unfold outM resD; simp [sig75, sig37]⟩
end Go.Proofs.YtkbegfihdpiacaaDoor.PX

namespace Go.Proofs.YtkbegfihdpiacaaDoor.PX
open Go.RowKit Nt Go.Lib Go.Maps Go.Proofs.YtkbegfihdpiacaaDoorW.PrintWords Go.Proofs.YtkbegfihdpiacaaDoorW.PrintLast
set_option linter.unusedVariables false
set_option linter.unusedSimpArgs false
/-- What is given of a call of a law. -/
structure LW (w : World) (A0 : Option Addr) (c0 : Nat) (ks : List S34) (eM : Value) : Prop where
  hU : Utf8Tabs 3 4 w
  hW : WhiteTab 6 w
  hE : w.cell? ⟨0, 0, none⟩ = some eM
  heM : ∃ pE, eM = .iface 195 (.pointer pE)
  hk : Kd.C k34 w A0 ks.length ks
  hc : ks.length ≤ c0
  wf : ∀ x ∈ ks, (Lit.int .u32 x.f1).wf = true
theorem LW.below {w W : World} {A0 : Option Addr} {c0 : Nat} {ks : List S34} {eM : Value} (h : LW w A0 c0 ks eM) (hb : Below w.heap.size w W) : LW W A0 c0 ks eM :=
  { hU := Utf8Tabs.below' h.hU hb
    hW := WhiteTab.below' h.hW hb
    hE := pw_cell_below hb h.hE
    heM := h.heM
    hk := Kd.C_below h.hk hb
    hc := h.hc
    wf := h.wf }
theorem k34_heap : Kd.Heap k34 := Kd.heap_iso _ (Kd.heap_pair Kd.heap_string (Kd.heap_pair (Kd.heap_int _) (Kd.heap_pair (Kd.heap_slice _ Kd.heap_string) (Kd.heap_slice _ Kd.heap_string))))
theorem LW.fits {w : World} {A0 : Option Addr} {c0 : Nat} {ks : List S34} {eM : Value} (h : LW w A0 c0 ks eM) :
    ∃ b, (b = true → FitK ks) ∧ ∀ W, Below w.heap.size w W → Calls Tryd.prog 7 #[.slice A0 ks.length c0] W fun e w' => e = .returned (.bool b) ∧ Below W.heap.size W w' := by
  obtain ⟨b, hb, hb2⟩ := fits1_f ks 5000000000 (by decide)
  exact ⟨b, hb2, fun W hW => laws_zzFits1.calls _ A0 c0 ks b W (h.below hW).hk h.hc hb⟩
theorem LW.keys {w : World} {A0 : Option Addr} {c0 : Nat} {ks : List S34} {eM : Value} (h : LW w A0 c0 ks eM) (hf : ks.length ≤ 3000000000) :
    Calls Tryd.prog 9 #[.slice A0 ks.length c0] w fun e w' => ∃ A c, e = .returned (.slice A ks.length c) ∧ ks.length ≤ c ∧ Kd.C k59 w' A ks.length (ks.map key59) ∧ Below w.heap.size w w' := by
  refine (laws_keys.calls 5000000000 (fun k => k < w.heap.size) A0 c0 ks (ks.map key59) w (Kd.V_mk h.hc (Kd.C_F k34_heap h.hk)) (keys_f ks hf _ (by omega))).mono ?_
  rintro e w' ⟨v, rfl, hn, hb⟩
  obtain ⟨A, c, rfl, hle, hc⟩ := Kd.N_reads hn
  rw [List.length_map] at hle hc ⊢
  exact ⟨A, c, rfl, hle, hc, hb⟩
theorem FitK.few {ks : List S34} (h : FitK ks) : ks.length ≤ 3000000000 := Nat.le_trans h.1 (by omega)
theorem LW.good {ks : List S34} (hf : ks.length ≤ 3000000000) :
    ∃ b, (b = true → GoodK ks) ∧ ∀ W A c, Kd.C k59 W A ks.length (ks.map key59) → ks.length ≤ c → Calls Tryd.prog 10 #[.slice A ks.length c] W fun e w' => e = .returned (.bool b) ∧ Below W.heap.size W w' := by
  obtain ⟨b, hb, hb2⟩ := good_f ks hf 7000000000 (by omega)
  refine ⟨b, hb2, fun W A c hC hc => ?_⟩
  have := spec_Good.calls _ A c (ks.map key59) b W (by rw [List.length_map]; exact hC) (by rw [List.length_map]; exact hc) hb
  rw [List.length_map] at this
  exact this
theorem LW.sopen {ks : List S34} (hf : FitK ks) (l : List UInt8) (hl : l.length ≤ 2147483647) :
    ∃ r1 r2 r3 r4 r5, (r5 = true → ((r1, r2, r3, r4, r5) : ByteArray × List S37 × List S37 × Int × Bool) = resD (openM ks l).1 (openM ks l).2 ∧ ∀ i, lastN l l.length = some i → l[l.length - 1]? = some 10 → (linesD (l.drop (i + 2))).length ≤ 100) ∧
      ∀ W A c, Kd.C k59 W A ks.length (ks.map key59) → ks.length ≤ c → Calls Tryd.prog 8 #[.string (S l), .slice A ks.length c] W fun e w' => ∃ v1 v2 : Value, e = .returned (.tuple #[.agg #[.string r1, v1, v2], .int .i64 r4, .bool r5]) ∧
        Kd.R k37 37 w' W.heap.size (fun _ => True) v1 r2 ∧ Kd.R k37 37 w' W.heap.size (fun _ => True) v2 r3 ∧ Below W.heap.size W w' :=
  ⟨(sopM ks l).1, (sopM ks l).2.1, (sopM ks l).2.2.1, (sopM ks l).2.2.2.1, (sopM ks l).2.2.2.2, fun h => ⟨(sopM_open ks l h).1, (sopM_open ks l h).2.2⟩, fun W A c hC hc => sopenC ks l hl hf.1 (fun x hx => (hf.2 x hx).2.1) W A c hC hc⟩
theorem LW.iopen {w : World} {A0 : Option Addr} {c0 : Nat} {ks : List S34} {eM : Value} (h : LW w A0 c0 ks eM) (hf : FitK ks) (hg : GoodK ks) (l : List UInt8) (hl : l.length ≤ 2147483647) (hcnt : ∀ i, lastN l l.length = some i → l[l.length - 1]? = some 10 → (linesD (l.drop (i + 2))).length ≤ 100) :
    Calls Tryd.prog 11 #[.string (S l), .slice A0 ks.length c0] w (IOPost w (outM (openM ks l).1 (openM ks l).2)) :=
  PX.iopen w l A0 c0 ks eM h.hU h.hW h.hE h.heM h.hk h.hc hf.1 hg.1 (fun x hx => ⟨(hf.2 x hx).1, h.wf x hx⟩) (fun x hx => ⟨(hf.2 x hx).2.1, (hf.2 x hx).2.2⟩) hl hcnt (openM_len ks l hcnt)
end Go.Proofs.YtkbegfihdpiacaaDoor.PX

namespace Go.Proofs.YtkbegfihdpiacaaDoor.PX
open Go.RowKit Go.Proofs.YtkbegfihdpiacaaDoorW.PrintWords Go.Proofs.YtkbegfihdpiacaaDoorW.PrintLast Go.Proofs.YtkbegfihdpiacaaDoorW.PrintMore
attribute [local go_sem] max2_int min2_int max_two min_two max_three min_three max_four min_four   -- for this text's walks alone
set_option linter.unusedVariables false
set_option linter.unusedSimpArgs false
def laws_conv.f (k : Nat) (a0_0 : ByteArray) (l0_1 : List (S75)) (l0_2 : List (S75)) : Option (ByteArray × (List (S37)) × (List (S37))) := (laws_sigs.f k l0_1).bind fun t308 => ((laws_sigs.f k l0_2).bind fun t311 => (some (a0_0, t308, t311)))
theorem laws_conv.mono : ∀ a0 a1 a2 k, LeO (laws_conv.f k a0 a1 a2) (laws_conv.f (k + 1) a0 a1 a2) := by
  intro a0 a1 a2 k
  unfold laws_conv.f
  repeat' first
      | (with_reducible exact laws_sigs.mono _ _)
      | (with_reducible exact LeO.refl _)
      | (with_reducible exact LeO.none _)
      | (with_reducible refine LeO.ite ?_ ?_)
      | (with_reducible refine LeO.bind ?_ (fun _ => ?_))
      | exact laws_sigs.mono _ _
      | exact LeO.none _
      | refine LeO.ite ?_ ?_
      | refine LeO.bind ?_ (fun _ => ?_)
def laws_conv.T1 : Bool × List (List Nat × List Nat) := (true, [([], []), ([0], [0]), ([], []), ([2], [2]), ([3], [3]), ([], []), ([5], [5]), ([6, 4], [6]), ([1, 4, 7], [1, 4, 7]), ([8, 7, 0, 1, 2, 3, 4, 5, 6, 7, 8], [8])])
def laws_conv.B1 : List Nat := [0, 1, 0, 4, 12, 0, 32, 124, 255, 511]
theorem laws_conv.tab1 : rtab .any (opsOf Tryd.f13 1) = laws_conv.T1 := by kernel_rfl
theorem laws_conv.bits1 : waitsOk laws_conv.T1.2 laws_conv.B1 = true := by kernel_rfl
set_option maxHeartbeats 8000000 in
set_option maxRecDepth 100000 in
theorem laws_conv.calls (k : Nat) (a0_0 : ByteArray) (A0_1 : Option Addr) (c0_1 : Nat) (l0_1 : List (S75)) (A0_2 : Option Addr) (c0_2 : Nat) (l0_2 : List (S75)) (r1 : ByteArray) (r2 : List (S37)) (r3 : List (S37)) (w : World) (hr0_1 : Kd.C k75 w A0_1 l0_1.length l0_1) (hc0_1 : l0_1.length ≤ c0_1) (hr0_2 : Kd.C k75 w A0_2 l0_2.length l0_2) (hc0_2 : l0_2.length ≤ c0_2) (h : laws_conv.f k a0_0 l0_1 l0_2 = some (r1, r2, r3)) :
    Calls Tryd.prog 13 #[.agg #[.string a0_0, .slice A0_1 l0_1.length c0_1, .slice A0_2 l0_2.length c0_2]] w fun e w' => ∃ v1_ v2_ : Value, e = .returned (.agg #[.string r1, v1_, v2_]) ∧ Kd.R k37 37 w' w.heap.size (fun k_ => some k_ ≠ (v2_ : Value).ownBlock) v1_ r2 ∧ Kd.R k37 37 w' w.heap.size (fun k_ => some k_ ≠ (v1_ : Value).ownBlock) v2_ r3 ∧ Below w.heap.size w w' := by
  have hu40 := Tryd.underlying40
  have hu27 := Tryd.underlying27
  have HR0_1 := Aside0.mk hr0_1
  have HC0_1 := Aside0.mk hc0_1
  clear hr0_1 hc0_1
  have HR0_2 := Aside0.mk hr0_2
  have HC0_2 := Aside0.mk hc0_2
  clear hr0_2 hc0_2
  have HB := Aside0.mk (Below.refl w.heap.size w)
  have H : ((laws_sigs.f k l0_1).bind fun t308 => ((laws_sigs.f k l0_2).bind fun t311 => (some (a0_0, t308, t311)))) = some (r1, r2, r3) := h
  clear h
  replace H := Option.bind_eq_some_iff.mp H
  obtain ⟨t308, A20, H⟩ := H
  replace H : ((laws_sigs.f k l0_2).bind fun t311 => (some (a0_0, t308, t311))) = some (r1, r2, r3) := H
  have A2 := Aside0.mk A20
  clear A20
  replace H := Option.bind_eq_some_iff.mp H
  obtain ⟨t311, A30, H⟩ := H
  replace H : (some (a0_0, t308, t311)) = some (r1, r2, r3) := H
  have A3 := Aside0.mk A30
  clear A30
  simp only [Option.some.injEq, Prod.mk.injEq] at H
  obtain ⟨rfl, rfl, rfl⟩ := H
  go_enter Tryd.func13, Tryd.ntmps13
  try go_wp2_with (first | ((with_reducible refine gate_dst (N := 1) rfl ?_); refine box_event ?hg (N := 1) ?hd (cs := #[.string a0_0, .slice A0_1 l0_1.length c0_1, .slice A0_2 l0_2.length c0_2]) (t := 40) ?hr ?_; (case hd => rfl); (case hg => rfl); (case hr => first | (go_simp; done) | (go_simp; rfl)); intro gb306 hg w4 hbox hb; have n0_ := Aside0.mk (below_step (by repeat (first | (with_reducible first | exact HB.out | apply below_alloc | apply pw_below_drewN | apply below_drew1) | exact HB.out)) hb); have n1_ := Aside0.mk (hbox); have n2_ := Aside0.mk ((by rw [hg]; exact (below_size (by repeat (first | (with_reducible first | exact HB.out | apply below_alloc | apply pw_below_drewN | apply below_drew1) | exact HB.out))) : w.heap.size ≤ gb306)); have n3_ := Aside0.mk ((by rw [hg]; exact (below_size (by repeat (first | (with_reducible first | exact HB.out | apply below_alloc | apply pw_below_drewN | apply below_drew1) | exact HB.out))) : w.heap.size ≤ gb306)); clear HB; have HB := n0_; have BK306 := n1_; have GW306 := n2_; have GE306 := n3_; clear n0_ n1_ n2_ n3_; clear hb hbox hg) | ((with_reducible refine gate_dst (N := 2) rfl ?_); refine box_event ?hg (N := 2) ?hd (cs := #[.string (⟨#[]⟩ : ByteArray), .slice none 0 0, .slice none 0 0]) (t := 27) ?hr ?_; (case hd => rfl); (case hg => rfl); (case hr => first | (go_simp; done) | (go_simp; rfl)); intro gb307 hg w5 hbox hb; have n0_ := Aside0.mk (blk_below (g := gb306) (o := .cells #[.string a0_0, .slice A0_1 l0_1.length c0_1, .slice A0_2 l0_2.length c0_2] 40 (0, 0)) (by (with_reducible repeat (first | refine blk_drewN ?_ _ | refine blk_drew ?_ | refine blk_alloc ?_ _)); exact BK306.out) hb); have n1_ := Aside0.mk (below_step (by repeat (first | (with_reducible first | exact HB.out | apply below_alloc | apply pw_below_drewN | apply below_drew1 | refine below_set ?_ GE306.out) | exact HB.out)) hb); have n2_ := Aside0.mk (hbox); have n3_ := Aside0.mk ((by rw [hg]; exact (below_size (by repeat (first | (with_reducible first | exact HB.out | apply below_alloc | apply pw_below_drewN | apply below_drew1 | refine below_set ?_ GE306.out) | exact HB.out))) : w.heap.size ≤ gb307)); have n4_ := Aside0.mk ((by rw [hg]; exact (below_size (by repeat (first | (with_reducible first | exact HB.out | apply below_alloc | apply pw_below_drewN | apply below_drew1 | refine below_set ?_ GE306.out) | exact HB.out))) : w.heap.size ≤ gb307)); have n5_ := Aside0.mk ((by rw [hg]; exact Nat.ne_of_lt (blk_lt (g := gb306) (o := .cells #[.string a0_0, .slice A0_1 l0_1.length c0_1, .slice A0_2 l0_2.length c0_2] 40 (0, 0)) (by (with_reducible repeat (first | refine blk_drewN ?_ _ | refine blk_drew ?_ | refine blk_alloc ?_ _)); exact BK306.out)) : gb306 ≠ gb307)); have n6_ := Aside0.mk ((by rw [hg]; exact Nat.ne_of_gt (blk_lt (g := gb306) (o := .cells #[.string a0_0, .slice A0_1 l0_1.length c0_1, .slice A0_2 l0_2.length c0_2] 40 (0, 0)) (by (with_reducible repeat (first | refine blk_drewN ?_ _ | refine blk_drew ?_ | refine blk_alloc ?_ _)); exact BK306.out)) : gb307 ≠ gb306)); clear BK306; clear HB; have BK306 := n0_; have HB := n1_; have BK307 := n2_; have GW307 := n3_; have GE307 := n4_; have NB306_307 := n5_; have NB307_306 := n6_; clear n0_ n1_ n2_ n3_ n4_ n5_ n6_; clear hb hbox hg))
  have n0_ := Aside0.mk (blk_drew BK306.out)
  have n1_ := Aside0.mk (blk_drew BK307.out)
  have n2_ := Aside0.mk (below_drew1 HB.out)
  clear BK306
  clear BK307
  clear HB
  have BK306 := n0_
  have BK307 := n1_
  have HB := n2_
  clear n0_ n1_ n2_
  refine start_ (n := 10) (S := fun w' => w'.cell? ⟨gb306, 0, none⟩ = some (.string a0_0) ∧ w'.cell? ⟨gb306, 1, none⟩ = some (.slice A0_1 l0_1.length c0_1) ∧ w'.cell? ⟨gb306, 2, none⟩ = some (.slice A0_2 l0_2.length c0_2)) (ds := []) #[false, false, false, false, false, false, false, false, false, false] (by kernel_rfl) rfl rfl ⟨(blk_cell BK306.out 0).trans rfl, (blk_cell BK306.out 1).trans rfl, (blk_cell BK306.out 2).trans rfl⟩ (fun hHeld => ?_); refine with_tabW laws_conv.tab1 laws_conv.bits1 (fun HT_ HW_ => ?_)
  generalize w5.drew = w6 at BK306 BK307 HB hHeld ⊢
  refine pure_ (i := 0) (N := some 3) (v := ?_) (a' := ?_) #[true, false, false, false, false, false, false, false, false, false] rfl rfl (any_of HT_.out (by kernel_rfl)) (fun _ _ _ h => h) (Or.inl ⟨by rfl, ?_⟩) ?_ ?_
  rotate_left
  · intro w'
    go_simp
    with_reducible rfl
  rotate_left
  · simp only [Act.put, List.setIfInBounds_toArray, List.set_cons_zero, List.set_cons_succ, i64_w, i32_w]
    rfl
  refine pure_ (i := 2) (N := some 5) (v := ?_) (a' := ?_) #[true, false, true, false, false, false, false, false, false, false] rfl rfl (any_of HT_.out (by kernel_rfl)) (fun _ _ _ h => h) (Or.inl ⟨by rfl, ?_⟩) ?_ ?_
  rotate_left
  · intro w'
    go_simp
    with_reducible rfl
  rotate_left
  · simp only [Act.put, List.setIfInBounds_toArray, List.set_cons_zero, List.set_cons_succ, i64_w, i32_w]
    rfl
  refine pure_ (i := 5) (N := some 8) (v := ?_) (a' := ?_) #[true, false, true, false, false, true, false, false, false, false] rfl rfl (any_of HT_.out (by kernel_rfl)) (fun _ _ _ h => h) (Or.inl ⟨by rfl, ?_⟩) ?_ ?_
  rotate_left
  · intro w'
    go_simp
    with_reducible rfl
  rotate_left
  · simp only [Act.put, List.setIfInBounds_toArray, List.set_cons_zero, List.set_cons_succ, i64_w, i32_w]
    rfl
  refine take_ (i := 1) (N := some 4) (v := ?_) (a' := ?_) #[true, true, true, false, false, true, false, false, false, false] rfl rfl (take_ofW HT_.out HW_.out (by kernel_rfl)) (fun _ _ _ h => h) (Or.inl ⟨by rfl, ?_⟩) hHeld ?_ ?_
  rotate_left
  · rintro w' ⟨s0, s1, s2⟩
    go_simp
    with_reducible rfl
  rotate_left
  · simp only [Act.put, List.setIfInBounds_toArray, List.set_cons_zero, List.set_cons_succ, i64_w, i32_w]
    rfl
  refine take_ (i := 3) (N := some 6) (v := ?_) (a' := ?_) #[true, true, true, true, false, true, false, false, false, false] rfl rfl (take_ofW HT_.out HW_.out (by kernel_rfl)) (fun _ _ _ h => h) (Or.inl ⟨by rfl, ?_⟩) hHeld ?_ ?_
  rotate_left
  · rintro w' ⟨s0, s1, s2⟩
    go_simp
    with_reducible rfl
  rotate_left
  · simp only [Act.put, List.setIfInBounds_toArray, List.set_cons_zero, List.set_cons_succ, i64_w, i32_w]
    rfl
  refine take_ (i := 6) (N := some 9) (v := ?_) (a' := ?_) #[true, true, true, true, false, true, true, false, false, false] rfl rfl (take_ofW HT_.out HW_.out (by kernel_rfl)) (fun _ _ _ h => h) (Or.inl ⟨by rfl, ?_⟩) hHeld ?_ ?_
  rotate_left
  · rintro w' ⟨s0, s1, s2⟩
    go_simp
    with_reducible rfl
  rotate_left
  · simp only [Act.put, List.setIfInBounds_toArray, List.set_cons_zero, List.set_cons_succ, i64_w, i32_w]
    rfl
  refine one_ (i := 4) (N := some 7) #[true, true, true, true, true, true, true, false, false, false] rfl rfl (one_of HT_.out (by kernel_rfl)) (by decide) (fun K hK => ?_)
  refine goes_ Tryd.func28 (by kernel_rfl) rfl #[.slice A0_1 l0_1.length c0_1] (by rfl) rfl rfl (by (try simp only [List.map_toArray, List.map_cons, List.map_nil]); first | done | rfl | (simp only [List.length_drop, List.length_take]; rfl)) ?_
  with_reducible refine (laws_sigs.calls k _ _ l0_1 t308 _ ?side1 ?side2 A2.out).mono ?_
  (case side1 => repeat (first | exact (Kd.C_below HR0_1.out HB.out) | (with_reducible refine Kd.C_alloc ?_ _) | (with_reducible refine Kd.C_drewN ?_ _) | (with_reducible refine Kd.C_drew ?_)))
  (case side2 => exact HC0_1.out)
  rintro e w7 ⟨v309, rfl, ho0, hb⟩
  refine ⟨_, rfl, ?_⟩
  have n0_ := Aside0.mk (Kd.R_lower ho0 (below_size (by repeat (first | (with_reducible first | exact HB.out | apply below_alloc | apply pw_below_drewN | apply below_drew1 | refine below_set ?_ GE306.out | refine below_set ?_ GE307.out) | exact HB.out))))
  have n1_ := Aside0.mk (blk_below (g := gb306) (o := .cells #[.string a0_0, .slice A0_1 l0_1.length c0_1, .slice A0_2 l0_2.length c0_2] 40 (0, 0)) (by (with_reducible repeat (first | refine blk_drewN ?_ _ | refine blk_drew ?_ | refine blk_alloc ?_ _)); exact BK306.out) hb)
  have n2_ := Aside0.mk (blk_below (g := gb307) (o := .cells #[.string (⟨#[]⟩ : ByteArray), .slice none 0 0, .slice none 0 0] 27 (0, 0)) (by (with_reducible repeat (first | refine blk_drewN ?_ _ | refine blk_drew ?_ | refine blk_alloc ?_ _)); exact BK307.out) hb)
  have n3_ := Aside0.mk (below_step (by repeat (first | (with_reducible first | exact HB.out | apply below_alloc | apply pw_below_drewN | apply below_drew1 | refine below_set ?_ GE306.out | refine below_set ?_ GE307.out) | exact HB.out)) hb)
  clear BK306
  clear BK307
  clear HB
  have HO310 := n0_
  have BK306 := n1_
  have BK307 := n2_
  have HB := n3_
  clear n0_ n1_ n2_ n3_
  (try clear hb)
  (try clear hb2)
  (try clear hk)
  (try clear hi)
  (try clear ho0)
  refine hK.out _ _ ⟨(blk_cell BK306.out 0).trans rfl, (blk_cell BK306.out 1).trans rfl, (blk_cell BK306.out 2).trans rfl⟩ (fun hHeld => ?_)
  clear hK K
  refine norm_ (a' := ?_) ?_ ?_
  rotate_left
  · show Act.put _ (some 7) _ = _
    simp only [Act.put, List.setIfInBounds_toArray, List.set_cons_zero, List.set_cons_succ, i64_w, i32_w]
    rfl
  refine one_ (i := 7) (N := some 10) #[true, true, true, true, true, true, true, true, false, false] rfl rfl (one_of HT_.out (by kernel_rfl)) (by decide) (fun K hK => ?_)
  refine goes_ Tryd.func28 (by kernel_rfl) rfl #[.slice A0_2 l0_2.length c0_2] (by rfl) rfl rfl (by (try simp only [List.map_toArray, List.map_cons, List.map_nil]); first | done | rfl | (simp only [List.length_drop, List.length_take]; rfl)) ?_
  with_reducible refine (laws_sigs.calls k _ _ l0_2 t311 _ ?side1 ?side2 A3.out).mono ?_
  (case side1 => repeat (first | exact (Kd.C_below HR0_2.out HB.out) | (with_reducible refine Kd.C_alloc ?_ _) | (with_reducible refine Kd.C_drewN ?_ _) | (with_reducible refine Kd.C_drew ?_)))
  (case side2 => exact HC0_2.out)
  rintro e w8 ⟨v312, rfl, ho0, hb⟩
  refine ⟨_, rfl, ?_⟩
  have n0_ := Aside0.mk (Kd.R_elder' (by (with_reducible repeat (first | apply Kd.R_alloc | apply Kd.R_drewN | apply Kd.R_drew)); exact HO310.out) (Kd.R_base ho0) hb)
  have n1_ := Aside0.mk (Kd.R_lower (Kd.R_new' ho0 (Kd.R_lt (by (with_reducible repeat (first | apply Kd.R_alloc | apply Kd.R_drewN | apply Kd.R_drew)); exact HO310.out))) (below_size (by repeat (first | (with_reducible first | exact HB.out | apply below_alloc | apply pw_below_drewN | apply below_drew1 | refine below_set ?_ GE306.out | refine below_set ?_ GE307.out) | exact HB.out))))
  have n2_ := Aside0.mk (blk_below (g := gb306) (o := .cells #[.string a0_0, .slice A0_1 l0_1.length c0_1, .slice A0_2 l0_2.length c0_2] 40 (0, 0)) (by (with_reducible repeat (first | refine blk_drewN ?_ _ | refine blk_drew ?_ | refine blk_alloc ?_ _)); exact BK306.out) hb)
  have n3_ := Aside0.mk (blk_below (g := gb307) (o := .cells #[.string (⟨#[]⟩ : ByteArray), .slice none 0 0, .slice none 0 0] 27 (0, 0)) (by (with_reducible repeat (first | refine blk_drewN ?_ _ | refine blk_drew ?_ | refine blk_alloc ?_ _)); exact BK307.out) hb)
  have n4_ := Aside0.mk (below_step (by repeat (first | (with_reducible first | exact HB.out | apply below_alloc | apply pw_below_drewN | apply below_drew1 | refine below_set ?_ GE306.out | refine below_set ?_ GE307.out) | exact HB.out)) hb)
  clear HO310
  clear BK306
  clear BK307
  clear HB
  have HO310 := n0_
  have HO313 := n1_
  have BK306 := n2_
  have BK307 := n3_
  have HB := n4_
  clear n0_ n1_ n2_ n3_ n4_
  (try clear hb)
  (try clear hb2)
  (try clear hk)
  (try clear hi)
  (try clear ho0)
  obtain ⟨Ao9, co9, eo9⟩ := Kd.R_slice HO313.out
  (first | subst eo9 | (injection eo9 with f1_ f2_ f3_; have f4_ := f1_.symm; have f5_ := f3_.symm; clear f1_ f2_ f3_; subst f4_; subst f5_))
  obtain ⟨Ao10, co10, eo10⟩ := Kd.R_slice HO310.out
  (first | subst eo10 | (injection eo10 with f1_ f2_ f3_; have f4_ := f1_.symm; have f5_ := f3_.symm; clear f1_ f2_ f3_; subst f4_; subst f5_))
  refine hK.out _ _ ⟨(blk_cell BK306.out 0).trans rfl, (blk_cell BK306.out 1).trans rfl, (blk_cell BK306.out 2).trans rfl⟩ (fun hHeld => ?_)
  clear hK K
  refine norm_ (a' := ?_) ?_ ?_
  rotate_left
  · show Act.put _ (some 10) _ = _
    simp only [Act.put, List.setIfInBounds_toArray, List.set_cons_zero, List.set_cons_succ, i64_w, i32_w]
    rfl
  refine pure_ (i := 8) (N := some 11) (v := ?_) (a' := ?_) #[true, true, true, true, true, true, true, true, true, false] rfl rfl (any_of HT_.out (by kernel_rfl)) (fun _ _ _ h => h) (Or.inl ⟨by rfl, ?_⟩) ?_ ?_
  rotate_left
  · intro w'
    go_simp
    with_reducible rfl
  rotate_left
  · simp only [Act.put, List.setIfInBounds_toArray, List.set_cons_zero, List.set_cons_succ, i64_w, i32_w]
    rfl
  refine one_ (i := 9) (N := none) #[true, true, true, true, true, true, true, true, true, true] rfl rfl (one_of HT_.out (by kernel_rfl)) (by decide) (fun K hK => ?_)
  have hs11 : w8.cell? ⟨gb307, 0, none⟩ = some (.string (⟨#[]⟩ : ByteArray)) := (blk_cell BK307.out 0).trans rfl
  have hfs11 := blk_frozen BK307.out 0
  have hns11_0 := NB306_307.out
  have hms11_0 := NB307_306.out
  have hs12 : w8.cell? ⟨gb307, 1, none⟩ = some (.slice none 0 0) := (blk_cell BK307.out 1).trans rfl
  have hfs12 := blk_frozen BK307.out 1
  have hns12_0 := NB306_307.out
  have hms12_0 := NB307_306.out
  have hs13 : w8.cell? ⟨gb307, 2, none⟩ = some (.slice none 0 0) := (blk_cell BK307.out 2).trans rfl
  have hfs13 := blk_frozen BK307.out 2
  have hns13_0 := NB306_307.out
  have hms13_0 := NB307_306.out
  refine skip_ (w1 := ?_) (by rfl) rfl ?_ ?_
  rotate_left
  · go_simp
    rfl
  refine hK.out _ _ ⟨((cell_far (p := ⟨gb307, _, none⟩) NB306_307.out _).trans (((cell_far (p := ⟨gb307, _, none⟩) NB306_307.out _).trans (((cell_far (p := ⟨gb307, _, none⟩) NB306_307.out _).trans (hHeld.1)))))), ((cell_far (p := ⟨gb307, _, none⟩) NB306_307.out _).trans (((cell_far (p := ⟨gb307, _, none⟩) NB306_307.out _).trans (((cell_far (p := ⟨gb307, _, none⟩) NB306_307.out _).trans (hHeld.2.1)))))), ((cell_far (p := ⟨gb307, _, none⟩) NB306_307.out _).trans (((cell_far (p := ⟨gb307, _, none⟩) NB306_307.out _).trans (((cell_far (p := ⟨gb307, _, none⟩) NB306_307.out _).trans (hHeld.2.2))))))⟩ (fun hHeld => ?_)
  clear hK K
  refine done_ (done_of HT_.out (by kernel_rfl)) ?_
  try go_wp2
  refine bodyPost_ret (results_cell_row rfl _ _ gb307 27 #[.string a0_0, .slice Ao10 t308.length co10, .slice Ao9 t311.length co9] (0, 0) _ rfl (by (with_reducible repeat (first | refine blk_drewN ?_ _ | refine blk_drew ?_ | refine blk_alloc ?_ _)); refine blk_put (cs := #[.string a0_0, .slice Ao10 t308.length co10, .slice none 0 0]) ?_ 2 _ rfl; (with_reducible repeat (first | refine blk_drewN ?_ _ | refine blk_drew ?_ | refine blk_alloc ?_ _)); refine blk_put (cs := #[.string a0_0, .slice none 0 0, .slice none 0 0]) ?_ 1 _ rfl; (with_reducible repeat (first | refine blk_drewN ?_ _ | refine blk_drew ?_ | refine blk_alloc ?_ _)); refine blk_put (cs := #[.string (⟨#[]⟩ : ByteArray), .slice none 0 0, .slice none 0 0]) ?_ 0 _ rfl; (with_reducible repeat (first | refine blk_drewN ?_ _ | refine blk_drew ?_ | refine blk_alloc ?_ _)); exact BK307.out) Tryd.underlying27 rfl (by kernel_rfl)) rfl ?_
  exact ⟨_, _, by first | rfl | (simp [errW_none, errW_some] <;> rfl) | (simp [*, errW_none, errW_some] <;> rfl), by (with_reducible repeat (first | apply Kd.R_alloc | apply Kd.R_drewN | apply Kd.R_drew)); exact Kd.R_mono (Kd.R_far (p := ⟨gb307, 2, none⟩) (Kd.R_far (p := ⟨gb307, 1, none⟩) (Kd.R_far (p := ⟨gb307, 0, none⟩) (Kd.R_types HO310.out BK307.out (by decide)) (fun _ hk => hk.2) (.string a0_0)) (fun _ hk => hk.2) (.slice Ao10 t308.length co10)) (fun _ hk => hk.2) (.slice Ao9 t311.length co9)) (fun _ hk => hk.1.2), by (with_reducible repeat (first | apply Kd.R_alloc | apply Kd.R_drewN | apply Kd.R_drew)); exact Kd.R_mono (Kd.R_far (p := ⟨gb307, 2, none⟩) (Kd.R_far (p := ⟨gb307, 1, none⟩) (Kd.R_far (p := ⟨gb307, 0, none⟩) (Kd.R_types HO313.out BK307.out (by decide)) (fun _ hk => hk.2) (.string a0_0)) (fun _ hk => hk.2) (.slice Ao10 t308.length co10)) (fun _ hk => hk.2) (.slice Ao9 t311.length co9)) (fun _ hk => hk.1.2), by repeat (first | (with_reducible first | exact HB.out | apply below_alloc | apply pw_below_drewN | apply below_drew1 | refine below_set ?_ GE306.out | refine below_set ?_ GE307.out) | exact HB.out)⟩
end Go.Proofs.YtkbegfihdpiacaaDoor.PX

namespace Go.Proofs.YtkbegfihdpiacaaDoor.PX
open Go.RowKit Nt Go.Lib Go.Maps Go.Proofs.YtkbegfihdpiacaaDoorW.PrintWords Go.Proofs.YtkbegfihdpiacaaDoorW.PrintLast
set_option linter.unusedVariables false
set_option linter.unusedSimpArgs false
def s37 (x : S75) : S37 := ⟨x.f0, x.f1, x.f2⟩
theorem rd75 (l : List S75) (i : Nat) (h : i < l.length) : rd_T75 l (i : Int) = l[i] := by
  unfold rd_T75; simp [List.getElem?_eq_getElem h]
theorem sigs_l0 (x : List S75) (hx : x.length ≤ 1000000) : ∀ (k i : Nat) (acc : List S37), acc.length ≤ i → i ≤ x.length → x.length - i < k → laws_sigs.l0 k acc x (x.length : Int) (i : Int) = some (acc ++ (x.drop i).map s37)
  | 0, i, acc, _, _, h => by omega
  | k + 1, i, acc, ha, hi, h => by
    unfold laws_sigs.l0
    by_cases hlt : i < x.length
    · rw [if_pos (by omega), if_pos (by omega), if_pos (by omega), if_pos (by omega), w1 i (by omega), sigs_l0 x hx k (i + 1) _ (by rw [List.length_append]; simp only [List.length_cons, List.length_nil]; omega) (by omega) (by omega), List.drop_eq_getElem_cons hlt, List.map_cons, List.append_assoc, rd75 x i hlt]
      rfl
    · rw [if_neg (by omega), List.drop_eq_nil_of_le (by omega)]
      simp
theorem sigs_f (x : List S75) (hx : x.length ≤ 1000000) (k : Nat) (hk : x.length < k) : laws_sigs.f k x = some (x.map s37) := by
  have h := sigs_l0 x hx k 0 [] (Nat.le_refl _) (by omega) (by omega)
  unfold laws_sigs.f
  simpa using h
theorem convC (t : ByteArray) (l1 l2 : List S75) (h1 : l1.length ≤ 1000000) (h2 : l2.length ≤ 1000000) (A1 : Option Addr) (c1 : Nat) (A2 : Option Addr) (c2 : Nat) (W : World) (r1 : l1.length ≤ c1 ∧ Kd.C k75 W A1 l1.length l1) (r2 : l2.length ≤ c2 ∧ Kd.C k75 W A2 l2.length l2) :
    Calls Tryd.prog 13 #[.agg #[.string t, .slice A1 l1.length c1, .slice A2 l2.length c2]] W fun e w' => ∃ v1 v2 : Value, e = .returned (.agg #[.string t, v1, v2]) ∧ Kd.R k37 37 w' W.heap.size (fun _ => True) v1 (l1.map s37) ∧ Kd.R k37 37 w' W.heap.size (fun _ => True) v2 (l2.map s37) ∧ Below W.heap.size W w' := by
  refine (laws_conv.calls (l1.length + l2.length + 1) t A1 c1 l1 A2 c2 l2 t (l1.map s37) (l2.map s37) W r1.2 r1.1 r2.2 r2.1 ?_).mono ?_
  · unfold laws_conv.f
    rw [sigs_f l1 h1 _ (by omega), sigs_f l2 h2 _ (by omega)]
    rfl
  · rintro e w' ⟨v1, v2, rfl, q1, q2, hb⟩
    exact ⟨v1, v2, rfl, Kd.R_mono q1 fun _ _ => trivial, Kd.R_mono q2 fun _ _ => trivial, hb⟩
theorem same_l0 (l : List S37) (hk : l.length ≤ 2147483647) : ∀ (k i : Nat), i ≤ l.length → l.length - i < k → spec_SameSigs.l0 k l l (l.length : Int) (i : Int) = some true
  | 0, i, _, hf => by omega
  | k + 1, i, hi, hf => by
    unfold spec_SameSigs.l0
    by_cases hlt : i < l.length
    · rw [if_pos (by omega), if_pos (by omega), if_pos (by omega), if_pos (by omega), w1 i (by omega), same_l0 l hk k (i + 1) (by omega) (by omega), if_neg (by simp)]
    · rw [if_neg (by omega)]
theorem sameSigs_f (l : List S37) (hk : l.length ≤ 2147483647) (k : Nat) (hf : l.length < k) : spec_SameSigs.f k l l = some true := by
  unfold spec_SameSigs.f
  rw [if_pos rfl]
  exact same_l0 l hk k 0 (Nat.zero_le _) (by omega)
theorem sameC (t : ByteArray) (l1 l2 : List S37) (h1 : l1.length ≤ 1000000) (h2 : l2.length ≤ 1000000) (A1 : Option Addr) (c1 : Nat) (A2 : Option Addr) (c2 : Nat) (B1 : Option Addr) (d1 : Nat) (B2 : Option Addr) (d2 : Nat) (W : World)
    (r1 : l1.length ≤ c1 ∧ Kd.C k37 W A1 l1.length l1) (r2 : l2.length ≤ c2 ∧ Kd.C k37 W A2 l2.length l2) (q1 : l1.length ≤ d1 ∧ Kd.C k37 W B1 l1.length l1) (q2 : l2.length ≤ d2 ∧ Kd.C k37 W B2 l2.length l2) :
    Calls Tryd.prog 12 #[.agg #[.string t, .slice A1 l1.length c1, .slice A2 l2.length c2], .agg #[.string t, .slice B1 l1.length d1, .slice B2 l2.length d2]] W fun e w' => e = .returned (.bool true) ∧ Below W.heap.size W w' :=
  spec_Same.calls (l1.length + l2.length + 1) t A1 c1 l1 A2 c2 l2 t B1 d1 l1 B2 d2 l2 true W r1.2 r1.1 r2.2 r2.1 q1.2 q1.1 q2.2 q2.1 (by
    unfold spec_Same.f
    rw [if_pos rfl, sameSigs_f l1 (by omega) _ (by omega), sameSigs_f l2 (by omega) _ (by omega)]
    rfl)
/-- Rows that are read, with a length of their own. -/
abbrev Rd37 (W : World) (A : Option Addr) (n c : Nat) (l : List S37) : Prop := l.length = n ∧ n ≤ c ∧ Kd.C k37 W A n l
theorem Rd37.of {W : World} {B e : Nat} {ok : Nat → Prop} {A : Option Addr} {n c : Nat} {l : List S37} (h : Kd.R k37 e W B ok (.slice A n c) l) (hn : l.length = n) : Rd37 W A n c l := by
  subst hn
  exact ⟨rfl, (Kd.R_reads' h).2⟩
theorem Rd37.below {w W : World} {A : Option Addr} {n c : Nat} {l : List S37} (h : Rd37 w A n c l) (hb : Below w.heap.size w W) : Rd37 W A n c l := ⟨h.1, h.2.1, Kd.C_below h.2.2 hb⟩
theorem convR (t : ByteArray) (l1 l2 : List S75) (h1 : l1.length ≤ 1000000) (h2 : l2.length ≤ 1000000) (A1 : Option Addr) (c1 : Nat) (A2 : Option Addr) (c2 : Nat) (W : World) (r1 : l1.length ≤ c1 ∧ Kd.C k75 W A1 l1.length l1) (r2 : l2.length ≤ c2 ∧ Kd.C k75 W A2 l2.length l2) :
    Calls Tryd.prog 13 #[.agg #[.string t, .slice A1 l1.length c1, .slice A2 l2.length c2]] W fun e w' => ∃ B1 b1 B2 b2, e = .returned (.agg #[.string t, .slice B1 l1.length b1, .slice B2 l2.length b2]) ∧ Rd37 w' B1 l1.length b1 (l1.map s37) ∧ Rd37 w' B2 l2.length b2 (l2.map s37) ∧ Below W.heap.size W w' := by
  refine (convC t l1 l2 h1 h2 A1 c1 A2 c2 W r1 r2).mono ?_
  rintro e w' ⟨v1, v2, rfl, q1, q2, hb⟩
  obtain ⟨B1, b1, rfl⟩ := Kd.R_slice q1
  obtain ⟨B2, b2, rfl⟩ := Kd.R_slice q2
  rw [List.length_map] at q1 q2 ⊢
  rw [List.length_map]
  exact ⟨B1, b1, B2, b2, rfl, .of q1 (List.length_map _), .of q2 (List.length_map _), hb⟩
theorem sameR (t : ByteArray) (l1 l2 : List S37) (n1 n2 : Nat) (h1 : n1 ≤ 1000000) (h2 : n2 ≤ 1000000) {A1 : Option Addr} {c1 : Nat} {A2 : Option Addr} {c2 : Nat} {B1 : Option Addr} {d1 : Nat} {B2 : Option Addr} {d2 : Nat} (W : World)
    (r1 : Rd37 W A1 n1 c1 l1) (r2 : Rd37 W A2 n2 c2 l2) (q1 : Rd37 W B1 n1 d1 l1) (q2 : Rd37 W B2 n2 d2 l2) :
    Calls Tryd.prog 12 #[.agg #[.string t, .slice A1 n1 c1, .slice A2 n2 c2], .agg #[.string t, .slice B1 n1 d1, .slice B2 n2 d2]] W fun e w' => e = .returned (.bool true) ∧ Below W.heap.size W w' := by
  obtain ⟨rfl, r1⟩ := r1
  obtain ⟨rfl, r2⟩ := r2
  exact sameC t l1 l2 h1 h2 A1 c1 A2 c2 B1 d1 B2 d2 W r1 r2 q1.2 q2.2
end Go.Proofs.YtkbegfihdpiacaaDoor.PX

namespace Go.Proofs.YtkbegfihdpiacaaDoor.PX
open Go.RowKit Nt Go.Lib Go.Maps Go.Proofs.YtkbegfihdpiacaaDoorW.PrintWords Go.Proofs.YtkbegfihdpiacaaDoorW.PrintLast
set_option linter.unusedVariables false
set_option linter.unusedSimpArgs false
theorem outM_len (t : ByteArray) (o : ORes) (h : ∀ s u, o = .ok s u → s.length ≤ 1000000 ∧ u.length ≤ 1000000) : (outM t o).2.1.length ≤ 1000000 ∧ (outM t o).2.2.1.length ≤ 1000000 := by
  cases o with
  | bad => exact ⟨by show 0 ≤ _; omega, by show 0 ≤ _; omega⟩
  | inv nm g => exact ⟨by show 1 ≤ _; omega, by show 0 ≤ _; omega⟩
  | ok s u =>
    obtain ⟨h1, h2⟩ := h s u rfl
    cases s with
    | nil => exact ⟨by show 0 ≤ _; omega, by unfold outM; simpa using h2⟩
    | cons x s => exact ⟨by unfold outM; simpa using h1, by unfold outM; simpa using h2⟩
/-- What the two make of a message, where the reference tells something. -/
theorem told_out {ks : List S34} {l : List UInt8} {r1 : ByteArray} {r2 r3 : List S37} {r4 : Int} (h : ((r1, r2, r3, r4, true) : ByteArray × List S37 × List S37 × Int × Bool) = resD (openM ks l).1 (openM ks l).2)
    (hcnt : ∀ i, lastN l l.length = some i → l[l.length - 1]? = some 10 → (linesD (l.drop (i + 2))).length ≤ 100) :
    ∃ (p1 p2 : List S75), outM (openM ks l).1 (openM ks l).2 = (r1, p1, p2, r4) ∧ r2 = p1.map s37 ∧ r3 = p2.map s37 ∧ p1.length ≤ 1000000 ∧ p2.length ≤ 1000000 := by
  obtain ⟨e4, e1, e2, e3⟩ := out_res (openM ks l).1 (openM ks l).2
  obtain ⟨g1, g2⟩ := outM_len (openM ks l).1 (openM ks l).2 (openM_len ks l hcnt)
  rw [← h] at e1 e2 e3 e4
  exact ⟨_, _, Prod.ext e1 (Prod.ext rfl (Prod.ext rfl e4)), e2.symm, e3.symm, g1, g2⟩
/-- What Open of the entry points leaves, read. -/
abbrev IORd (W : World) (t : ByteArray) (p1 p2 : List S75) (k : Int) (e : Ending) (w' : World) : Prop :=
  ∃ E1 e1 E2 e2, e = .returned (.tuple #[.agg #[.string t, .slice E1 p1.length e1, .slice E2 p2.length e2], .int .i64 k]) ∧ (p1.length ≤ e1 ∧ Kd.C k75 w' E1 p1.length p1) ∧ (p2.length ≤ e2 ∧ Kd.C k75 w' E2 p2.length p2) ∧ Below W.heap.size W w'
theorem IOPost.rd {W : World} {t : ByteArray} {p1 p2 : List S75} {k : Int} {e : Ending} {w' : World} (h : IOPost W (t, p1, p2, k) e w') : IORd W t p1 p2 k e w' := by
  obtain ⟨v1, v2, rfl, hq1, hq2, hb⟩ := h
  obtain ⟨E1, e1, rfl⟩ := Kd.R_slice hq1
  obtain ⟨E2, e2, rfl⟩ := Kd.R_slice hq2
  exact ⟨E1, e1, E2, e2, rfl, (Kd.R_reads' hq1).2, (Kd.R_reads' hq2).2, hb⟩
theorem bs6 {w W : World} {g g' : Nat} {x0 x1 x2 y0 y1 y2 : Value} (hb : Below w.heap.size w W) (h0 : w.cell? ⟨g, 0, none⟩ = some x0) (h1 : w.cell? ⟨g, 1, none⟩ = some x1) (h2 : w.cell? ⟨g, 2, none⟩ = some x2) (k0 : w.cell? ⟨g', 0, none⟩ = some y0) (k1 : w.cell? ⟨g', 1, none⟩ = some y1) (k2 : w.cell? ⟨g', 2, none⟩ = some y2) :
    Below w.heap.size w W ∧ W.cell? ⟨g, 0, none⟩ = some x0 ∧ W.cell? ⟨g, 1, none⟩ = some x1 ∧ W.cell? ⟨g, 2, none⟩ = some x2 ∧ W.cell? ⟨g', 0, none⟩ = some y0 ∧ W.cell? ⟨g', 1, none⟩ = some y1 ∧ W.cell? ⟨g', 2, none⟩ = some y2 :=
  ⟨hb, pw_cell_below hb h0, pw_cell_below hb h1, pw_cell_below hb h2, pw_cell_below hb k0, pw_cell_below hb k1, pw_cell_below hb k2⟩
end Go.Proofs.YtkbegfihdpiacaaDoor.PX

namespace Go.Proofs.YtkbegfihdpiacaaDoor.PX
open Go.RowKit Nt Go.Lib Go.Maps Go.Proofs.YtkbegfihdpiacaaDoorW.PrintWords Go.Proofs.YtkbegfihdpiacaaDoorW.PrintLast
set_option linter.unusedVariables false
set_option linter.unusedSimpArgs false
theorem find_more (ks : List S34) (k : S34) (nm : ByteArray) (h : Int) (hne : ¬ (k.f0 = nm ∧ k.f1 = h)) : findS (ks ++ [k]) nm h = findS ks nm h := by
  unfold findS
  rw [List.find?_append]
  have : List.find? (fun x : S34 => decide (x.f0 = nm) && decide (x.f1 = h)) [k] = none := by
    rw [List.find?_eq_none]
    intro x hx
    obtain rfl := List.mem_singleton.1 hx
    simp only [Bool.and_eq_true, decide_eq_true_eq]
    exact hne
  rw [this, Option.or_none]
/-- The signature of a line. -/
def sgOf (l : List UInt8) : S118 := ⟨S (lineD l).1, ((lineD l).2.1 : Int), S (lineD l).2.2.1⟩
theorem openL_more (ks : List S34) (k : S34) (text : ByteArray) : ∀ (lines : List (List UInt8)) (seen : List (ByteArray × Int)) (sigs unv : List S118), (∀ l ∈ lines, ¬ (k.f0 = (sgOf l).f0 ∧ k.f1 = (sgOf l).f1)) → openL (ks ++ [k]) text lines seen sigs unv = openL ks text lines seen sigs unv
  | [], seen, sigs, unv, _ => rfl
  | l :: ls, seen, sigs, unv, h => by
    have ih := fun a b c => openL_more ks k text ls a b c fun x hx => h x (List.mem_cons_of_mem _ hx)
    have hf := find_more ks k (S (lineD l).1) ((lineD l).2.1 : Int) (h l (List.mem_cons_self ..))
    rw [openL, openL, hf]
    simp only [ih]
/-- Without keys each line's signature is told. -/
theorem openL_none (text : ByteArray) : ∀ (lines : List (List UInt8)) (seen : List (ByteArray × Int)) (sigs unv s u : List S118), openL [] text lines seen sigs unv = .ok s u → (∀ x ∈ unv, x ∈ u) ∧ ∀ l ∈ lines, sgOf l ∈ u
  | [], seen, sigs, unv, s, u, h => by
    rw [openL] at h
    injection h with _ h
    subst h
    exact ⟨fun x hx => hx, fun l hl => by cases hl⟩
  | l :: ls, seen, sigs, unv, s, u, h => by
    rw [openL] at h
    split at h
    · cases h
    · rw [show findS [] (S (lineD l).1) ((lineD l).2.1 : Int) = none from rfl] at h
      simp only at h
      split at h
      · rename_i hin
        obtain ⟨h1, h2⟩ := openL_none text ls _ _ _ _ _ h
        refine ⟨h1, fun x hx => ?_⟩
        rcases List.mem_cons.1 hx with rfl | hx
        · exact h1 _ hin
        · exact h2 x hx
      · obtain ⟨h1, h2⟩ := openL_none text ls _ _ _ _ _ h
        refine ⟨fun x hx => h1 x (List.mem_append_left _ hx), fun x hx => ?_⟩
        rcases List.mem_cons.1 hx with rfl | hx
        · exact h1 _ (List.mem_append_right _ (List.mem_singleton.2 rfl))
        · exact h2 x hx
theorem openL_noinv (text : ByteArray) : ∀ (lines : List (List UInt8)) (seen : List (ByteArray × Int)) (sigs unv : List S118) (nm : ByteArray) (h : Int), openL [] text lines seen sigs unv ≠ .inv nm h
  | [], seen, sigs, unv, nm, h => by rw [openL]; intro e; cases e
  | l :: ls, seen, sigs, unv, nm, h => by
    rw [openL]
    split
    · intro e; cases e
    · rw [show findS [] (S (lineD l).1) ((lineD l).2.1 : Int) = none from rfl]
      simp only
      split
      · exact openL_noinv text ls _ _ _ nm h
      · exact openL_noinv text ls _ _ _ nm h
theorem openM_more (ks : List S34) (k : S34) (l : List UInt8) (s u : List S118) (h : (openM [] l).2 = .ok s u) (hu : ∀ x ∈ u, ¬ (x.f0 = k.f0 ∧ x.f1 = k.f1)) : openM (ks ++ [k]) l = openM ks l := by
  unfold openM at h ⊢
  by_cases hp : plainD l = true
  · rw [if_pos hp] at h ⊢
    rw [if_pos hp]
    cases hlast : lastN l l.length with
    | none => rfl
    | some i =>
      rw [hlast] at h
      simp only at h ⊢
      by_cases hd : l.drop (i + 2) = []
      · rw [if_pos hd, if_pos hd]
      · rw [if_neg hd] at h ⊢
        rw [if_neg hd]
        by_cases h10 : l[l.length - 1]? = some 10
        · rw [if_pos h10] at h ⊢
          rw [if_pos h10]
          have h2 := (openL_none _ _ _ _ _ _ _ h).2
          rw [openL_more ks k _ _ _ _ _ fun x hx e => hu _ (h2 x hx) ⟨e.1.symm, e.2.symm⟩]
        · rw [if_neg h10, if_neg h10]
  · rw [if_neg hp, if_neg hp]
end Go.Proofs.YtkbegfihdpiacaaDoor.PX

namespace Go.Proofs.YtkbegfihdpiacaaDoor.PX
open Go.RowKit Nt Go.Lib Go.Maps Go.Proofs.YtkbegfihdpiacaaDoorW.PrintWords Go.Proofs.YtkbegfihdpiacaaDoorW.PrintLast
set_option linter.unusedVariables false
set_option linter.unusedSimpArgs false
/-- A kind whose elements are read in one world. -/
def kfix {α : Type} (d : Kd α) (w0 : World) : Kd α where
  sz := d.sz
  E := []
  K := fun _ x cs => d.K w0 x cs
  M := fun _ _ _ x cs => d.K w0 x cs
  K_len := d.K_len
  K_one := d.K_one
  K_below := fun _ h => h
  K_of_M := fun h => h
  M_mono := fun _ h => h
  M_bound := fun h => h
  M_move := fun _ h => h
  M_lower := fun _ h => h
theorem kfix_C {α : Type} {d : Kd α} {w0 W : World} (hb : Below w0.heap.size w0 W) {A : Option Addr} {n : Nat} {xs : List α} (h : (kfix d w0).C W A n xs) : d.C W A n xs := by
  obtain ⟨h1, h2, h3⟩ := h
  refine ⟨h1, h2, fun hp => ?_⟩
  obtain ⟨ad, e, hc⟩ := h3 hp
  refine ⟨ad, e, fun j p hj => ?_⟩
  obtain ⟨c, hl, hK, hcell⟩ := hc j p hj
  exact ⟨c, hl, d.K_below hb hK, hcell⟩
theorem infoK (w : World) : (Tryd.prog.info? 34).map (fun i => (i.zero, i.size, i.bytes)) = some (some (.agg #[(.string ⟨#[]⟩), (.int .u32 0), (.slice none 0 0), (.slice none 0 0)]), (kfix k34 w).sz, 72) := by kernel_rfl
theorem nilC (w : World) : Kd.string.C w none 0 [] := ⟨rfl, by decide, fun h => absurd h (by decide)⟩
theorem resD_nil {t : ByteArray} {l : List UInt8} (r : Res) (h : r = resD t (openM [] l).2) (h1 : r.2.2.2.1 ≠ 1) : ∃ s u, (openM [] l).2 = .ok s u ∧ r.2.2.1 = u.map sig37 := by
  subst h
  cases ho : (openM [] l).2 with
  | bad => rw [ho] at h1; exact absurd rfl h1
  | inv nm g =>
    exfalso
    unfold openM at ho
    split at ho
    · split at ho
      · cases ho
      · split at ho
        · cases ho
        · split at ho
          · exact openL_noinv _ _ _ _ _ _ _ ho
          · cases ho
    · cases ho
  | ok s u => exact ⟨s, u, rfl, by cases s <;> rfl⟩
theorem GoodK.less {ks : List S34} {k : S34} (h : GoodK (ks ++ [k])) : GoodK ks := by
  obtain ⟨h1, h2, h3⟩ := h
  refine ⟨fun i j x y hij hx hy => h1 i j x y hij ?_ ?_, by rw [List.length_append] at h2; simp at h2; omega, fun x hx => h3 x (List.mem_append_left _ hx)⟩
  · rw [List.getElem?_append_left (List.getElem?_eq_some_iff.1 hx).1]; exact hx
  · rw [List.getElem?_append_left (List.getElem?_eq_some_iff.1 hy).1]; exact hy
abbrev FrM (l : ByteArray) (A0 : Option Addr) (n0 c0 : Nat) (nm : ByteArray) (h : Int) (kd : Int) (A5 : Option Addr) (n5 c5 : Nat) (D : Option Addr) (nD cD : Nat) (i : Int) : List (Nat × Value) :=
  [(0, .string l), (1, .slice A0 n0 c0), (2, .string nm), (3, .int .u32 h), (10, .int .i64 kd), (12, .slice A5 n5 c5), (78, .slice D nD cD), (79, .int .i64 (nD : Int)), (80, .int .i64 i)]
def MI (W : World) (q3 : List S37) (l : ByteArray) (A0 : Option Addr) (n0 c0 : Nat) (nm : ByteArray) (h : Int) (kd : Int) (A5 : Option Addr) (n5 c5 : Nat) (D : Option Addr) (cD : Nat) (a : Act) (w : World) : Prop :=
  ∃ i : Nat, i ≤ q3.length ∧ FrN 122 (FrM l A0 n0 c0 nm h kd A5 n5 c5 D q3.length cD (i : Int)) a ∧ Below W.heap.size W w ∧ ∀ x ∈ q3.take i, ¬ (x.f0 = nm ∧ x.f1 = h)
def Mmu (L : Nat) (a : Act) (_ : World) : Nat := L - (intOf (a.tmps.getD 80 undef)).toNat
set_option maxRecDepth 100000 in
def litM (g : Nat → Value) : Array Value := #[g 0, g 1, g 2, g 3, g 4, g 5, g 6, g 7, g 8, g 9, g 10, g 11, g 12, g 13, g 14, g 15, g 16, g 17, g 18, g 19, g 20, g 21, g 22, g 23, g 24, g 25, g 26, g 27, g 28, g 29, g 30, g 31, g 32, g 33, g 34, g 35, g 36, g 37, g 38, g 39, g 40, g 41, g 42, g 43, g 44, g 45, g 46, g 47, g 48, g 49, g 50, g 51, g 52, g 53, g 54, g 55, g 56, g 57, g 58, g 59, g 60, g 61, g 62, g 63, g 64, g 65, g 66, g 67, g 68, g 69, g 70, g 71, g 72, g 73, g 74, g 75, g 76, g 77, g 78, g 79, g 80, g 81, g 82, g 83, g 84, g 85, g 86, g 87, g 88, g 89, g 90, g 91, g 92, g 93, g 94, g 95, g 96, g 97, g 98, g 99, g 100, g 101, g 102, g 103, g 104, g 105, g 106, g 107, g 108, g 109, g 110, g 111, g 112, g 113, g 114, g 115, g 116, g 117, g 118, g 119, g 120, g 121]
set_option maxRecDepth 100000 in
theorem range122 (g : Nat → Value) : (List.range 122).map g = (litM g).toList := by rfl
set_option maxRecDepth 100000 in
set_option maxHeartbeats 4000000 in
theorem fnMoreKeys_any (w : World) (l : List UInt8) (A0 : Option Addr) (c0 : Nat) (ks : List S34) (eM : Value) (nm : ByteArray) (h : Int) (hwf : (Lit.int .u32 h).wf = true) (H : LW w A0 c0 ks eM) :
    Calls Tryd.prog 3 #[.string (S l), .slice A0 ks.length c0, .string nm, .int .u32 h] w fun e w' => e = .returned (.bool true) ∧ Below w.heap.size w w' := by
  have HH := Lib.hid H
  clear H
  have HWF := Lib.hid hwf
  clear hwf
  obtain ⟨bf, hbf, hcf⟩ := HH.out.fits
  have HF := Lib.hid hcf
  clear hcf
  by_cases hl : l.length ≤ 2147483647
  · have c1 : decide (2147483647 < ((S l).size : Int)) = false := by rw [S_sz]; exact decide_eq_false (by omega)
    have HL := Lib.hid hl
    clear hl
    cases bf with
    | false =>
      go_enter Tryd.func3, Tryd.ntmps3
      go_wp2_with (go_at_call 7; refine (HF.out _ (Below.refl _ _)).mono ?_; rintro e w1 ⟨rfl, hb1⟩)
      go_ret
      exact ⟨rfl, hb1⟩
    | true =>
      have FK := Lib.hid (hbf rfl)
      clear hbf
      by_cases hns : nm.size ≤ 2147483647
      · have c2 : decide (2147483647 < (nm.size : Int)) = false := decide_eq_false (by omega)
        have HNS := Lib.hid hns
        clear hns
        obtain ⟨r1, r2, r3, r4, r5, hres, hop⟩ := LW.sopen FK.out l HL.out
        have HOP := Lib.hid hop
        have HRES := Lib.hid hres
        obtain ⟨q1, q2, q3, q4, q5, hres0, hop0⟩ := LW.sopen (ks := []) ⟨by decide, fun x hx => by cases hx⟩ l HL.out
        have hop0' : ∀ W, Calls Tryd.prog 8 #[.string (S l), .slice none 0 0] W fun e w' => ∃ v1 v2 : Value, e = .returned (.tuple #[.agg #[.string q1, v1, v2], .int .i64 q4, .bool q5]) ∧ Kd.R k37 37 w' W.heap.size (fun _ => True) v1 q2 ∧ Kd.R k37 37 w' W.heap.size (fun _ => True) v2 q3 ∧ Below W.heap.size W w' := fun W => hop0 W none 0 ⟨rfl, by decide, fun h => absurd h (by decide)⟩ (Nat.le_refl _)
        have HOP0 := Lib.hid hop0'
        have HRES0 := Lib.hid hres0
        obtain ⟨mk, hmk⟩ : ∃ mk, mk = ks ++ [(⟨nm, h, [], []⟩ : S34)] := ⟨_, rfl⟩
        have hml : mk.length ≤ 3000000000 := by rw [hmk, List.length_append]; have := FK.out.1; simp; omega
        obtain ⟨bg, hbg, hgd⟩ := LW.good hml
        have HG := Lib.hid hgd
        have HML := Lib.hid hml
        have HMK := Lib.hid hmk
        clear hop hres hgd hop0 hop0' hres0 hml hmk
        go_enter Tryd.func3, Tryd.ntmps3
        go_upto_region 4 with (first
          | (go_at_call 7; with_reducible refine (HF.out _ (Below.refl _ _)).mono ?_; rintro e w1 ⟨rfl, hb1⟩; have H1 := Lib.hid (HH.out.below hb1); have B1 := Lib.hid hb1; clear hb1)
          | (go_at_call 9; with_reducible refine (H1.out.keys FK.out.few).mono ?_; rintro e w2 ⟨A2, c2, rfl, hc2, hC2, hb2⟩; have HC2 := Lib.hid hC2; have B2 := Lib.hid (B1.out.trans (hb2.mono B1.out.size)); clear hC2 hb2)
          | (go_at_call 8; with_reducible refine (HOP.out _ _ _ HC2.out hc2).mono ?_; rintro e w3 ⟨v1, v2, rfl, hr1, hr2, hb3⟩; obtain ⟨D1, d1, rfl⟩ := Kd.R_slice hr1; obtain ⟨D2, d2, rfl⟩ := Kd.R_slice hr2; have B3 := Lib.hid (B2.out.trans (hb3.mono B2.out.size)); clear hr1 hr2 hb3)
          | fail)
        have hB3 := B3.out.alloc B3.out.size (.cells #[.string r1, .slice D1 r2.length d1, .slice D2 r3.length d2] 27)
        generalize w3.alloc (.cells #[.string r1, .slice D1 r2.length d1, .slice D2 r3.length d2] 27) = W3 at *
        generalize w3.heap.size = g9 at *
        have B3' := Lib.hid hB3
        clear hB3 B3 HC2 hc2 H1 B1 B2 HOP
        go_upto_region 5 with (first
          | (at_builtin; refine Kd.R_append_rows (kfix k34 w) (w0 := w) w.heap.size rfl _ _ 22 34 _ 72 rfl Tryd.underlying22 (infoK w) rfl (show 0 < k34.sz by decide) (by decide) (.slice (some ⟨W3.heap.size, 0, none⟩) 0 0) [] ks A0 ks.length c0 (fun _ => True) (fun _ => False) rfl rfl ⟨fun _ _ => trivial, OwnRow.lit (inner := []) W3 w.heap.size (Reps.none _ _) B3'.out.size (by simp)⟩ (Kd.C_below (d := kfix k34 w) HH.out.hk (B3'.out.alloc B3'.out.size _)) (fun x cs hx => hx) (fun _ h => h.elim) (fun _ _ => trivial) (B3'.out.alloc B3'.out.size _) (Nat.le_trans B3'.out.size (by simp)) (by have := FK.out.1; simp; omega) ?_; intro v4 w4 hr4 hb4 hg4 hat4; rw [List.nil_append] at hr4; obtain ⟨A4, c4, rfl⟩ := Kd.R_slice hr4; have HR4 := Lib.hid hr4; have B4 := Lib.hid hb4; clear hr4 hb4 hg4 hat4)
          | (at_builtin; refine Kd.R_append (kfix k34 w) (w0 := w) w.heap.size rfl _ _ 22 34 _ 72 rfl Tryd.underlying22 (infoK w) rfl (show 0 < k34.sz by decide) (by decide) (.slice A4 ks.length c4) ks (⟨nm, h, [], []⟩ : S34) [.string nm, .int .u32 h, .slice none 0 0, .slice none 0 0] (fun _ => True) (fun _ => False) rfl rfl (k34_mk w ⟨nm, h, [], []⟩ (A2 := none) (c2 := 0) (Nat.le_refl _) (nilC w) (A3 := none) (c3 := 0) (Nat.le_refl _) (nilC w)) (fun _ h => h.elim) (fun _ _ => trivial) HR4.out B4.out B4.out.size (by have := FK.out.1; omega) ?_; intro v5 w5 hr5 hb5 hg5 hat5; rw [← HMK.out] at hr5; obtain ⟨A5, c5, rfl⟩ := Kd.R_slice hr5; have HR5 := Lib.hid hr5; have B5 := Lib.hid hb5; clear hr5 hb5 hg5 hat5)
          | fail)
        have hrd := (Kd.R_reads' HR5.out).2
        have L5 := HH.out.below B5.out
        have M5 : Hid (LW w5 A5 c5 mk eM) := Lib.hid ⟨L5.hU, L5.hW, L5.hE, L5.heM, kfix_C B5.out hrd.2, hrd.1, fun x hx => by
          rw [HMK.out] at hx
          rcases List.mem_append.1 hx with hx | hx
          · exact HH.out.wf x hx
          · obtain rfl := List.mem_singleton.1 hx; exact HWF.out⟩
        clear hrd L5 HR5 HR4 B4 B3'
        go_upto_region 6 with (first
          | (go_at_call 8; with_reducible refine (HOP0.out _).mono ?_; rintro e w6 ⟨v1, v2, rfl, hr1, hr2, hb6⟩; obtain ⟨G1, f1, rfl⟩ := Kd.R_slice hr1; obtain ⟨G2, f2, rfl⟩ := Kd.R_slice hr2; have B6 := Lib.hid hb6; have HD := Lib.hid (Kd.R_reads' hr2).2; clear hr1 hr2 hb6)
          | fail)
        have hs6 := (Below.refl w6.heap.size w6).alloc (Nat.le_refl _) (.cells #[.string q1, .slice G1 q2.length f1, .slice G2 q3.length f2] 27)
        have hx6 := heap_alloc_new w6 (.cells #[.string q1, .slice G1 q2.length f1, .slice G2 q3.length f2] 27)
        have hT6 := B6.out.trans (hs6.mono B6.out.size)
        have hd6 := Kd.C_below HD.out.2 hs6
        generalize w6.alloc (.cells #[.string q1, .slice G1 q2.length f1, .slice G2 q3.length f2] 27) = W6 at *
        generalize w6.heap.size = g13 at *
        have HX6 := Lib.hid hx6
        have M6 := Lib.hid (M5.out.below hT6)
        have B6' := Lib.hid (B5.out.trans (hT6.mono B5.out.size))
        have HD6 := Lib.hid hd6
        have L6 := Lib.hid (HH.out.below B6'.out)
        clear hs6 hx6 hT6 hd6 HD B6 M5 B5 HOP0
        cases r5 with
        | false =>
          go_wp2_with fail
          go_ret
          exact ⟨rfl, B6'.out⟩
        | true =>
          cases q5 with
          | false =>
            go_wp2_with fail
            go_ret
            exact ⟨rfl, B6'.out⟩
          | true =>
            by_cases hq4 : q4 = 1
            · have t4 : (q4 == 1) = true := by rw [hq4]; rfl
              clear hq4
              go_wp2_with fail
              go_ret
              exact ⟨rfl, B6'.out⟩
            · have t4 : (q4 == 1) = false := beq_eq_false_iff_ne.2 hq4
              cases bg with
              | false =>
                go_wp2_with (first
                  | (go_at_call 9; with_reducible refine (M6.out.keys HML.out).mono ?_; rintro e w7 ⟨A7, c7, rfl, hc7, hC7, hb7⟩; have HC7 := Lib.hid hC7; have B7 := Lib.hid hb7; clear hC7 hb7)
                  | (go_at_call 10; with_reducible refine (HG.out _ _ _ HC7.out hc7).mono ?_; rintro e w8 ⟨rfl, hb8⟩; have B8 := Lib.hid (B7.out.trans (hb8.mono B7.out.size)); clear hb8)
                  | fail)
                go_ret
                exact ⟨rfl, B6'.out.trans (B8.out.mono B6'.out.size)⟩
              | true =>
                have HGM := Lib.hid (hbg rfl)
                clear hbg
                by_cases hr4 : r4 = 2
                · have t5 : (r4 == 2) = true := by rw [hr4]; rfl
                  clear hr4 hq4
                  go_wp2_with (first
                    | (go_at_call 9; with_reducible refine (M6.out.keys HML.out).mono ?_; rintro e w7 ⟨A7, c7, rfl, hc7, hC7, hb7⟩; have HC7 := Lib.hid hC7; have B7 := Lib.hid hb7; clear hC7 hb7)
                    | (go_at_call 10; with_reducible refine (HG.out _ _ _ HC7.out hc7).mono ?_; rintro e w8 ⟨rfl, hb8⟩; have B8 := Lib.hid (B7.out.trans (hb8.mono B7.out.size)); clear hb8)
                    | fail)
                  go_ret
                  exact ⟨rfl, B6'.out.trans (B8.out.mono B6'.out.size)⟩
                · have t5 : (r4 == 2) = false := beq_eq_false_iff_ne.2 hr4
                  have HQ4 := Lib.hid hq4
                  clear hr4 hq4
                  go_upto_region 8 with (first
                    | (go_at_call 9; with_reducible refine (M6.out.keys HML.out).mono ?_; rintro e w7 ⟨A7, c7, rfl, hc7, hC7, hb7⟩; have HC7 := Lib.hid hC7; have B7 := Lib.hid hb7; clear hC7 hb7)
                    | (go_at_call 10; with_reducible refine (HG.out _ _ _ HC7.out hc7).mono ?_; rintro e w8 ⟨rfl, hb8⟩; have B8 := Lib.hid (B7.out.trans (hb8.mono B7.out.size)); clear hb8)
                    | fail)
                  obtain ⟨-, -, k2, -, -, -⟩ := three ((B8.out.block _ (blk_lt HX6.out)).trans HX6.out)
                  have L8 := Lib.hid (L6.out.below B8.out)
                  have M8 := Lib.hid (M6.out.below B8.out)
                  have D8 := Lib.hid (Kd.C_below HD6.out B8.out)
                  have B8' := Lib.hid (B6'.out.trans (B8.out.mono B6'.out.size))
                  clear L6 M6 HD6 B8 B6' HX6 HC7 hc7 B7
                  go_upto_block 0 with fail
                  have hmax := D8.out.2.1
                  refine wp_block ?_
                  refine wp_loop (MI w8 q3 (S l) A0 ks.length c0 nm h r4 A5 mk.length c5 G2 f2) (Mmu q3.length) ⟨0, Nat.zero_le _, ⟨rfl, rfl, by repeat (first | exact ks_nil _ | refine ks_cons rfl ?_)⟩, Below.refl _ _, fun x hx => by simp at hx⟩ ?_
                  clear k2
                  rintro a wr ⟨i, hi, hF, hb, hno⟩
                  have HB := Lib.hid hb
                  have HNO := Lib.hid hno
                  clear hb hno
                  obtain ⟨g, rfl, hg⟩ := hF.lit range122
                  clear hF
                  simp only [List.forall_mem_cons] at hg
                  obtain ⟨k0, k1, k2, k3, k10, k12, k78, k79, k80, -⟩ := hg
                  unfold litM
                  simp only [k0, k1, k2, k3, k10, k12, k78, k79, k80]
                  clear k0 k1 k2 k3 k10 k12 k78 k79 k80
                  by_cases hlt : i < q3.length
                  · have h1 : decide ((i : Int) < (q3.length : Int)) = true := decide_eq_true (by omega)
                    have hii : (i : Int) < (q3.length : Int) := by omega
                    obtain ⟨ad, rfl, x0, x1, x2⟩ := at_T37 D8.out (i : Int) (by omega) hii
                    rw [rd37 q3 i hlt, Int.toNat_natCast] at x0 x1 x2
                    have HXI := Lib.hid (show q3[i] ∈ q3 ∧ q3.take (i + 1) = q3.take i ++ [q3[i]] from ⟨List.getElem_mem hlt, List.take_succ_eq_append_getElem hlt⟩)
                    generalize q3[i] = x at *
                    replace x0 := pw_cell_below HB.out x0
                    replace x1 := pw_cell_below HB.out x1
                    replace x2 := pw_cell_below HB.out x2
                    by_cases e1 : x.f0 = nm
                    · have t1 : (x.f0.toList == nm.toList) = true := by rw [e1]; simp
                      by_cases e2 : x.f1 = h
                      · have t2 : (x.f1 == h) = true := by rw [e2]; simp
                        clear e1 e2
                        go_wp2_with fail
                        go_ret
                        exact ⟨rfl, (B8'.out.trans (HB.out.mono B8'.out.size)).alloc (Nat.le_trans B8'.out.size HB.out.size) _⟩
                      · have t2 : (x.f1 == h) = false := beq_eq_false_iff_ne.2 e2
                        have HNE := Lib.hid e2
                        clear e1 e2
                        go_wp2_with fail
                        exact ⟨⟨i + 1, by omega, ⟨rfl, rfl, by repeat (first | exact ks_nil _ | refine ks_cons (by first | rfl | exact congrArg (Value.int .i64) (Int.natCast_add i 1).symm) ?_)⟩, HB.out.alloc HB.out.size _, fun y hy => by
                          rw [HXI.out.2] at hy
                          rcases List.mem_append.1 hy with hy | hy
                          · exact HNO.out y hy
                          · rw [List.mem_singleton.1 hy]; exact fun e => HNE.out e.2⟩, by show q3.length - ((i : Int) + 1).toNat < q3.length - (i : Int).toNat; omega⟩
                    · have t1 : (x.f0.toList == nm.toList) = false := beq_eq_false_iff_ne.2 fun e => e1 ((tl_eq _ _).1 e)
                      have HNE := Lib.hid e1
                      clear e1
                      go_wp2_with fail
                      exact ⟨⟨i + 1, by omega, ⟨rfl, rfl, by repeat (first | exact ks_nil _ | refine ks_cons (by first | rfl | exact congrArg (Value.int .i64) (Int.natCast_add i 1).symm) ?_)⟩, HB.out.alloc HB.out.size _, fun y hy => by
                        rw [HXI.out.2] at hy
                        rcases List.mem_append.1 hy with hy | hy
                        · exact HNO.out y hy
                        · rw [List.mem_singleton.1 hy]; exact fun e => HNE.out e.1⟩, by show q3.length - ((i : Int) + 1).toNat < q3.length - (i : Int).toNat; omega⟩
                  · have h1 : decide ((i : Int) < (q3.length : Int)) = false := decide_eq_false (by omega)
                    have h2 : decide (i < q3.length) = false := decide_eq_false hlt
                    have hall : ∀ x ∈ q3, ¬ (x.f0 = nm ∧ x.f1 = h) := fun x hx => HNO.out x (by rw [List.take_of_length_le (by omega)]; exact hx)
                    obtain ⟨s, u, ho, hq3⟩ := resD_nil (q1, q2, q3, q4, true) (HRES0.out (by trivial)).1 HQ4.out
                    have hmore := openM_more ks ⟨nm, h, [], []⟩ l s u ho (fun x hx => hall (sig37 x) (by
                      have : q3 = u.map sig37 := hq3
                      rw [this]; exact List.mem_map_of_mem hx))
                    rw [← HMK.out] at hmore
                    have HRS := Lib.hid (HRES.out (by trivial)).2
                    obtain ⟨p1, p2, hom, -, -, hp1, hp2⟩ := told_out (HRES.out (by trivial)).1 HRS.out
                    have hfm : FitK mk := ⟨by have := HGM.out.2.1; omega, fun x hx => by
                      rw [HMK.out] at hx
                      rcases List.mem_append.1 hx with hx | hx
                      · exact FK.out.2 x hx
                      · obtain rfl := List.mem_singleton.1 hx; exact ⟨HNS.out, Nat.zero_le _, Nat.zero_le _⟩⟩
                    have hio : ∀ W, LW W A0 c0 ks eM → Calls Tryd.prog 11 #[.string (S l), .slice A0 ks.length c0] W (IORd W r1 p1 p2 r4) := fun W hW => (hW.iopen FK.out (GoodK.less (HMK.out ▸ HGM.out)) l HL.out HRS.out).mono fun e w' hp => (hom ▸ hp : IOPost W (r1, p1, p2, r4) e w').rd
                    have hio2 : ∀ W, LW W A5 c5 mk eM → Calls Tryd.prog 11 #[.string (S l), .slice A5 mk.length c5] W (IORd W r1 p1 p2 r4) := fun W hW => (hW.iopen hfm HGM.out l HL.out HRS.out).mono fun e w' hp => (hom ▸ hmore ▸ hp : IOPost W (r1, p1, p2, r4) e w').rd
                    have HIO := Lib.hid hio
                    have HIO2 := Lib.hid hio2
                    have HP := Lib.hid (And.intro hp1 hp2)
                    clear hall ho hq3 hmore hom hp1 hp2 hfm hio hio2 HRES HRES0 HRS HNO HG hlt hi hmax t4 t5 c1 c2
                    go_upto_region 15 with (first
                      | (go_at_call 11; with_reducible refine (HIO.out _ (L8.out.below HB.out)).mono ?_; rintro e w9 ⟨E1, e1, E2, e2, rfl, hq1, hq2, hb9⟩; have T9 := Lib.hid (HB.out.trans (hb9.mono HB.out.size)); have HE1 := Lib.hid hq1; have HE2 := Lib.hid hq2; clear hq1 hq2 hb9)
                      | fail)
                    have hs := (Below.refl w9.heap.size w9).alloc (Nat.le_refl _) (.cells #[.string r1, .slice E1 p1.length e1, .slice E2 p2.length e2] 40)
                    have hx := heap_alloc_new w9 (.cells #[.string r1, .slice E1 p1.length e1, .slice E2 p2.length e2] 40)
                    have hT := T9.out.trans (hs.mono T9.out.size)
                    have hm1 := Kd.C_below HE1.out.2 hs
                    have hm2 := Kd.C_below HE2.out.2 hs
                    generalize w9.alloc (.cells #[.string r1, .slice E1 p1.length e1, .slice E2 p2.length e2] 40) = W9 at *
                    generalize w9.heap.size = g18 at *
                    have T9' := Lib.hid hT
                    have HX9 := Lib.hid hx
                    have HM1 := Lib.hid hm1
                    have HM2 := Lib.hid hm2
                    clear hs hx hT hm1 hm2 T9
                    go_upto_region 16 with (first
                      | (go_at_call 11; with_reducible refine (HIO2.out _ (M8.out.below T9'.out)).mono ?_; rintro e w10 ⟨F1, f1', F2, f2', rfl, hq1, hq2, hb10⟩; have T10 := Lib.hid hb10; have HF1 := Lib.hid hq1; have HF2 := Lib.hid hq2; clear hq1 hq2 hb10)
                      | fail)
                    have hs := (Below.refl w10.heap.size w10).alloc (Nat.le_refl _) (.cells #[.string r1, .slice F1 p1.length f1', .slice F2 p2.length f2'] 40)
                    have hx := heap_alloc_new w10 (.cells #[.string r1, .slice F1 p1.length f1', .slice F2 p2.length f2'] 40)
                    have hT := T10.out.trans (hs.mono T10.out.size)
                    have hn1 := Kd.C_below HF1.out.2 hs
                    have hn2 := Kd.C_below HF2.out.2 hs
                    generalize w10.alloc (.cells #[.string r1, .slice F1 p1.length f1', .slice F2 p2.length f2'] 40) = W10 at *
                    generalize w10.heap.size = g20 at *
                    obtain ⟨d0, d1', d2', -, -, -⟩ := three ((hT.block _ (blk_lt HX9.out)).trans HX9.out)
                    obtain ⟨j0, j1, j2, -, -, -⟩ := three hx
                    have B10 := Lib.hid ((B8'.out.trans (T9'.out.mono B8'.out.size)).trans (hT.mono (Nat.le_trans B8'.out.size T9'.out.size)))
                    have hcv : ∀ W, Below W10.heap.size W10 W → _ := fun W hW => convR r1 p1 p2 HP.out.1 HP.out.2 E1 e1 E2 e2 W ⟨HE1.out.1, Kd.C_below (Kd.C_below HM1.out hT) hW⟩ ⟨HE2.out.1, Kd.C_below (Kd.C_below HM2.out hT) hW⟩
                    have hcv2 : ∀ W, Below W10.heap.size W10 W → _ := fun W hW => convR r1 p1 p2 HP.out.1 HP.out.2 F1 f1' F2 f2' W ⟨HF1.out.1, Kd.C_below hn1 hW⟩ ⟨HF2.out.1, Kd.C_below hn2 hW⟩
                    have HCV := Lib.hid hcv
                    have HCV2 := Lib.hid hcv2
                    clear hs hx hT hn1 hn2 hcv hcv2 T9' T10 HX9 HM1 HM2 HE1 HE2 HF1 HF2 L8 M8 D8
                    go_region_held3 (fun W => Below W10.heap.size W10 W ∧ W.cell? ⟨g18, 0, none⟩ = some (.string r1) ∧ W.cell? ⟨g18, 1, none⟩ = some (.slice E1 p1.length e1) ∧ W.cell? ⟨g18, 2, none⟩ = some (.slice E2 p2.length e2) ∧ W.cell? ⟨g20, 0, none⟩ = some (.string r1) ∧ W.cell? ⟨g20, 1, none⟩ = some (.slice F1 p1.length f1') ∧ W.cell? ⟨g20, 2, none⟩ = some (.slice F2 p2.length f2'))
                      (first | exact bs6 (below_drew1 (Below.refl _ _)) d0 d1' d2' j0 j1 j2 | exact bs6 hq1 d0 d1' d2' j0 j1 j2 | exact bs6 hq2 d0 d1' d2' j0 j1 j2 | exact bs6 hq3 d0 d1' d2' j0 j1 j2 | fail)
                      (first
                        | (go_at_call 13; with_reducible refine (HCV.out _ (‹Below W10.heap.size W10 _ ∧ _›).1).mono ?_; rintro e w12 ⟨X1, y1, X2, y2, rfl, hx1, hx2, hb12⟩; have hq1 := (below_drew1 (Below.refl W10.heap.size W10)).trans (hb12.mono (below_drew1 (Below.refl W10.heap.size W10)).size))
                        | (go_at_call 13; with_reducible refine (HCV2.out _ hq1).mono ?_; rintro e w13 ⟨Y1, z1, Y2, z2, rfl, hy1, hy2, hb13⟩; have hq2 := hq1.trans (hb13.mono hq1.size); have hx3 := hx1.below hb13; have hx4 := hx2.below hb13)
                        | (go_at_call 12; with_reducible refine (sameR r1 (p1.map s37) (p2.map s37) p1.length p2.length HP.out.1 HP.out.2 _ hx3 hx4 hy1 hy2).mono ?_; rintro e w14 ⟨rfl, hb14⟩; have hq3 := hq2.trans (hb14.mono hq2.size)))
                    go_wp2_with fail
                    go_ret
                    exact ⟨rfl, B10.out.trans (hq3.mono B10.out.size)⟩
      · have c2 : decide (2147483647 < (nm.size : Int)) = true := decide_eq_true (by omega)
        clear hns
        go_enter Tryd.func3, Tryd.ntmps3
        go_wp2_with (go_at_call 7; refine (HF.out _ (Below.refl _ _)).mono ?_; rintro e w1 ⟨rfl, hb1⟩)
        go_ret
        exact ⟨rfl, hb1⟩
  · have c1 : decide (2147483647 < ((S l).size : Int)) = true := by rw [S_sz]; exact decide_eq_true (by omega)
    clear hl hbf
    go_enter Tryd.func3, Tryd.ntmps3
    go_wp2_with fail
    go_ret
    exact ⟨rfl, Below.refl _ _⟩
end Go.Proofs.YtkbegfihdpiacaaDoor.PX

namespace Go.Proofs.YtkbegfihdpiacaaDoor.PX
open Go.RowKit Go.Proofs.YtkbegfihdpiacaaDoorW.PrintWords Go.Proofs.YtkbegfihdpiacaaDoorW.PrintLast Go.Proofs.YtkbegfihdpiacaaDoorW.PrintMore
attribute [local go_sem] max2_int min2_int max_two min_two max_three min_three max_four min_four   -- for this text's walks alone
set_option linter.unusedVariables false
set_option linter.unusedSimpArgs false
mutual
def spec_Small.j0 : Nat → List (S83) → Bool → ByteArray → List (S37) → List (S37) → Option (Bool)
  | 0, _, _, _, _, _ => none
  | k + 1, x1, x29, x371000, x371001, x371002 => if x29 = true then (some false) else ((some (([] : List (S37)) : List (S37))).bind fun y371 => (if y371.length + x371001.length < 3518437208883 then ((some (y371 ++ x371001 : List (S37))).bind fun y374 => (if y374.length + x371002.length < 3518437208883 then ((some (y374 ++ x371002 : List (S37))).bind fun y377 => (spec_Small.l0 k x1 y377 (y377.length : Int) 0)) else (none))) else (none)))
def spec_Small.l0 : Nat → List (S83) → List (S37) → Int → Int → Option (Bool)
  | 0, _, _, _, _ => none
  | k + 1, x1, x36, x37, x38 => if x38 < x37 then (if 0 ≤ x38 then (if x38 < (x36.length : Int) then (if (((rd_T37 x36 x38).f0).size : Int) > 60 then (some false) else (if (((rd_T37 x36 x38).f2).size : Int) > 120 then (some false) else (spec_Small.l0 k x1 x36 x37 (wrap64 (x38 + 1))))) else (none)) else (none)) else (spec_Small.l1 k x1 (x1.length : Int) 0)
def spec_Small.l1 : Nat → List (S83) → Int → Int → Option (Bool)
  | 0, _, _, _ => none
  | k + 1, x53, x54, x55 => if x55 < x54 then (if 0 ≤ x55 then (if x55 < (x53.length : Int) then (if (((rd_T83 x53 x55).f0).size : Int) > 60 then (some false) else (if (((rd_T83 x53 x55).f2).size : Int) > 60 then (some false) else (spec_Small.l1 k x53 x54 (wrap64 (x55 + 1))))) else (none)) else (none)) else (some true)
end
def spec_Small.f (k : Nat) (a0_0 : ByteArray) (l0_1 : List (S37)) (l0_2 : List (S37)) (l1 : List (S83)) : Option (Bool) := if (a0_0.size : Int) > 2000 then (spec_Small.j0 k l1 true a0_0 l0_1 l0_2) else (if (l0_1.length : Int) > 8 then (spec_Small.j0 k l1 true a0_0 l0_1 l0_2) else (if (l0_2.length : Int) > 8 then (spec_Small.j0 k l1 true a0_0 l0_1 l0_2) else (spec_Small.j0 k l1 (decide ((l1.length : Int) > 8)) a0_0 l0_1 l0_2)))
theorem spec_Small.mono_l : ∀ k, (∀ y0 y1 y2 y3 y4, LeO (spec_Small.j0 k y0 y1 y2 y3 y4) (spec_Small.j0 (k + 1) y0 y1 y2 y3 y4)) ∧ (∀ y0 y1 y2 y3, LeO (spec_Small.l0 k y0 y1 y2 y3) (spec_Small.l0 (k + 1) y0 y1 y2 y3)) ∧ (∀ y0 y1 y2, LeO (spec_Small.l1 k y0 y1 y2) (spec_Small.l1 (k + 1) y0 y1 y2))
  | 0 => ⟨fun _ _ _ _ _ r h => by simp [spec_Small.j0] at h, fun _ _ _ _ r h => by simp [spec_Small.l0] at h, fun _ _ _ r h => by simp [spec_Small.l1] at h⟩
  | k + 1 => by
    obtain ⟨ih0, ih1, ih2⟩ := spec_Small.mono_l k
    refine ⟨?_, ?_, ?_⟩
    · intro y0 y1 y2 y3 y4
      unfold spec_Small.j0
      repeat' first
      | (with_reducible exact ih0 _ _ _ _ _)
      | (with_reducible exact ih1 _ _ _ _)
      | (with_reducible exact ih2 _ _ _)
      | (with_reducible exact LeO.refl _)
      | (with_reducible exact LeO.none _)
      | (with_reducible refine LeO.ite ?_ ?_)
      | (with_reducible refine LeO.bind ?_ (fun _ => ?_))
      | exact ih0 _ _ _ _ _
      | exact ih1 _ _ _ _
      | exact ih2 _ _ _
      | exact LeO.none _
      | refine LeO.ite ?_ ?_
      | refine LeO.bind ?_ (fun _ => ?_)
    · intro y0 y1 y2 y3
      unfold spec_Small.l0
      repeat' first
      | (with_reducible exact ih0 _ _ _ _ _)
      | (with_reducible exact ih1 _ _ _ _)
      | (with_reducible exact ih2 _ _ _)
      | (with_reducible exact LeO.refl _)
      | (with_reducible exact LeO.none _)
      | (with_reducible refine LeO.ite ?_ ?_)
      | (with_reducible refine LeO.bind ?_ (fun _ => ?_))
      | exact ih0 _ _ _ _ _
      | exact ih1 _ _ _ _
      | exact ih2 _ _ _
      | exact LeO.none _
      | refine LeO.ite ?_ ?_
      | refine LeO.bind ?_ (fun _ => ?_)
    · intro y0 y1 y2
      unfold spec_Small.l1
      repeat' first
      | (with_reducible exact ih0 _ _ _ _ _)
      | (with_reducible exact ih1 _ _ _ _)
      | (with_reducible exact ih2 _ _ _)
      | (with_reducible exact LeO.refl _)
      | (with_reducible exact LeO.none _)
      | (with_reducible refine LeO.ite ?_ ?_)
      | (with_reducible refine LeO.bind ?_ (fun _ => ?_))
      | exact ih0 _ _ _ _ _
      | exact ih1 _ _ _ _
      | exact ih2 _ _ _
      | exact LeO.none _
      | refine LeO.ite ?_ ?_
      | refine LeO.bind ?_ (fun _ => ?_)
theorem spec_Small.mono : ∀ a0 a1 a2 a3 k, LeO (spec_Small.f k a0 a1 a2 a3) (spec_Small.f (k + 1) a0 a1 a2 a3) := by
  intro a0 a1 a2 a3 k
  obtain ⟨ih0, ih1, ih2⟩ := spec_Small.mono_l k
  unfold spec_Small.f
  repeat' first
      | (with_reducible exact ih0 _ _ _ _ _)
      | (with_reducible exact ih1 _ _ _ _)
      | (with_reducible exact ih2 _ _ _)
      | (with_reducible exact LeO.refl _)
      | (with_reducible exact LeO.none _)
      | (with_reducible refine LeO.ite ?_ ?_)
      | (with_reducible refine LeO.bind ?_ (fun _ => ?_))
      | exact ih0 _ _ _ _ _
      | exact ih1 _ _ _ _
      | exact ih2 _ _ _
      | exact LeO.none _
      | refine LeO.ite ?_ ?_
      | refine LeO.bind ?_ (fun _ => ?_)
def spec_Small.B3 : List Nat := [0, 0, 2, 7, 0, 16, 63, 127, 0]
def stringslite_HasSuffix.f (a0 : ByteArray) (a1 : ByteArray) : Option (Bool) := if (a0.size : Int) ≥ (a1.size : Int) then (if 0 ≤ (wrap64 ((a0.size : Int) - (a1.size : Int))) then (if (wrap64 ((a0.size : Int) - (a1.size : Int))) ≤ (a0.size : Int) then (some ((a0.extract ((wrap64 ((a0.size : Int) - (a1.size : Int))) : Int).toNat a0.size).toList == a1.toList)) else (none)) else (none)) else (some false)
def strings_HasSuffix.f (a0 : ByteArray) (a1 : ByteArray) : Option (Bool) := (stringslite_HasSuffix.f a0 a1).bind fun t384 => (some t384)
/-- A state of type 131 at block g of W; what its slices lead to came in by w0. -/
def IsS131 (w0 W : World) (g : Nat) (f0 : List Int) (f1 : Int) (f2 : Int) : Prop := ∃ A0 c0, W.heap[g]? = some (.cells #[.slice A0 f0.length c0, .int .i64 f1, .int .i8 f2] 131 (0, 0)) ∧ w0.heap.size ≤ g ∧ Kd.C (Kd.int .u8) w0 A0 f0.length f0
theorem IsS131.grown {w0 W : World} {g : Nat} {f0 : List Int} {f1 : Int} {f2 : Int} {W1 : World} {row : Option Nat} (h : IsS131 w0 W g f0 f1 f2) (hw : W.grownBy W1 row) (hne : some g ≠ row) : IsS131 w0 W1 g f0 f1 f2 := by
  obtain ⟨A0, c0, hb, hg, hr0⟩ := h
  exact ⟨A0, c0, blk_grown hb hw hne, hg, hr0⟩
theorem IsS131.fresh {w0 W : World} {g : Nat} {f0 : List Int} {f1 : Int} {f2 : Int} (h : IsS131 w0 W g f0 f1 f2) : ∀ k, W.heap.size ≤ k → k ≠ g := by
  obtain ⟨A0, c0, hb, hg, hr0⟩ := h
  exact Kd.freshB hb
theorem IsS131.kept {w0 W : World} {g : Nat} {f0 : List Int} {f1 : Int} {f2 : Int} {W1 : World} {S : Nat → Prop} (h : IsS131 w0 W g f0 f1 f2) (hk : Kept W W1 S) (hne : ¬ S g) : IsS131 w0 W1 g f0 f1 f2 := by
  obtain ⟨A0, c0, hb, hg, hr0⟩ := h
  exact ⟨A0, c0, blk_kept hb hk hne, hg, hr0⟩
theorem IsS131.below {w0 W : World} {g : Nat} {f0 : List Int} {f1 : Int} {f2 : Int} {W1 : World} (h : IsS131 w0 W g f0 f1 f2) (hw : Below W.heap.size W W1) : IsS131 w0 W1 g f0 f1 f2 := h.grown (grown_of_below hw none) (by simp)
theorem IsS131.alloc {w0 W : World} {g : Nat} {f0 : List Int} {f1 : Int} {f2 : Int} (h : IsS131 w0 W g f0 f1 f2) (o : Obj) : IsS131 w0 (W.alloc o) g f0 f1 f2 := h.below (below_alloc (Below.refl _ _) o)
theorem IsS131.drewN {w0 W : World} {g : Nat} {f0 : List Int} {f1 : Int} {f2 : Int} (h : IsS131 w0 W g f0 f1 f2) (m : Nat) : IsS131 w0 (W.drewN m) g f0 f1 f2 := h
theorem IsS131.drew {w0 W : World} {g : Nat} {f0 : List Int} {f1 : Int} {f2 : Int} (h : IsS131 w0 W g f0 f1 f2) : IsS131 w0 W.drew g f0 f1 f2 := h
theorem IsS131.at_ {w0 W : World} {g : Nat} {f0 : List Int} {f1 : Int} {f2 : Int} {w' : World} {m : Nat} (hq : W.drewN m = w') (h : IsS131 w0 W g f0 f1 f2) : IsS131 w0 w' g f0 f1 f2 := by subst hq; exact IsS131.drewN h m
theorem IsS131.apart {w0 W : World} {g : Nat} {f0 : List Int} {f1 : Int} {f2 : Int} {α : Type} {d : Kd α} {e : Nat} {base : Nat} {ok : Nat → Prop} {v : Value} {xs : List α} (h : IsS131 w0 W g f0 f1 f2) (ho : d.R e W base ok v xs) (ht : ∀ q, q ∈ e :: d.E → q ≠ 131) : d.R e W base (fun k => ok k ∧ k ≠ g) v xs := by
  obtain ⟨A0, c0, hb, hg, hr0⟩ := h
  exact Kd.R_types ho hb ht
theorem IsS131.own_ne {w0 W : World} {g : Nat} {f0 : List Int} {f1 : Int} {f2 : Int} {α : Type} {d : Kd α} {e : Nat} {base : Nat} {ok : Nat → Prop} {v : Value} {xs : List α} (h : IsS131 w0 W g f0 f1 f2) (ho : d.R e W base ok v xs) (ht : e ≠ 131) : some g ≠ v.ownBlock := by
  obtain ⟨A0, c0, hb, hg, hr0⟩ := h
  exact Kd.R_ne ho hb ht
theorem IsS131.lt {w0 W : World} {g : Nat} {f0 : List Int} {f1 : Int} {f2 : Int} (h : IsS131 w0 W g f0 f1 f2) : g < W.heap.size := by
  obtain ⟨A0, c0, hb, hg, hr0⟩ := h
  exact blk_lt hb
theorem IsS131.ge {w0 W : World} {g : Nat} {f0 : List Int} {f1 : Int} {f2 : Int} (h : IsS131 w0 W g f0 f1 f2) : w0.heap.size ≤ g := by
  obtain ⟨A0, c0, hb, hg, hr0⟩ := h
  exact hg
def bytes_Buffer_Len.f (s0_0 : List Int) (s0_1 : Int) (s0_2 : Int) : Option (Int × Int × Int) := some (wrap64 ((s0_0.length : Int) - s0_1), s0_1, s0_2)
end Go.Proofs.YtkbegfihdpiacaaDoor.PX

namespace Go.Proofs.YtkbegfihdpiacaaDoor.PX
open Go.RowKit Nt Go.Lib Go.Maps Go.Proofs.YtkbegfihdpiacaaDoorW.PrintWords Go.Proofs.YtkbegfihdpiacaaDoorW.PrintLast
set_option linter.unusedVariables false
set_option linter.unusedSimpArgs false
section
variable {H : Type} {enc : TypeId × Value → H} {w : World} {base : Nat} {spare : Nat → Bool} {held : Bool}
/-- The texts of a key. -/
theorem strs_C {fuel : Nat} {cs : List Value} {x : DataW H × List MemPlace} (h : DataW.trod enc Tryd.prog w base spare held fuel 32 cs = some x) :
    ∃ A c l, cs = [.slice A l.length c] ∧ l.length ≤ c ∧ Kd.string.C w A l.length l := by
  rcases Deep.open_strs Tryd.underlying32 Tryd.underlying9 (by kernel_rfl) h with ⟨rfl, _⟩ | ⟨a, len, cap, m, Sx, rfl, _, hle, hmx, hm, _, hc⟩
  · exact ⟨none, 0, [], rfl, Nat.le_refl _, rfl, by decide, fun h => absurd h (by decide)⟩
  · have hlm : len ≤ m := by rw [hm]; split <;> omega
    have hlen : ((List.range len).map Sx).length = len := by simp
    refine ⟨some a, cap, (List.range len).map Sx, by rw [hlen], by rw [hlen]; exact hle, ?_⟩
    rw [hlen]
    refine ⟨hlen, by unfold maxLen at hmx; omega, fun _ => ⟨a, rfl, fun j p hj => ?_⟩⟩
    have hjl : j < len := by
      have := (List.getElem?_eq_some_iff.1 hj).1
      rw [hlen] at this; exact this
    have hp : Sx j = p := by
      rw [List.getElem?_map, List.getElem?_range hjl] at hj
      exact Option.some.inj hj
    subst hp
    refine ⟨[.string (Sx j)], rfl, rfl, fun i u hu => ?_⟩
    cases i with
    | zero =>
      injection hu with hu
      subst hu
      have := (hc j (by omega)).1
      rw [show Kd.string.sz = 1 from rfl, Nat.mul_one, Nat.add_zero]
      exact this
    | succ i => simp at hu
set_option maxRecDepth 100000 in
/-- One key. -/
theorem key_K {fuel : Nat} {cs : List Value} {x : DataW H × List MemPlace} (h : DataW.trod enc Tryd.prog w base spare held fuel 34 cs = some x) : ∃ k : S34, k34.K w k cs ∧ cs.length = k34.sz ∧ (Lit.int .u32 k.f1).wf = true := by
  obtain ⟨xs, n, _, _, hcl, hxl, hf⟩ := DataW.trod_struct Tryd.underlying34 h
  have hc4 : Tryd.prog.cellsOf 34 = 4 := by kernel_rfl
  rw [hc4] at hcl
  match cs, hcl, xs, hxl with
  | [v0, v1, v2, v3], _, [y0, y1, y2, y3], _ =>
    have e0 : Tryd.prog.cellsOf 9 = 1 := by kernel_rfl
    have e1 : Tryd.prog.cellsOf 23 = 1 := by kernel_rfl
    have e2 : Tryd.prog.cellsOf 32 = 1 := by kernel_rfl
    have g0 : DataW.trod enc Tryd.prog w base spare held n 9 [v0] = some y0 := by
      have g := hf 0 _ rfl
      change DataW.trod enc Tryd.prog w base spare held n 9 (List.take (Tryd.prog.cellsOf 9) [v0, v1, v2, v3]) = some y0 at g
      rw [e0] at g
      exact g
    have g1 : DataW.trod enc Tryd.prog w base spare held n 23 [v1] = some y1 := by
      have g := hf 1 _ rfl
      change DataW.trod enc Tryd.prog w base spare held n 23 (List.take (Tryd.prog.cellsOf 23) [v1, v2, v3]) = some y1 at g
      rw [e1] at g
      exact g
    have g2 : DataW.trod enc Tryd.prog w base spare held n 32 [v2] = some y2 := by
      have g := hf 2 _ rfl
      change DataW.trod enc Tryd.prog w base spare held n 32 (List.take (Tryd.prog.cellsOf 32) [v2, v3]) = some y2 at g
      rw [e2] at g
      exact g
    have g3 : DataW.trod enc Tryd.prog w base spare held n 32 [v3] = some y3 := by
      have g := hf 3 _ rfl
      change DataW.trod enc Tryd.prog w base spare held n 32 (List.take (Tryd.prog.cellsOf 32) [v3]) = some y3 at g
      rw [e2] at g
      exact g
    obtain ⟨s, h0, _, _⟩ := DataW.trod_string Tryd.underlying9 g0
    obtain ⟨m, h1, _, hw⟩ := DataW.trod_int Tryd.underlying23 g1
    obtain ⟨A2, c2, l2, h2, hl2, hC2⟩ := strs_C g2
    obtain ⟨A3, c3, l3, h3, hl3, hC3⟩ := strs_C g3
    simp at h0 h1 h2 h3
    subst h0; subst h1; subst h2; subst h3
    exact ⟨⟨s, m, l2, l3⟩, k34_mk w ⟨s, m, l2, l3⟩ hl2 hC2 hl3 hC3, rfl, hw⟩
/-- The keys. -/
theorem keys_C {fuel : Nat} {cs : List Value} {x : DataW H × List MemPlace} (h : DataW.trod enc Tryd.prog w base spare held fuel 22 cs = some x) :
    ∃ A c ks, cs = [.slice A ks.length c] ∧ ks.length ≤ c ∧ Kd.C k34 w A ks.length ks ∧ ∀ k ∈ ks, (Lit.int .u32 k.f1).wf = true := by
  rcases Deep.open_slice Tryd.underlying22 h with ⟨rfl, _⟩ | ⟨a, len, cap, m, n, D, Pl, rfl, hb, hle, hmx, hm, _, hx⟩
  · exact ⟨none, 0, [], rfl, Nat.le_refl _, ⟨rfl, by decide, fun h => absurd h (by decide)⟩, fun k hk => by cases hk⟩
  · have hlm : len ≤ m := by rw [hm]; split <;> omega
    have hc4 : Tryd.prog.cellsOf 34 = 4 := by kernel_rfl
    have each : ∀ i, i < len → ∃ k : S34, (∃ c, c.length = k34.sz ∧ k34.K w k c ∧ ∀ j u, c[j]? = some u → w.cell? (a.add (i * k34.sz + j)) = some u) ∧ (Lit.int .u32 k.f1).wf = true := by
      intro i hi
      obtain ⟨cs', h1, h2⟩ := hx i (by omega)
      obtain ⟨k, hK, hl, hw⟩ := key_K h2
      refine ⟨k, ⟨cs', hl, hK, fun j u hu => ?_⟩, hw⟩
      obtain ⟨_, hlen, hcell⟩ := World.cells?_some h1
      have hj : j < cs'.length := (List.getElem?_eq_some_iff.1 hu).1
      have := hcell j (by omega)
      rw [hu, hc4, Deep.add_add] at this
      exact this
    haveI : Inhabited S34 := ⟨z34⟩
    obtain ⟨F, hF⟩ := Deep.choose_lt each
    have hlen : ((List.range len).map F).length = len := by simp
    refine ⟨some a, cap, (List.range len).map F, by rw [hlen], by rw [hlen]; exact hle, ?_, ?_⟩
    · rw [hlen]
      refine ⟨hlen, by unfold maxLen at hmx; omega, fun _ => ⟨a, rfl, fun j p hj => ?_⟩⟩
      have hjl : j < len := by
        have := (List.getElem?_eq_some_iff.1 hj).1
        rw [hlen] at this; exact this
      have hp : F j = p := by
        rw [List.getElem?_map, List.getElem?_range hjl] at hj
        exact Option.some.inj hj
      subst hp
      exact (hF j hjl).1
    · intro k hk
      obtain ⟨j, hj, rfl⟩ := List.mem_map.1 hk
      exact (hF j (List.mem_range.1 hj)).2
end
end Go.Proofs.YtkbegfihdpiacaaDoor.PX
