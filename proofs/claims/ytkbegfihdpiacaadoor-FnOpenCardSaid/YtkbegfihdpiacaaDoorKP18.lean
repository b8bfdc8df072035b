/- Part 18 of the proof: what the theorem reaches of the texts SpecM, LawK, PX10, Conv, LawO, PX11, OpenK, Laid, RowO, CardO. -/
import Derived.Deep.RegionHeld3
import Derived.Deep.Strs
import Derived.ChangeArms
import Derived.Test.YtkbegfihdpiacaaDoorRows
import Derived.Lib.LaidU8
import Derived.Lib.LaidIn
import Derived.Stop.LaidErr
import Derived.ProofKit
import Derived.ChangeVars
import Derived.LaidLaws
import Derived.SizedLaws
import Derived.SliceStrings
import Derived.Test.YtkbegfihdpiacaaDoorTie
import Derived.Test.YtkbegfihdpiacaaDoorCards
import Derived.SevenTiedAt
import Derived.Test.YtkbegfihdpiacaaDoorKP5
import Derived.Test.YtkbegfihdpiacaaDoorKP6
import Derived.Test.YtkbegfihdpiacaaDoorKP7
import Derived.Test.YtkbegfihdpiacaaDoorKP8
import Derived.Test.YtkbegfihdpiacaaDoorKP9
import Derived.Test.YtkbegfihdpiacaaDoorKP14
import Derived.Test.YtkbegfihdpiacaaDoorKP15
import Derived.Test.YtkbegfihdpiacaaDoorKP16
import Derived.Test.YtkbegfihdpiacaaDoorKP17

namespace Go.Proofs.YtkbegfihdpiacaaDoor.PX
open Go.RowKit Nt Go.Lib Go.Maps Go.Proofs.YtkbegfihdpiacaaDoorW.PrintWords Go.Proofs.YtkbegfihdpiacaaDoorW.PrintLast
set_option linter.unusedVariables false
set_option linter.unusedSimpArgs false
theorem rd34 (ks : List S34) (i : Nat) (h : i < ks.length) : rd_T34 ks (i : Int) = ks[i] := by
  unfold rd_T34; simp [List.getElem?_eq_getElem h]
theorem keys_l0 (ks : List S34) (hk : ks.length ≤ 3000000000) : ∀ (k i : Nat) (acc : List S59), i ≤ ks.length → acc.length ≤ i → ks.length - i < k → laws_keys.l0 k acc ks (ks.length : Int) (i : Int) = some (acc ++ (ks.drop i).map key59)
  | 0, i, acc, _, _, hf => by omega
  | k + 1, i, acc, hi, ha, hf => by
    unfold laws_keys.l0
    by_cases hlt : i < ks.length
    · rw [if_pos (by omega), if_pos (by omega), if_pos (by omega), if_pos (by omega), w1 i (by omega), keys_l0 ks hk k (i + 1) _ (by omega) (by simp; omega) (by omega), List.drop_eq_getElem_cons hlt, List.map_cons, List.append_assoc, rd34 ks i hlt]
      rfl
    · rw [if_neg (by omega), List.drop_eq_nil_of_le (by omega)]
      simp
theorem keys_f (ks : List S34) (hk : ks.length ≤ 3000000000) (k : Nat) (hf : ks.length < k) : laws_keys.f k ks = some (ks.map key59) := by
  have := keys_l0 ks hk k 0 [] (Nat.zero_le _) (Nat.le_refl _) (by omega)
  unfold laws_keys.f
  simpa using this
/-- What Good keys are. -/
def GoodK (ks : List S34) : Prop := Apart ks ∧ ks.length ≤ 8 ∧ ∀ x ∈ ks, x.f2.length ≤ 8 ∧ x.f3.length = x.f2.length
theorem good_l0 (ks : List S34) (hk : ks.length ≤ 3000000000) : ∀ (k i : Nat), i ≤ ks.length → (ks.length - i) + ks.length + 1 < k →
    ∃ b, spec_Good.l0 k (ks.map key59) (ks.map key59) (ks.length : Int) (i : Int) = some b ∧ (b = true → ks.length ≤ 8 ∧ ∀ j (x : S34), i ≤ j → ks[j]? = some x → findS (ks.take j) x.f0 x.f1 = none ∧ x.f2.length ≤ 8 ∧ x.f3.length = x.f2.length)
  | 0, i, _, hf => by omega
  | k + 1, i, hi, hf => by
    unfold spec_Good.l0
    by_cases hlt : i < ks.length
    · have ht : (ks.map key59).take (i : Int).toNat = (ks.take i).map key59 := by rw [Int.toNat_natCast, List.map_take]
      have htl : (ks.take i).length = i := by rw [List.length_take]; omega
      rw [if_pos (by omega), if_pos (by omega), if_pos (by rw [List.length_map]; omega), if_pos (by rw [List.length_map]; omega), rd59 ks i hlt, ht, find_f (ks.take i) (by omega) _ _ k (by omega), w1 i (by omega)]
      simp only [Option.bind_some]
      show ∃ b, (if findI ks[i].f0 ks[i].f1 (ks.take i) 0 ≥ 0 then some false else if (ks[i].f2.length : Int) > 8 then some false else if (ks[i].f3.length : Int) = (ks[i].f2.length : Int) then _ else some false) = some b ∧ _
      rcases findI_spec ks[i].f0 ks[i].f1 (ks.take i) 0 with ⟨e1, e2⟩ | ⟨j, x, e1, e2, e3⟩
      · rw [e1, if_neg (by omega)]
        by_cases h8 : (ks[i].f2.length : Int) > 8
        · rw [if_pos h8]; exact ⟨_, rfl, fun h => by cases h⟩
        · rw [if_neg h8]
          by_cases hq : (ks[i].f3.length : Int) = (ks[i].f2.length : Int)
          · rw [if_pos hq]
            obtain ⟨b, hb, hb2⟩ := good_l0 ks hk k (i + 1) (by omega) (by omega)
            refine ⟨b, hb, fun h => ⟨(hb2 h).1, fun j x hij hx => ?_⟩⟩
            by_cases hji : j = i
            · subst hji
              have : ks[j] = x := (List.getElem?_eq_some_iff.1 hx).2
              rw [this] at e2 h8 hq
              exact ⟨e2, by omega, by omega⟩
            · exact (hb2 h).2 j x (by omega) hx
          · rw [if_neg hq]; exact ⟨_, rfl, fun h => by cases h⟩
      · rw [e1, if_pos (by omega)]; exact ⟨_, rfl, fun h => by cases h⟩
    · rw [if_neg (by omega)]
      refine ⟨_, rfl, fun h => ⟨?_, fun j x hij hx => ?_⟩⟩
      · have := of_decide_eq_true h
        rw [List.length_map] at this
        omega
      · have := (List.getElem?_eq_some_iff.1 hx).1
        omega
theorem good_f (ks : List S34) (hk : ks.length ≤ 3000000000) (k : Nat) (hf : ks.length + ks.length + 1 < k) : ∃ b, spec_Good.f k (ks.map key59) = some b ∧ (b = true → GoodK ks) := by
  obtain ⟨b, hb, hb2⟩ := good_l0 ks hk k 0 (Nat.zero_le _) (by omega)
  refine ⟨b, ?_, fun h => ⟨fun i j x y hij hx hy => ?_, (hb2 h).1, fun x hx => ?_⟩⟩
  · unfold spec_Good.f; rw [List.length_map]; exact hb
  · rintro ⟨e1, e2⟩
    have := ((hb2 h).2 j y (Nat.zero_le _) hy).1
    unfold findS at this
    rw [List.find?_eq_none] at this
    exact this x (List.mem_of_getElem? (by rw [List.getElem?_take_of_lt hij]; exact hx)) (by simp [e1, e2])
  · obtain ⟨j, hj⟩ := List.getElem?_of_mem hx
    exact ((hb2 h).2 j x (Nat.zero_le _) hj).2
/-- What fits. -/
def FitK (ks : List S34) : Prop := ks.length ≤ 2147483647 ∧ ∀ x ∈ ks, x.f0.size ≤ 2147483647 ∧ x.f2.length ≤ 2147483647 ∧ x.f3.length ≤ 2147483647
theorem fits3_l0 (l : List ByteArray) (hk : l.length ≤ 2147483647) : ∀ (k i : Nat), i ≤ l.length → l.length - i < k → ∃ b, laws_zzFits3.l0 k l (l.length : Int) (i : Int) = some b
  | 0, i, _, hf => by omega
  | k + 1, i, hi, hf => by
    unfold laws_zzFits3.l0
    by_cases hlt : i < l.length
    · rw [if_pos (by omega), if_pos (by omega), if_pos (by omega), w1 i (by omega)]
      split
      · exact ⟨_, rfl⟩
      · exact fits3_l0 l hk k (i + 1) (by omega) (by omega)
    · rw [if_neg (by omega)]; exact ⟨_, rfl⟩
theorem fits3_f (l : List ByteArray) (k : Nat) (hf : 2147483647 < k) : ∃ b, laws_zzFits3.f k l = some b ∧ (b = true → l.length ≤ 2147483647) := by
  unfold laws_zzFits3.f
  by_cases h : (l.length : Int) > 2147483647
  · rw [if_pos h]; exact ⟨_, rfl, fun h => by cases h⟩
  · rw [if_neg h]
    obtain ⟨b, hb⟩ := fits3_l0 l (by omega) k 0 (Nat.zero_le _) (by omega)
    exact ⟨b, hb, fun _ => by omega⟩
theorem fits2_f (x : S34) (k : Nat) (hf : 2147483647 < k) : ∃ b, laws_zzFits2.f k x.f0 x.f1 x.f2 x.f3 = some b ∧ (b = true → x.f0.size ≤ 2147483647 ∧ x.f2.length ≤ 2147483647 ∧ x.f3.length ≤ 2147483647) := by
  unfold laws_zzFits2.f
  by_cases h : (x.f0.size : Int) > 2147483647
  · rw [if_pos h]; exact ⟨_, rfl, fun h => by cases h⟩
  · rw [if_neg h]
    obtain ⟨b2, e2, h2⟩ := fits3_f x.f2 k hf
    obtain ⟨b3, e3, h3⟩ := fits3_f x.f3 k hf
    rw [e2, e3]
    simp only [Option.bind_some]
    cases b2 with
    | false => exact ⟨_, rfl, fun h => by cases h⟩
    | true =>
      cases b3 with
      | false => exact ⟨_, rfl, fun h => by cases h⟩
      | true => exact ⟨_, rfl, fun _ => ⟨by omega, h2 rfl, h3 rfl⟩⟩
theorem fits1_l0 (ks : List S34) (hk : ks.length ≤ 2147483647) : ∀ (k i : Nat), i ≤ ks.length → (ks.length - i) + 2147483648 < k → ∃ b, laws_zzFits1.l0 k ks (ks.length : Int) (i : Int) = some b ∧ (b = true → ∀ j x, i ≤ j → ks[j]? = some x → x.f0.size ≤ 2147483647 ∧ x.f2.length ≤ 2147483647 ∧ x.f3.length ≤ 2147483647)
  | 0, i, _, hf => by omega
  | k + 1, i, hi, hf => by
    unfold laws_zzFits1.l0
    by_cases hlt : i < ks.length
    · obtain ⟨b2, e2, h2⟩ := fits2_f ks[i] k (by omega)
      rw [if_pos (by omega), if_pos (by omega), if_pos (by omega), w1 i (by omega), rd34 ks i hlt, e2]
      simp only [Option.bind_some]
      cases b2 with
      | false => exact ⟨_, rfl, fun h => by cases h⟩
      | true =>
        rw [if_pos (show true = true from rfl)]
        obtain ⟨b, hb, hb2⟩ := fits1_l0 ks hk k (i + 1) (by omega) (by omega)
        refine ⟨b, hb, fun h j x hij hx => ?_⟩
        by_cases hji : j = i
        · subst hji
          have : ks[j] = x := (List.getElem?_eq_some_iff.1 hx).2
          rw [this] at h2
          exact h2 rfl
        · exact hb2 h j x (by omega) hx
    · rw [if_neg (by omega)]
      refine ⟨_, rfl, fun h j x hij hx => ?_⟩
      have := (List.getElem?_eq_some_iff.1 hx).1
      omega
theorem fits1_f (ks : List S34) (k : Nat) (hf : 4294967296 < k) : ∃ b, laws_zzFits1.f k ks = some b ∧ (b = true → FitK ks) := by
  unfold laws_zzFits1.f
  by_cases h : (ks.length : Int) > 2147483647
  · rw [if_pos h]; exact ⟨_, rfl, fun h => by cases h⟩
  · rw [if_neg h]
    obtain ⟨b, hb, hb2⟩ := fits1_l0 ks (by omega) k 0 (Nat.zero_le _) (by omega)
    refine ⟨b, hb, fun h => ⟨by omega, fun x hx => ?_⟩⟩
    obtain ⟨j, hj⟩ := List.getElem?_of_mem hx
    exact hb2 h j x (Nat.zero_le _) hj
theorem openL_len (ks : List S34) (text : ByteArray) : ∀ (lines : List (List UInt8)) (seen : List (ByteArray × Int)) (sigs unv s u : List S118), openL ks text lines seen sigs unv = .ok s u → s.length ≤ sigs.length + lines.length ∧ u.length ≤ unv.length + lines.length
  | [], seen, sigs, unv, s, u, h => by
    rw [openL] at h
    injection h with a b
    subst a; subst b
    exact ⟨by simp, by simp⟩
  | l :: ls, seen, sigs, unv, s, u, h => by
    rw [openL] at h
    have hl : (l :: ls).length = ls.length + 1 := rfl
    split at h
    · cases h
    · split at h
      · split at h
        · have := openL_len ks text ls _ _ _ _ _ h; omega
        · have := openL_len ks text ls _ _ _ _ _ h; simp at this; omega
      · split at h
        · have := openL_len ks text ls _ _ _ _ _ h; omega
        · split at h
          · have := openL_len ks text ls _ _ _ _ _ h; simp at this; omega
          · cases h
theorem openM_len (ks : List S34) (l : List UInt8) (hcnt : ∀ i, lastN l l.length = some i → l[l.length - 1]? = some 10 → (linesD (l.drop (i + 2))).length ≤ 100) (s u : List S118) (h : (openM ks l).2 = .ok s u) : s.length ≤ 1000000 ∧ u.length ≤ 1000000 := by
  unfold openM at h
  split at h
  · split at h
    · cases h
    · rename_i i hi
      split at h
      · cases h
      · split at h
        · rename_i h10
          have h1 := openL_len ks _ _ _ _ _ _ _ h
          have h2 := hcnt i hi h10
          simp at h1
          omega
        · cases h
  · cases h
/-- The two answers. -/
theorem out_res (t : ByteArray) (o : ORes) : (outM t o).2.2.2 = (resD t o).2.2.2.1 ∧ (outM t o).1 = (resD t o).1 ∧ (outM t o).2.1.map (fun x : S75 => (⟨x.f0, x.f1, x.f2⟩ : S37)) = (resD t o).2.1 ∧ (outM t o).2.2.1.map (fun x : S75 => (⟨x.f0, x.f1, x.f2⟩ : S37)) = (resD t o).2.2.1 := by
  cases o with
  | bad => exact ⟨rfl, rfl, rfl, rfl⟩
  | inv nm h => exact ⟨rfl, rfl, rfl, rfl⟩
  | ok s u =>
    cases s with
    | nil => exact ⟨rfl, rfl, rfl, by unfold outM resD; simp [sig75, sig37]⟩
    | cons x s => exact ⟨rfl, rfl, by unfold outM resD; simp [sig75, sig37], by unfold outM resD; simp [sig75, sig37]⟩
end Go.Proofs.YtkbegfihdpiacaaDoor.PX

namespace Go.Proofs.YtkbegfihdpiacaaDoor.PX
open Go.RowKit Nt Go.Lib Go.Maps Go.Proofs.YtkbegfihdpiacaaDoorW.PrintWords Go.Proofs.YtkbegfihdpiacaaDoorW.PrintLast
set_option linter.unusedVariables false
set_option linter.unusedSimpArgs false
/-- What is given of a call of a law. -/
structure LW (w : World) (A0 : Option Addr) (c0 : Nat) (ks : List S34) (eM : Value) : Prop where
  hU : Utf8Tabs 3 4 w
  hW : WhiteTab 6 w
  hE : w.cell? ⟨0, 0, none⟩ = some eM
  heM : ∃ pE, eM = .iface 195 (.pointer pE)
  hk : Kd.C k34 w A0 ks.length ks
  hc : ks.length ≤ c0
  wf : ∀ x ∈ ks, (Lit.int .u32 x.f1).wf = true
theorem LW.below {w W : World} {A0 : Option Addr} {c0 : Nat} {ks : List S34} {eM : Value} (h : LW w A0 c0 ks eM) (hb : Below w.heap.size w W) : LW W A0 c0 ks eM :=
  { hU := Utf8Tabs.below' h.hU hb
    hW := WhiteTab.below' h.hW hb
    hE := pw_cell_below hb h.hE
    heM := h.heM
    hk := Kd.C_below h.hk hb
    hc := h.hc
    wf := h.wf }
theorem k34_heap : Kd.Heap k34 := Kd.heap_iso _ (Kd.heap_pair Kd.heap_string (Kd.heap_pair (Kd.heap_int _) (Kd.heap_pair (Kd.heap_slice _ Kd.heap_string) (Kd.heap_slice _ Kd.heap_string))))
theorem LW.fits {w : World} {A0 : Option Addr} {c0 : Nat} {ks : List S34} {eM : Value} (h : LW w A0 c0 ks eM) :
    ∃ b, (b = true → FitK ks) ∧ ∀ W, Below w.heap.size w W → Calls Tryd.prog 7 #[.slice A0 ks.length c0] W fun e w' => e = .returned (.bool b) ∧ Below W.heap.size W w' := by
  obtain ⟨b, hb, hb2⟩ := fits1_f ks 5000000000 (by decide)
  exact ⟨b, hb2, fun W hW => laws_zzFits1.calls _ A0 c0 ks b W (h.below hW).hk h.hc hb⟩
theorem LW.keys {w : World} {A0 : Option Addr} {c0 : Nat} {ks : List S34} {eM : Value} (h : LW w A0 c0 ks eM) (hf : ks.length ≤ 3000000000) :
    Calls Tryd.prog 9 #[.slice A0 ks.length c0] w fun e w' => ∃ A c, e = .returned (.slice A ks.length c) ∧ ks.length ≤ c ∧ Kd.C k59 w' A ks.length (ks.map key59) ∧ Below w.heap.size w w' := by
  refine (laws_keys.calls 5000000000 (fun k => k < w.heap.size) A0 c0 ks (ks.map key59) w (Kd.V_mk h.hc (Kd.C_F k34_heap h.hk)) (keys_f ks hf _ (by omega))).mono ?_
  rintro e w' ⟨v, rfl, hn, hb⟩
  obtain ⟨A, c, rfl, hle, hc⟩ := Kd.N_reads hn
  rw [List.length_map] at hle hc ⊢
  exact ⟨A, c, rfl, hle, hc, hb⟩
theorem FitK.few {ks : List S34} (h : FitK ks) : ks.length ≤ 3000000000 := Nat.le_trans h.1 (by omega)
theorem LW.good {ks : List S34} (hf : ks.length ≤ 3000000000) :
    ∃ b, (b = true → GoodK ks) ∧ ∀ W A c, Kd.C k59 W A ks.length (ks.map key59) → ks.length ≤ c → Calls Tryd.prog 10 #[.slice A ks.length c] W fun e w' => e = .returned (.bool b) ∧ Below W.heap.size W w' := by
  obtain ⟨b, hb, hb2⟩ := good_f ks hf 7000000000 (by omega)
  refine ⟨b, hb2, fun W A c hC hc => ?_⟩
  have := spec_Good.calls _ A c (ks.map key59) b W (by rw [List.length_map]; exact hC) (by rw [List.length_map]; exact hc) hb
  rw [List.length_map] at this
  exact this
theorem LW.sopen {ks : List S34} (hf : FitK ks) (l : List UInt8) (hl : l.length ≤ 2147483647) :
    ∃ r1 r2 r3 r4 r5, (r5 = true → ((r1, r2, r3, r4, r5) : ByteArray × List S37 × List S37 × Int × Bool) = resD (openM ks l).1 (openM ks l).2 ∧ ∀ i, lastN l l.length = some i → l[l.length - 1]? = some 10 → (linesD (l.drop (i + 2))).length ≤ 100) ∧
      ∀ W A c, Kd.C k59 W A ks.length (ks.map key59) → ks.length ≤ c → Calls Tryd.prog 8 #[.string (S l), .slice A ks.length c] W fun e w' => ∃ v1 v2 : Value, e = .returned (.tuple #[.agg #[.string r1, v1, v2], .int .i64 r4, .bool r5]) ∧
        Kd.R k37 37 w' W.heap.size (fun _ => True) v1 r2 ∧ Kd.R k37 37 w' W.heap.size (fun _ => True) v2 r3 ∧ Below W.heap.size W w' :=
  ⟨(sopM ks l).1, (sopM ks l).2.1, (sopM ks l).2.2.1, (sopM ks l).2.2.2.1, (sopM ks l).2.2.2.2, fun h => ⟨(sopM_open ks l h).1, (sopM_open ks l h).2.2⟩, fun W A c hC hc => sopenC ks l hl hf.1 (fun x hx => (hf.2 x hx).2.1) W A c hC hc⟩
theorem LW.iopen {w : World} {A0 : Option Addr} {c0 : Nat} {ks : List S34} {eM : Value} (h : LW w A0 c0 ks eM) (hf : FitK ks) (hg : GoodK ks) (l : List UInt8) (hl : l.length ≤ 2147483647) (hcnt : ∀ i, lastN l l.length = some i → l[l.length - 1]? = some 10 → (linesD (l.drop (i + 2))).length ≤ 100) :
    Calls Tryd.prog 11 #[.string (S l), .slice A0 ks.length c0] w (IOPost w (outM (openM ks l).1 (openM ks l).2)) :=
  PX.iopen w l A0 c0 ks eM h.hU h.hW h.hE h.heM h.hk h.hc hf.1 hg.1 (fun x hx => ⟨(hf.2 x hx).1, h.wf x hx⟩) (fun x hx => ⟨(hf.2 x hx).2.1, (hf.2 x hx).2.2⟩) hl hcnt (openM_len ks l hcnt)
end Go.Proofs.YtkbegfihdpiacaaDoor.PX

namespace Go.Proofs.YtkbegfihdpiacaaDoor.PX
open Go.RowKit Go.Proofs.YtkbegfihdpiacaaDoorW.PrintWords Go.Proofs.YtkbegfihdpiacaaDoorW.PrintLast Go.Proofs.YtkbegfihdpiacaaDoorW.PrintMore
attribute [local go_sem] max2_int min2_int max_two min_two max_three min_three max_four min_four   -- for this text's walks alone
set_option linter.unusedVariables false
set_option linter.unusedSimpArgs false
def laws_conv.f (k : Nat) (a0_0 : ByteArray) (l0_1 : List (S75)) (l0_2 : List (S75)) : Option (ByteArray × (List (S37)) × (List (S37))) := (laws_sigs.f k l0_1).bind fun t308 => ((laws_sigs.f k l0_2).bind fun t311 => (some (a0_0, t308, t311)))
theorem laws_conv.mono : ∀ a0 a1 a2 k, LeO (laws_conv.f k a0 a1 a2) (laws_conv.f (k + 1) a0 a1 a2) := by
  intro a0 a1 a2 k
  unfold laws_conv.f
  repeat' first
      | (with_reducible exact laws_sigs.mono _ _)
      | (with_reducible exact LeO.refl _)
      | (with_reducible exact LeO.none _)
      | (with_reducible refine LeO.ite ?_ ?_)
      | (with_reducible refine LeO.bind ?_ (fun _ => ?_))
      | exact laws_sigs.mono _ _
      | exact LeO.none _
      | refine LeO.ite ?_ ?_
      | refine LeO.bind ?_ (fun _ => ?_)
def laws_conv.T1 : Bool × List (List Nat × List Nat) := (true, [([], []), ([0], [0]), ([], []), ([2], [2]), ([3], [3]), ([], []), ([5], [5]), ([6, 4], [6]), ([1, 4, 7], [1, 4, 7]), ([8, 7, 0, 1, 2, 3, 4, 5, 6, 7, 8], [8])])
def laws_conv.B1 : List Nat := [0, 1, 0, 4, 12, 0, 32, 124, 255, 511]
theorem laws_conv.tab1 : rtab .any (opsOf Tryd.f13 1) = laws_conv.T1 := by kernel_rfl
theorem laws_conv.bits1 : waitsOk laws_conv.T1.2 laws_conv.B1 = true := by kernel_rfl
set_option maxHeartbeats 8000000 in
set_option maxRecDepth 100000 in
theorem laws_conv.calls (k : Nat) (a0_0 : ByteArray) (A0_1 : Option Addr) (c0_1 : Nat) (l0_1 : List (S75)) (A0_2 : Option Addr) (c0_2 : Nat) (l0_2 : List (S75)) (r1 : ByteArray) (r2 : List (S37)) (r3 : List (S37)) (w : World) (hr0_1 : Kd.C k75 w A0_1 l0_1.length l0_1) (hc0_1 : l0_1.length ≤ c0_1) (hr0_2 : Kd.C k75 w A0_2 l0_2.length l0_2) (hc0_2 : l0_2.length ≤ c0_2) (h : laws_conv.f k a0_0 l0_1 l0_2 = some (r1, r2, r3)) :
    Calls Tryd.prog 13 #[.agg #[.string a0_0, .slice A0_1 l0_1.length c0_1, .slice A0_2 l0_2.length c0_2]] w fun e w' => ∃ v1_ v2_ : Value, e = .returned (.agg #[.string r1, v1_, v2_]) ∧ Kd.R k37 37 w' w.heap.size (fun k_ => some k_ ≠ (v2_ : Value).ownBlock) v1_ r2 ∧ Kd.R k37 37 w' w.heap.size (fun k_ => some k_ ≠ (v1_ : Value).ownBlock) v2_ r3 ∧ Below w.heap.size w w' := by
  have hu40 := Tryd.underlying40
  have hu27 := Tryd.underlying27
  have HR0_1 := Aside0.mk hr0_1
  have HC0_1 := Aside0.mk hc0_1
  clear hr0_1 hc0_1
  have HR0_2 := Aside0.mk hr0_2
  have HC0_2 := Aside0.mk hc0_2
  clear hr0_2 hc0_2
  have HB := Aside0.mk (Below.refl w.heap.size w)
  have H : ((laws_sigs.f k l0_1).bind fun t308 => ((laws_sigs.f k l0_2).bind fun t311 => (some (a0_0, t308, t311)))) = some (r1, r2, r3) := h
  clear h
  replace H := Option.bind_eq_some_iff.mp H
  obtain ⟨t308, A20, H⟩ := H
  replace H : ((laws_sigs.f k l0_2).bind fun t311 => (some (a0_0, t308, t311))) = some (r1, r2, r3) := H
  have A2 := Aside0.mk A20
  clear A20
  replace H := Option.bind_eq_some_iff.mp H
  obtain ⟨t311, A30, H⟩ := H
  replace H : (some (a0_0, t308, t311)) = some (r1, r2, r3) := H
  have A3 := Aside0.mk A30
  clear A30
  simp only [Option.some.injEq, Prod.mk.injEq] at H
  obtain ⟨rfl, rfl, rfl⟩ := H
  go_enter Tryd.func13, Tryd.ntmps13
  try go_wp2_with (first | ((with_reducible refine gate_dst (N := 1) rfl ?_); refine box_event ?hg (N := 1) ?hd (cs := #[.string a0_0, .slice A0_1 l0_1.length c0_1, .slice A0_2 l0_2.length c0_2]) (t := 40) ?hr ?_; (case hd => rfl); (case hg => rfl); (case hr => first | (go_simp; done) | (go_simp; rfl)); intro gb306 hg w4 hbox hb; have n0_ := Aside0.mk (below_step (by repeat (first | (with_reducible first | exact HB.out | apply below_alloc | apply pw_below_drewN | apply below_drew1) | exact HB.out)) hb); have n1_ := Aside0.mk (hbox); have n2_ := Aside0.mk ((by rw [hg]; exact (below_size (by repeat (first | (with_reducible first | exact HB.out | apply below_alloc | apply pw_below_drewN | apply below_drew1) | exact HB.out))) : w.heap.size ≤ gb306)); have n3_ := Aside0.mk ((by rw [hg]; exact (below_size (by repeat (first | (with_reducible first | exact HB.out | apply below_alloc | apply pw_below_drewN | apply below_drew1) | exact HB.out))) : w.heap.size ≤ gb306)); clear HB; have HB := n0_; have BK306 := n1_; have GW306 := n2_; have GE306 := n3_; clear n0_ n1_ n2_ n3_; clear hb hbox hg) | ((with_reducible refine gate_dst (N := 2) rfl ?_); refine box_event ?hg (N := 2) ?hd (cs := #[.string (⟨#[]⟩ : ByteArray), .slice none 0 0, .slice none 0 0]) (t := 27) ?hr ?_; (case hd => rfl); (case hg => rfl); (case hr => first | (go_simp; done) | (go_simp; rfl)); intro gb307 hg w5 hbox hb; have n0_ := Aside0.mk (blk_below (g := gb306) (o := .cells #[.string a0_0, .slice A0_1 l0_1.length c0_1, .slice A0_2 l0_2.length c0_2] 40 (0, 0)) (by (with_reducible repeat (first | refine blk_drewN ?_ _ | refine blk_drew ?_ | refine blk_alloc ?_ _)); exact BK306.out) hb); have n1_ := Aside0.mk (below_step (by repeat (first | (with_reducible first | exact HB.out | apply below_alloc | apply pw_below_drewN | apply below_drew1 | refine below_set ?_ GE306.out) | exact HB.out)) hb); have n2_ := Aside0.mk (hbox); have n3_ := Aside0.mk ((by rw [hg]; exact (below_size (by repeat (first | (with_reducible first | exact HB.out | apply below_alloc | apply pw_below_drewN | apply below_drew1 | refine below_set ?_ GE306.out) | exact HB.out))) : w.heap.size ≤ gb307)); have n4_ := Aside0.mk ((by rw [hg]; exact (below_size (by repeat (first | (with_reducible first | exact HB.out | apply below_alloc | apply pw_below_drewN | apply below_drew1 | refine below_set ?_ GE306.out) | exact HB.out))) : w.heap.size ≤ gb307)); have n5_ := Aside0.mk ((by rw [hg]; exact Nat.ne_of_lt (blk_lt (g := gb306) (o := .cells #[.string a0_0, .slice A0_1 l0_1.length c0_1, .slice A0_2 l0_2.length c0_2] 40 (0, 0)) (by (with_reducible repeat (first | refine blk_drewN ?_ _ | refine blk_drew ?_ | refine blk_alloc ?_ _)); exact BK306.out)) : gb306 ≠ gb307)); have n6_ := Aside0.mk ((by rw [hg]; exact Nat.ne_of_gt (blk_lt (g := gb306) (o := .cells #[.string a0_0, .slice A0_1 l0_1.length c0_1, .slice A0_2 l0_2.length c0_2] 40 (0, 0)) (by (with_reducible repeat (first | refine blk_drewN ?_ _ | refine blk_drew ?_ | refine blk_alloc ?_ _)); exact BK306.out)) : gb307 ≠ gb306)); clear BK306; clear HB; have BK306 := n0_; have HB := n1_; have BK307 := n2_; have GW307 := n3_; have GE307 := n4_; have NB306_307 := n5_; have NB307_306 := n6_; clear n0_ n1_ n2_ n3_ n4_ n5_ n6_; clear hb hbox hg))
  have n0_ := Aside0.mk (blk_drew BK306.out)
  have n1_ := Aside0.mk (blk_drew BK307.out)
  have n2_ := Aside0.mk (below_drew1 HB.out)
  clear BK306
  clear BK307
  clear HB
  have BK306 := n0_
  have BK307 := n1_
  have HB := n2_
  clear n0_ n1_ n2_
  refine start_ (n := 10) (S := fun w' => w'.cell? ⟨gb306, 0, none⟩ = some (.string a0_0) ∧ w'.cell? ⟨gb306, 1, none⟩ = some (.slice A0_1 l0_1.length c0_1) ∧ w'.cell? ⟨gb306, 2, none⟩ = some (.slice A0_2 l0_2.length c0_2)) (ds := []) #[false, false, false, false, false, false, false, false, false, false] (by kernel_rfl) rfl rfl ⟨(blk_cell BK306.out 0).trans rfl, (blk_cell BK306.out 1).trans rfl, (blk_cell BK306.out 2).trans rfl⟩ (fun hHeld => ?_); refine with_tabW laws_conv.tab1 laws_conv.bits1 (fun HT_ HW_ => ?_)
  generalize w5.drew = w6 at BK306 BK307 HB hHeld ⊢
  refine pure_ (i := 0) (N := some 3) (v := ?_) (a' := ?_) #[true, false, false, false, false, false, false, false, false, false] rfl rfl (any_of HT_.out (by kernel_rfl)) (fun _ _ _ h => h) (Or.inl ⟨by rfl, ?_⟩) ?_ ?_
  rotate_left
  · intro w'
    go_simp
    with_reducible rfl
  rotate_left
  · simp only [Act.put, List.setIfInBounds_toArray, List.set_cons_zero, List.set_cons_succ, i64_w, i32_w]
    rfl
  refine pure_ (i := 2) (N := some 5) (v := ?_) (a' := ?_) #[true, false, true, false, false, false, false, false, false, false] rfl rfl (any_of HT_.out (by kernel_rfl)) (fun _ _ _ h => h) (Or.inl ⟨by rfl, ?_⟩) ?_ ?_
  rotate_left
  · intro w'
    go_simp
    with_reducible rfl
  rotate_left
  · simp only [Act.put, List.setIfInBounds_toArray, List.set_cons_zero, List.set_cons_succ, i64_w, i32_w]
    rfl
  refine pure_ (i := 5) (N := some 8) (v := ?_) (a' := ?_) #[true, false, true, false, false, true, false, false, false, false] rfl rfl (any_of HT_.out (by kernel_rfl)) (fun _ _ _ h => h) (Or.inl ⟨by rfl, ?_⟩) ?_ ?_
  rotate_left
  · intro w'
    go_simp
    with_reducible rfl
  rotate_left
  · simp only [Act.put, List.setIfInBounds_toArray, List.set_cons_zero, List.set_cons_succ, i64_w, i32_w]
    rfl
  refine take_ (i := 1) (N := some 4) (v := ?_) (a' := ?_) #[true, true, true, false, false, true, false, false, false, false] rfl rfl (take_ofW HT_.out HW_.out (by kernel_rfl)) (fun _ _ _ h => h) (Or.inl ⟨by rfl, ?_⟩) hHeld ?_ ?_
  rotate_left
  · rintro w' ⟨s0, s1, s2⟩
    go_simp
    with_reducible rfl
  rotate_left
  · simp only [Act.put, List.setIfInBounds_toArray, List.set_cons_zero, List.set_cons_succ, i64_w, i32_w]
    rfl
  refine take_ (i := 3) (N := some 6) (v := ?_) (a' := ?_) #[true, true, true, true, false, true, false, false, false, false] rfl rfl (take_ofW HT_.out HW_.out (by kernel_rfl)) (fun _ _ _ h => h) (Or.inl ⟨by rfl, ?_⟩) hHeld ?_ ?_
  rotate_left
  · rintro w' ⟨s0, s1, s2⟩
    go_simp
    with_reducible rfl
  rotate_left
  · simp only [Act.put, List.setIfInBounds_toArray, List.set_cons_zero, List.set_cons_succ, i64_w, i32_w]
    rfl
  refine take_ (i := 6) (N := some 9) (v := ?_) (a' := ?_) #[true, true, true, true, false, true, true, false, false, false] rfl rfl (take_ofW HT_.out HW_.out (by kernel_rfl)) (fun _ _ _ h => h) (Or.inl ⟨by rfl, ?_⟩) hHeld ?_ ?_
  rotate_left
  · rintro w' ⟨s0, s1, s2⟩
    go_simp
    with_reducible rfl
  rotate_left
  · simp only [Act.put, List.setIfInBounds_toArray, List.set_cons_zero, List.set_cons_succ, i64_w, i32_w]
    rfl
  refine one_ (i := 4) (N := some 7) #[true, true, true, true, true, true, true, false, false, false] rfl rfl (one_of HT_.out (by kernel_rfl)) (by decide) (fun K hK => ?_)
  refine goes_ Tryd.func28 (by kernel_rfl) rfl #[.slice A0_1 l0_1.length c0_1] (by rfl) rfl rfl (by (try simp only [List.map_toArray, List.map_cons, List.map_nil]); first | done | rfl | (simp only [List.length_drop, List.length_take]; rfl)) ?_
  with_reducible refine (laws_sigs.calls k _ _ l0_1 t308 _ ?side1 ?side2 A2.out).mono ?_
  (case side1 => repeat (first | exact (Kd.C_below HR0_1.out HB.out) | (with_reducible refine Kd.C_alloc ?_ _) | (with_reducible refine Kd.C_drewN ?_ _) | (with_reducible refine Kd.C_drew ?_)))
  (case side2 => exact HC0_1.out)
  rintro e w7 ⟨v309, rfl, ho0, hb⟩
  refine ⟨_, rfl, ?_⟩
  have n0_ := Aside0.mk (Kd.R_lower ho0 (below_size (by repeat (first | (with_reducible first | exact HB.out | apply below_alloc | apply pw_below_drewN | apply below_drew1 | refine below_set ?_ GE306.out | refine below_set ?_ GE307.out) | exact HB.out))))
  have n1_ := Aside0.mk (blk_below (g := gb306) (o := .cells #[.string a0_0, .slice A0_1 l0_1.length c0_1, .slice A0_2 l0_2.length c0_2] 40 (0, 0)) (by (with_reducible repeat (first | refine blk_drewN ?_ _ | refine blk_drew ?_ | refine blk_alloc ?_ _)); exact BK306.out) hb)
  have n2_ := Aside0.mk (blk_below (g := gb307) (o := .cells #[.string (⟨#[]⟩ : ByteArray), .slice none 0 0, .slice none 0 0] 27 (0, 0)) (by (with_reducible repeat (first | refine blk_drewN ?_ _ | refine blk_drew ?_ | refine blk_alloc ?_ _)); exact BK307.out) hb)
  have n3_ := Aside0.mk (below_step (by repeat (first | (with_reducible first | exact HB.out | apply below_alloc | apply pw_below_drewN | apply below_drew1 | refine below_set ?_ GE306.out | refine below_set ?_ GE307.out) | exact HB.out)) hb)
  clear BK306
  clear BK307
  clear HB
  have HO310 := n0_
  have BK306 := n1_
  have BK307 := n2_
  have HB := n3_
  clear n0_ n1_ n2_ n3_
  (try clear hb)
  (try clear hb2)
  (try clear hk)
  (try clear hi)
  (try clear ho0)
  refine hK.out _ _ ⟨(blk_cell BK306.out 0).trans rfl, (blk_cell BK306.out 1).trans rfl, (blk_cell BK306.out 2).trans rfl⟩ (fun hHeld => ?_)
  clear hK K
  refine norm_ (a' := ?_) ?_ ?_
  rotate_left
  · show Act.put _ (some 7) _ = _
    simp only [Act.put, List.setIfInBounds_toArray, List.set_cons_zero, List.set_cons_succ, i64_w, i32_w]
    rfl
  refine one_ (i := 7) (N := some 10) #[true, true, true, true, true, true, true, true, false, false] rfl rfl (one_of HT_.out (by kernel_rfl)) (by decide) (fun K hK => ?_)
  refine goes_ Tryd.func28 (by kernel_rfl) rfl #[.slice A0_2 l0_2.length c0_2] (by rfl) rfl rfl (by (try simp only [List.map_toArray, List.map_cons, List.map_nil]); first | done | rfl | (simp only [List.length_drop, List.length_take]; rfl)) ?_
  with_reducible refine (laws_sigs.calls k _ _ l0_2 t311 _ ?side1 ?side2 A3.out).mono ?_
  (case side1 => repeat (first | exact (Kd.C_below HR0_2.out HB.out) | (with_reducible refine Kd.C_alloc ?_ _) | (with_reducible refine Kd.C_drewN ?_ _) | (with_reducible refine Kd.C_drew ?_)))
  (case side2 => exact HC0_2.out)
  rintro e w8 ⟨v312, rfl, ho0, hb⟩
  refine ⟨_, rfl, ?_⟩
  have n0_ := Aside0.mk (Kd.R_elder' (by (with_reducible repeat (first | apply Kd.R_alloc | apply Kd.R_drewN | apply Kd.R_drew)); exact HO310.out) (Kd.R_base ho0) hb)
  have n1_ := Aside0.mk (Kd.R_lower (Kd.R_new' ho0 (Kd.R_lt (by (with_reducible repeat (first | apply Kd.R_alloc | apply Kd.R_drewN | apply Kd.R_drew)); exact HO310.out))) (below_size (by repeat (first | (with_reducible first | exact HB.out | apply below_alloc | apply pw_below_drewN | apply below_drew1 | refine below_set ?_ GE306.out | refine below_set ?_ GE307.out) | exact HB.out))))
  have n2_ := Aside0.mk (blk_below (g := gb306) (o := .cells #[.string a0_0, .slice A0_1 l0_1.length c0_1, .slice A0_2 l0_2.length c0_2] 40 (0, 0)) (by (with_reducible repeat (first | refine blk_drewN ?_ _ | refine blk_drew ?_ | refine blk_alloc ?_ _)); exact BK306.out) hb)
  have n3_ := Aside0.mk (blk_below (g := gb307) (o := .cells #[.string (⟨#[]⟩ : ByteArray), .slice none 0 0, .slice none 0 0] 27 (0, 0)) (by (with_reducible repeat (first | refine blk_drewN ?_ _ | refine blk_drew ?_ | refine blk_alloc ?_ _)); exact BK307.out) hb)
  have n4_ := Aside0.mk (below_step (by repeat (first | (with_reducible first | exact HB.out | apply below_alloc | apply pw_below_drewN | apply below_drew1 | refine below_set ?_ GE306.out | refine below_set ?_ GE307.out) | exact HB.out)) hb)
  clear HO310
  clear BK306
  clear BK307
  clear HB
  have HO310 := n0_
  have HO313 := n1_
  have BK306 := n2_
  have BK307 := n3_
  have HB := n4_
  clear n0_ n1_ n2_ n3_ n4_
  (try clear hb)
  (try clear hb2)
  (try clear hk)
  (try clear hi)
  (try clear ho0)
  obtain ⟨Ao9, co9, eo9⟩ := Kd.R_slice HO313.out
  (first | subst eo9 | (injection eo9 with f1_ f2_ f3_; have f4_ := f1_.symm; have f5_ := f3_.symm; clear f1_ f2_ f3_; subst f4_; subst f5_))
  obtain ⟨Ao10, co10, eo10⟩ := Kd.R_slice HO310.out
  (first | subst eo10 | (injection eo10 with f1_ f2_ f3_; have f4_ := f1_.symm; have f5_ := f3_.symm; clear f1_ f2_ f3_; subst f4_; subst f5_))
  refine hK.out _ _ ⟨(blk_cell BK306.out 0).trans rfl, (blk_cell BK306.out 1).trans rfl, (blk_cell BK306.out 2).trans rfl⟩ (fun hHeld => ?_)
  clear hK K
  refine norm_ (a' := ?_) ?_ ?_
  rotate_left
  · show Act.put _ (some 10) _ = _
    simp only [Act.put, List.setIfInBounds_toArray, List.set_cons_zero, List.set_cons_succ, i64_w, i32_w]
    rfl
  refine pure_ (i := 8) (N := some 11) (v := ?_) (a' := ?_) #[true, true, true, true, true, true, true, true, true, false] rfl rfl (any_of HT_.out (by kernel_rfl)) (fun _ _ _ h => h) (Or.inl ⟨by rfl, ?_⟩) ?_ ?_
  rotate_left
  · intro w'
    go_simp
    with_reducible rfl
  rotate_left
  · simp only [Act.put, List.setIfInBounds_toArray, List.set_cons_zero, List.set_cons_succ, i64_w, i32_w]
    rfl
  refine one_ (i := 9) (N := none) #[true, true, true, true, true, true, true, true, true, true] rfl rfl (one_of HT_.out (by kernel_rfl)) (by decide) (fun K hK => ?_)
  have hs11 : w8.cell? ⟨gb307, 0, none⟩ = some (.string (⟨#[]⟩ : ByteArray)) := (blk_cell BK307.out 0).trans rfl
  have hfs11 := blk_frozen BK307.out 0
  have hns11_0 := NB306_307.out
  have hms11_0 := NB307_306.out
  have hs12 : w8.cell? ⟨gb307, 1, none⟩ = some (.slice none 0 0) := (blk_cell BK307.out 1).trans rfl
  have hfs12 := blk_frozen BK307.out 1
  have hns12_0 := NB306_307.out
  have hms12_0 := NB307_306.out
  have hs13 : w8.cell? ⟨gb307, 2, none⟩ = some (.slice none 0 0) := (blk_cell BK307.out 2).trans rfl
  have hfs13 := blk_frozen BK307.out 2
  have hns13_0 := NB306_307.out
  have hms13_0 := NB307_306.out
  refine skip_ (w1 := ?_) (by rfl) rfl ?_ ?_
  rotate_left
  · go_simp
    rfl
  refine hK.out _ _ ⟨((cell_far (p := ⟨gb307, _, none⟩) NB306_307.out _).trans (((cell_far (p := ⟨gb307, _, none⟩) NB306_307.out _).trans (((cell_far (p := ⟨gb307, _, none⟩) NB306_307.out _).trans (hHeld.1)))))), ((cell_far (p := ⟨gb307, _, none⟩) NB306_307.out _).trans (((cell_far (p := ⟨gb307, _, none⟩) NB306_307.out _).trans (((cell_far (p := ⟨gb307, _, none⟩) NB306_307.out _).trans (hHeld.2.1)))))), ((cell_far (p := ⟨gb307, _, none⟩) NB306_307.out _).trans (((cell_far (p := ⟨gb307, _, none⟩) NB306_307.out _).trans (((cell_far (p := ⟨gb307, _, none⟩) NB306_307.out _).trans (hHeld.2.2))))))⟩ (fun hHeld => ?_)
  clear hK K
  refine done_ (done_of HT_.out (by kernel_rfl)) ?_
  try go_wp2
  refine bodyPost_ret (results_cell_row rfl _ _ gb307 27 #[.string a0_0, .slice Ao10 t308.length co10, .slice Ao9 t311.length co9] (0, 0) _ rfl (by (with_reducible repeat (first | refine blk_drewN ?_ _ | refine blk_drew ?_ | refine blk_alloc ?_ _)); refine blk_put (cs := #[.string a0_0, .slice Ao10 t308.length co10, .slice none 0 0]) ?_ 2 _ rfl; (with_reducible repeat (first | refine blk_drewN ?_ _ | refine blk_drew ?_ | refine blk_alloc ?_ _)); refine blk_put (cs := #[.string a0_0, .slice none 0 0, .slice none 0 0]) ?_ 1 _ rfl; (with_reducible repeat (first | refine blk_drewN ?_ _ | refine blk_drew ?_ | refine blk_alloc ?_ _)); refine blk_put (cs := #[.string (⟨#[]⟩ : ByteArray), .slice none 0 0, .slice none 0 0]) ?_ 0 _ rfl; (with_reducible repeat (first | refine blk_drewN ?_ _ | refine blk_drew ?_ | refine blk_alloc ?_ _)); exact BK307.out) Tryd.underlying27 rfl (by kernel_rfl)) rfl ?_
  exact ⟨_, _, by first | rfl | (simp [errW_none, errW_some] <;> rfl) | (simp [*, errW_none, errW_some] <;> rfl), by (with_reducible repeat (first | apply Kd.R_alloc | apply Kd.R_drewN | apply Kd.R_drew)); exact Kd.R_mono (Kd.R_far (p := ⟨gb307, 2, none⟩) (Kd.R_far (p := ⟨gb307, 1, none⟩) (Kd.R_far (p := ⟨gb307, 0, none⟩) (Kd.R_types HO310.out BK307.out (by decide)) (fun _ hk => hk.2) (.string a0_0)) (fun _ hk => hk.2) (.slice Ao10 t308.length co10)) (fun _ hk => hk.2) (.slice Ao9 t311.length co9)) (fun _ hk => hk.1.2), by (with_reducible repeat (first | apply Kd.R_alloc | apply Kd.R_drewN | apply Kd.R_drew)); exact Kd.R_mono (Kd.R_far (p := ⟨gb307, 2, none⟩) (Kd.R_far (p := ⟨gb307, 1, none⟩) (Kd.R_far (p := ⟨gb307, 0, none⟩) (Kd.R_types HO313.out BK307.out (by decide)) (fun _ hk => hk.2) (.string a0_0)) (fun _ hk => hk.2) (.slice Ao10 t308.length co10)) (fun _ hk => hk.2) (.slice Ao9 t311.length co9)) (fun _ hk => hk.1.2), by repeat (first | (with_reducible first | exact HB.out | apply below_alloc | apply pw_below_drewN | apply below_drew1 | refine below_set ?_ GE306.out | refine below_set ?_ GE307.out) | exact HB.out)⟩
end Go.Proofs.YtkbegfihdpiacaaDoor.PX

namespace Go.Proofs.YtkbegfihdpiacaaDoor.PX
open Go.RowKit Nt Go.Lib Go.Maps Go.Proofs.YtkbegfihdpiacaaDoorW.PrintWords Go.Proofs.YtkbegfihdpiacaaDoorW.PrintLast
set_option linter.unusedVariables false
set_option linter.unusedSimpArgs false
def s37 (x : S75) : S37 := ⟨x.f0, x.f1, x.f2⟩
theorem rd75 (l : List S75) (i : Nat) (h : i < l.length) : rd_T75 l (i : Int) = l[i] := by
  unfold rd_T75; simp [List.getElem?_eq_getElem h]
theorem sigs_l0 (x : List S75) (hx : x.length ≤ 1000000) : ∀ (k i : Nat) (acc : List S37), acc.length ≤ i → i ≤ x.length → x.length - i < k → laws_sigs.l0 k acc x (x.length : Int) (i : Int) = some (acc ++ (x.drop i).map s37)
  | 0, i, acc, _, _, h => by omega
  | k + 1, i, acc, ha, hi, h => by
    unfold laws_sigs.l0
    by_cases hlt : i < x.length
    · rw [if_pos (by omega), if_pos (by omega), if_pos (by omega), if_pos (by omega), w1 i (by omega), sigs_l0 x hx k (i + 1) _ (by rw [List.length_append]; simp only [List.length_cons, List.length_nil]; omega) (by omega) (by omega), List.drop_eq_getElem_cons hlt, List.map_cons, List.append_assoc, rd75 x i hlt]
      rfl
    · rw [if_neg (by omega), List.drop_eq_nil_of_le (by omega)]
      simp
theorem sigs_f (x : List S75) (hx : x.length ≤ 1000000) (k : Nat) (hk : x.length < k) : laws_sigs.f k x = some (x.map s37) := by
  have h := sigs_l0 x hx k 0 [] (Nat.le_refl _) (by omega) (by omega)
  unfold laws_sigs.f
  simpa using h
theorem convC (t : ByteArray) (l1 l2 : List S75) (h1 : l1.length ≤ 1000000) (h2 : l2.length ≤ 1000000) (A1 : Option Addr) (c1 : Nat) (A2 : Option Addr) (c2 : Nat) (W : World) (r1 : l1.length ≤ c1 ∧ Kd.C k75 W A1 l1.length l1) (r2 : l2.length ≤ c2 ∧ Kd.C k75 W A2 l2.length l2) :
    Calls Tryd.prog 13 #[.agg #[.string t, .slice A1 l1.length c1, .slice A2 l2.length c2]] W fun e w' => ∃ v1 v2 : Value, e = .returned (.agg #[.string t, v1, v2]) ∧ Kd.R k37 37 w' W.heap.size (fun _ => True) v1 (l1.map s37) ∧ Kd.R k37 37 w' W.heap.size (fun _ => True) v2 (l2.map s37) ∧ Below W.heap.size W w' := by
  refine (laws_conv.calls (l1.length + l2.length + 1) t A1 c1 l1 A2 c2 l2 t (l1.map s37) (l2.map s37) W r1.2 r1.1 r2.2 r2.1 ?_).mono ?_
  · unfold laws_conv.f
    rw [sigs_f l1 h1 _ (by omega), sigs_f l2 h2 _ (by omega)]
    rfl
  · rintro e w' ⟨v1, v2, rfl, q1, q2, hb⟩
    exact ⟨v1, v2, rfl, Kd.R_mono q1 fun _ _ => trivial, Kd.R_mono q2 fun _ _ => trivial, hb⟩
theorem same_l0 (l : List S37) (hk : l.length ≤ 2147483647) : ∀ (k i : Nat), i ≤ l.length → l.length - i < k → spec_SameSigs.l0 k l l (l.length : Int) (i : Int) = some true
  | 0, i, _, hf => by omega
  | k + 1, i, hi, hf => by
    unfold spec_SameSigs.l0
    by_cases hlt : i < l.length
    · rw [if_pos (by omega), if_pos (by omega), if_pos (by omega), if_pos (by omega), w1 i (by omega), same_l0 l hk k (i + 1) (by omega) (by omega), if_neg (by simp)]
    · rw [if_neg (by omega)]
theorem sameSigs_f (l : List S37) (hk : l.length ≤ 2147483647) (k : Nat) (hf : l.length < k) : spec_SameSigs.f k l l = some true := by
  unfold spec_SameSigs.f
  rw [if_pos rfl]
  exact same_l0 l hk k 0 (Nat.zero_le _) (by omega)
theorem sameC (t : ByteArray) (l1 l2 : List S37) (h1 : l1.length ≤ 1000000) (h2 : l2.length ≤ 1000000) (A1 : Option Addr) (c1 : Nat) (A2 : Option Addr) (c2 : Nat) (B1 : Option Addr) (d1 : Nat) (B2 : Option Addr) (d2 : Nat) (W : World)
    (r1 : l1.length ≤ c1 ∧ Kd.C k37 W A1 l1.length l1) (r2 : l2.length ≤ c2 ∧ Kd.C k37 W A2 l2.length l2) (q1 : l1.length ≤ d1 ∧ Kd.C k37 W B1 l1.length l1) (q2 : l2.length ≤ d2 ∧ Kd.C k37 W B2 l2.length l2) :
    Calls Tryd.prog 12 #[.agg #[.string t, .slice A1 l1.length c1, .slice A2 l2.length c2], .agg #[.string t, .slice B1 l1.length d1, .slice B2 l2.length d2]] W fun e w' => e = .returned (.bool true) ∧ Below W.heap.size W w' :=
  spec_Same.calls (l1.length + l2.length + 1) t A1 c1 l1 A2 c2 l2 t B1 d1 l1 B2 d2 l2 true W r1.2 r1.1 r2.2 r2.1 q1.2 q1.1 q2.2 q2.1 (by
    unfold spec_Same.f
    rw [if_pos rfl, sameSigs_f l1 (by omega) _ (by omega), sameSigs_f l2 (by omega) _ (by omega)]
    rfl)
/-- Rows that are read, with a length of their own. -/
abbrev Rd37 (W : World) (A : Option Addr) (n c : Nat) (l : List S37) : Prop := l.length = n ∧ n ≤ c ∧ Kd.C k37 W A n l
theorem Rd37.of {W : World} {B e : Nat} {ok : Nat → Prop} {A : Option Addr} {n c : Nat} {l : List S37} (h : Kd.R k37 e W B ok (.slice A n c) l) (hn : l.length = n) : Rd37 W A n c l := by
  subst hn
  exact ⟨rfl, (Kd.R_reads' h).2⟩
theorem Rd37.below {w W : World} {A : Option Addr} {n c : Nat} {l : List S37} (h : Rd37 w A n c l) (hb : Below w.heap.size w W) : Rd37 W A n c l := ⟨h.1, h.2.1, Kd.C_below h.2.2 hb⟩
theorem convR (t : ByteArray) (l1 l2 : List S75) (h1 : l1.length ≤ 1000000) (h2 : l2.length ≤ 1000000) (A1 : Option Addr) (c1 : Nat) (A2 : Option Addr) (c2 : Nat) (W : World) (r1 : l1.length ≤ c1 ∧ Kd.C k75 W A1 l1.length l1) (r2 : l2.length ≤ c2 ∧ Kd.C k75 W A2 l2.length l2) :
    Calls Tryd.prog 13 #[.agg #[.string t, .slice A1 l1.length c1, .slice A2 l2.length c2]] W fun e w' => ∃ B1 b1 B2 b2, e = .returned (.agg #[.string t, .slice B1 l1.length b1, .slice B2 l2.length b2]) ∧ Rd37 w' B1 l1.length b1 (l1.map s37) ∧ Rd37 w' B2 l2.length b2 (l2.map s37) ∧ Below W.heap.size W w' := by
  refine (convC t l1 l2 h1 h2 A1 c1 A2 c2 W r1 r2).mono ?_
  rintro e w' ⟨v1, v2, rfl, q1, q2, hb⟩
  obtain ⟨B1, b1, rfl⟩ := Kd.R_slice q1
  obtain ⟨B2, b2, rfl⟩ := Kd.R_slice q2
  rw [List.length_map] at q1 q2 ⊢
  rw [List.length_map]
  exact ⟨B1, b1, B2, b2, rfl, .of q1 (List.length_map _), .of q2 (List.length_map _), hb⟩
theorem sameR (t : ByteArray) (l1 l2 : List S37) (n1 n2 : Nat) (h1 : n1 ≤ 1000000) (h2 : n2 ≤ 1000000) {A1 : Option Addr} {c1 : Nat} {A2 : Option Addr} {c2 : Nat} {B1 : Option Addr} {d1 : Nat} {B2 : Option Addr} {d2 : Nat} (W : World)
    (r1 : Rd37 W A1 n1 c1 l1) (r2 : Rd37 W A2 n2 c2 l2) (q1 : Rd37 W B1 n1 d1 l1) (q2 : Rd37 W B2 n2 d2 l2) :
    Calls Tryd.prog 12 #[.agg #[.string t, .slice A1 n1 c1, .slice A2 n2 c2], .agg #[.string t, .slice B1 n1 d1, .slice B2 n2 d2]] W fun e w' => e = .returned (.bool true) ∧ Below W.heap.size W w' := by
  obtain ⟨rfl, r1⟩ := r1
  obtain ⟨rfl, r2⟩ := r2
  exact sameC t l1 l2 h1 h2 A1 c1 A2 c2 B1 d1 B2 d2 W r1 r2 q1.2 q2.2
end Go.Proofs.YtkbegfihdpiacaaDoor.PX

namespace Go.Proofs.YtkbegfihdpiacaaDoor.PX
open Go.RowKit Nt Go.Lib Go.Maps Go.Proofs.YtkbegfihdpiacaaDoorW.PrintWords Go.Proofs.YtkbegfihdpiacaaDoorW.PrintLast
set_option linter.unusedVariables false
set_option linter.unusedSimpArgs false
theorem outM_len (t : ByteArray) (o : ORes) (h : ∀ s u, o = .ok s u → s.length ≤ 1000000 ∧ u.length ≤ 1000000) : (outM t o).2.1.length ≤ 1000000 ∧ (outM t o).2.2.1.length ≤ 1000000 := by
  cases o with
  | bad => exact ⟨by show 0 ≤ _; omega, by show 0 ≤ _; omega⟩
  | inv nm g => exact ⟨by show 1 ≤ _; omega, by show 0 ≤ _; omega⟩
  | ok s u =>
    obtain ⟨h1, h2⟩ := h s u rfl
    cases s with
    | nil => exact ⟨by show 0 ≤ _; omega, by unfold outM; simpa using h2⟩
    | cons x s => exact ⟨by unfold outM; simpa using h1, by unfold outM; simpa using h2⟩
/-- What the two make of a message, where the reference tells something. -/
theorem told_out {ks : List S34} {l : List UInt8} {r1 : ByteArray} {r2 r3 : List S37} {r4 : Int} (h : ((r1, r2, r3, r4, true) : ByteArray × List S37 × List S37 × Int × Bool) = resD (openM ks l).1 (openM ks l).2)
    (hcnt : ∀ i, lastN l l.length = some i → l[l.length - 1]? = some 10 → (linesD (l.drop (i + 2))).length ≤ 100) :
    ∃ (p1 p2 : List S75), outM (openM ks l).1 (openM ks l).2 = (r1, p1, p2, r4) ∧ r2 = p1.map s37 ∧ r3 = p2.map s37 ∧ p1.length ≤ 1000000 ∧ p2.length ≤ 1000000 := by
  obtain ⟨e4, e1, e2, e3⟩ := out_res (openM ks l).1 (openM ks l).2
  obtain ⟨g1, g2⟩ := outM_len (openM ks l).1 (openM ks l).2 (openM_len ks l hcnt)
  rw [← h] at e1 e2 e3 e4
  exact ⟨_, _, Prod.ext e1 (Prod.ext rfl (Prod.ext rfl e4)), e2.symm, e3.symm, g1, g2⟩
/-- What Open of the entry points leaves, read. -/
abbrev IORd (W : World) (t : ByteArray) (p1 p2 : List S75) (k : Int) (e : Ending) (w' : World) : Prop :=
  ∃ E1 e1 E2 e2, e = .returned (.tuple #[.agg #[.string t, .slice E1 p1.length e1, .slice E2 p2.length e2], .int .i64 k]) ∧ (p1.length ≤ e1 ∧ Kd.C k75 w' E1 p1.length p1) ∧ (p2.length ≤ e2 ∧ Kd.C k75 w' E2 p2.length p2) ∧ Below W.heap.size W w'
theorem IOPost.rd {W : World} {t : ByteArray} {p1 p2 : List S75} {k : Int} {e : Ending} {w' : World} (h : IOPost W (t, p1, p2, k) e w') : IORd W t p1 p2 k e w' := by
  obtain ⟨v1, v2, rfl, hq1, hq2, hb⟩ := h
  obtain ⟨E1, e1, rfl⟩ := Kd.R_slice hq1
  obtain ⟨E2, e2, rfl⟩ := Kd.R_slice hq2
  exact ⟨E1, e1, E2, e2, rfl, (Kd.R_reads' hq1).2, (Kd.R_reads' hq2).2, hb⟩
theorem bs6 {w W : World} {g g' : Nat} {x0 x1 x2 y0 y1 y2 : Value} (hb : Below w.heap.size w W) (h0 : w.cell? ⟨g, 0, none⟩ = some x0) (h1 : w.cell? ⟨g, 1, none⟩ = some x1) (h2 : w.cell? ⟨g, 2, none⟩ = some x2) (k0 : w.cell? ⟨g', 0, none⟩ = some y0) (k1 : w.cell? ⟨g', 1, none⟩ = some y1) (k2 : w.cell? ⟨g', 2, none⟩ = some y2) :
    Below w.heap.size w W ∧ W.cell? ⟨g, 0, none⟩ = some x0 ∧ W.cell? ⟨g, 1, none⟩ = some x1 ∧ W.cell? ⟨g, 2, none⟩ = some x2 ∧ W.cell? ⟨g', 0, none⟩ = some y0 ∧ W.cell? ⟨g', 1, none⟩ = some y1 ∧ W.cell? ⟨g', 2, none⟩ = some y2 :=
  ⟨hb, pw_cell_below hb h0, pw_cell_below hb h1, pw_cell_below hb h2, pw_cell_below hb k0, pw_cell_below hb k1, pw_cell_below hb k2⟩
set_option maxRecDepth 100000 in
set_option maxHeartbeats 4000000 in
theorem fnOpen_any (w : World) (l : List UInt8) (A0 : Option Addr) (c0 : Nat) (ks : List S34) (eM : Value) (H : LW w A0 c0 ks eM) :
    Calls Tryd.prog 4 #[.string (S l), .slice A0 ks.length c0] w fun e w' => e = .returned (.bool true) ∧ Below w.heap.size w w' := by
  have HH := Lib.hid H
  clear H
  obtain ⟨bf, hbf, hcf⟩ := HH.out.fits
  have HF := Lib.hid hcf
  clear hcf
  by_cases hl : l.length ≤ 2147483647
  · have c1 : decide (2147483647 < ((S l).size : Int)) = false := by rw [S_sz]; exact decide_eq_false (by omega)
    have c2 : decide (2147483647 < (S l).size) = false := by rw [S_sz]; exact decide_eq_false (by omega)
    have HL := Lib.hid hl
    clear hl
    cases bf with
    | false =>
      go_enter Tryd.func4, Tryd.ntmps4
      go_wp2_with (go_at_call 7; refine (HF.out _ (Below.refl _ _)).mono ?_; rintro e w1 ⟨rfl, hb1⟩)
      go_ret
      exact ⟨rfl, hb1⟩
    | true =>
      have FK := Lib.hid (hbf rfl)
      clear hbf
      obtain ⟨r1, r2, r3, r4, r5, hres, hop⟩ := LW.sopen FK.out l HL.out
      have HOP := Lib.hid hop
      have HRES := Lib.hid hres
      obtain ⟨bg, hbg, hgd⟩ := LW.good FK.out.few
      have HG := Lib.hid hgd
      clear hop hres hgd
      go_enter Tryd.func4, Tryd.ntmps4
      go_upto_region 4 with (first
        | (go_at_call 7; with_reducible refine (HF.out _ (Below.refl _ _)).mono ?_; rintro e w1 ⟨rfl, hb1⟩; have H1 := Lib.hid (HH.out.below hb1); have B1 := Lib.hid hb1; clear hb1)
        | (go_at_call 9; with_reducible refine (H1.out.keys FK.out.few).mono ?_; rintro e w2 ⟨A2, c2, rfl, hc2, hC2, hb2⟩; have HC2 := Lib.hid hC2; have B2 := Lib.hid (B1.out.trans (hb2.mono B1.out.size)); clear hC2 hb2)
        | (go_at_call 8; with_reducible refine (HOP.out _ _ _ HC2.out hc2).mono ?_; rintro e w3 ⟨v1, v2, rfl, hr1, hr2, hb3⟩; obtain ⟨D1, d1, rfl⟩ := Kd.R_slice hr1; obtain ⟨D2, d2, rfl⟩ := Kd.R_slice hr2; have B3 := Lib.hid (B2.out.trans (hb3.mono B2.out.size)); have HR1 := Lib.hid (Kd.R_reads' hr1).2; have HR2 := Lib.hid (Kd.R_reads' hr2).2; clear hr1 hr2 hb3)
        | fail)
      have hB3 := B3.out.alloc B3.out.size (.cells #[.string r1, .slice D1 r2.length d1, .slice D2 r3.length d2] 27)
      have hs3 := (Below.refl w3.heap.size w3).alloc (Nat.le_refl _) (.cells #[.string r1, .slice D1 r2.length d1, .slice D2 r3.length d2] 27)
      have hx3 := heap_alloc_new w3 (.cells #[.string r1, .slice D1 r2.length d1, .slice D2 r3.length d2] 27)
      have hc1 := Kd.C_below HR1.out.2 hs3
      have hc2' := Kd.C_below HR2.out.2 hs3
      generalize w3.alloc (.cells #[.string r1, .slice D1 r2.length d1, .slice D2 r3.length d2] 27) = W3 at *
      generalize w3.heap.size = g5 at *
      have B3' := Lib.hid hB3
      have H3 := Lib.hid (HH.out.below hB3)
      have HX3 := Lib.hid hx3
      have HC1 := Lib.hid (And.intro HR1.out.1 hc1)
      have HC2' := Lib.hid (And.intro HR2.out.1 hc2')
      clear hB3 B3 HC2 hc2 H1 B1 B2 HR1 HR2 hs3 hx3 hc1 hc2'
      cases r5 with
      | false =>
        go_wp2_with fail
        go_ret
        exact ⟨rfl, B3'.out⟩
      | true =>
        cases bg with
        | false =>
          go_wp2_with (first
            | (go_at_call 9; with_reducible refine (H3.out.keys FK.out.few).mono ?_; rintro e w4 ⟨A4, c4, rfl, hc4, hC4, hb4⟩; have HC4 := Lib.hid hC4; have B4 := Lib.hid (B3'.out.trans (hb4.mono B3'.out.size)); clear hC4 hb4)
            | (go_at_call 10; with_reducible refine (HG.out _ _ _ HC4.out hc4).mono ?_; rintro e w5 ⟨rfl, hb5⟩; have B5 := Lib.hid (B4.out.trans (hb5.mono B4.out.size)); clear hb5)
            | fail)
          go_ret
          exact ⟨rfl, B5.out⟩
        | true =>
          have HGK := Lib.hid (hbg rfl)
          have HRS := Lib.hid (HRES.out rfl).2
          obtain ⟨p1, p2, hom, rfl, rfl, hp1, hp2⟩ := told_out (HRES.out rfl).1 HRS.out
          clear hbg HRES HOP
          have hio : ∀ W, LW W A0 c0 ks eM → Calls Tryd.prog 11 #[.string (S l), .slice A0 ks.length c0] W (IORd W r1 p1 p2 r4) := fun W hW => (hW.iopen FK.out HGK.out l HL.out HRS.out).mono fun e w' hp => (hom ▸ hp : IOPost W (r1, p1, p2, r4) e w').rd
          have HIO := Lib.hid hio
          have HP := Lib.hid (And.intro hp1 hp2)
          clear hio hom hp1 hp2
          have hr1 : Rd37 W3 D1 p1.length d1 (p1.map s37) := by have := HC1.out; rw [List.length_map] at this; exact ⟨List.length_map _, this⟩
          have hr2 : Rd37 W3 D2 p2.length d2 (p2.map s37) := by have := HC2'.out; rw [List.length_map] at this; exact ⟨List.length_map _, this⟩
          have HR1 := Lib.hid hr1
          have HR2 := Lib.hid hr2
          have hx := HX3.out
          rw [List.length_map, List.length_map] at hx
          have HX := Lib.hid hx
          clear hr1 hr2 hx HC1 HC2' HX3
          go_upto_region 7 with (first
            | (go_at_call 9; with_reducible refine (H3.out.keys FK.out.few).mono ?_; rintro e w4 ⟨A4, c4, rfl, hc4, hC4, hb4⟩; have HC4 := Lib.hid hC4; have T4 := Lib.hid hb4; clear hC4 hb4)
            | (go_at_call 10; with_reducible refine (HG.out _ _ _ HC4.out hc4).mono ?_; rintro e w5 ⟨rfl, hb5⟩; have T5 := Lib.hid (T4.out.trans (hb5.mono T4.out.size)); have H5 := Lib.hid (H3.out.below T5.out); clear hb5)
            | (go_at_call 11; with_reducible refine (HIO.out _ H5.out).mono ?_; rintro e w6 ⟨E1, e1, E2, e2, rfl, hq1, hq2, hb6⟩; have T6 := Lib.hid (T5.out.trans (hb6.mono T5.out.size)); have HQ1 := Lib.hid hq1; have HQ2 := Lib.hid hq2; clear hq1 hq2 hb6)
            | fail)
          have hs := (Below.refl w6.heap.size w6).alloc (Nat.le_refl _) (.cells #[.string r1, .slice E1 p1.length e1, .slice E2 p2.length e2] 40)
          have hx6 := heap_alloc_new w6 (.cells #[.string r1, .slice E1 p1.length e1, .slice E2 p2.length e2] 40)
          have hT := T6.out.trans (hs.mono T6.out.size)
          have hm1 := Kd.C_below HQ1.out.2 hs
          have hm2 := Kd.C_below HQ2.out.2 hs
          generalize w6.alloc (.cells #[.string r1, .slice E1 p1.length e1, .slice E2 p2.length e2] 40) = W6 at *
          generalize w6.heap.size = g8 at *
          obtain ⟨d0, d1', d2', -, -, -⟩ := three hx6
          obtain ⟨k0, k1, k2, -, -, -⟩ := three ((hT.block _ (blk_lt HX.out)).trans HX.out)
          have B6 := Lib.hid (B3'.out.trans (hT.mono B3'.out.size))
          have HM1 := Lib.hid (HR1.out.below hT)
          have HM2 := Lib.hid (HR2.out.below hT)
          have hcv : ∀ W, Below W6.heap.size W6 W → _ := fun W hW => convR r1 p1 p2 HP.out.1 HP.out.2 E1 e1 E2 e2 W ⟨HQ1.out.1, Kd.C_below hm1 hW⟩ ⟨HQ2.out.1, Kd.C_below hm2 hW⟩
          have HCV := Lib.hid hcv
          clear hcv hm1 hm2 hT hs hx6 HX HR1 HR2 T4 T5 T6 HQ1 HQ2 H3 H5 HC4 hc4
          go_region_held3 (fun W => Below W6.heap.size W6 W ∧ W.cell? ⟨g8, 0, none⟩ = some (.string r1) ∧ W.cell? ⟨g8, 1, none⟩ = some (.slice E1 p1.length e1) ∧ W.cell? ⟨g8, 2, none⟩ = some (.slice E2 p2.length e2) ∧ W.cell? ⟨g5, 0, none⟩ = some (.string r1) ∧ W.cell? ⟨g5, 1, none⟩ = some (.slice D1 p1.length d1) ∧ W.cell? ⟨g5, 2, none⟩ = some (.slice D2 p2.length d2))
            (first | exact bs6 (below_drew1 (Below.refl _ _)) d0 d1' d2' k0 k1 k2 | exact bs6 hq1 d0 d1' d2' k0 k1 k2 | exact bs6 hq2 d0 d1' d2' k0 k1 k2 | fail)
            (first
              | (go_at_call 13; with_reducible refine (HCV.out _ (‹Below W6.heap.size W6 _ ∧ _›).1).mono ?_; rintro e w8 ⟨B1, b1, B2, b2, rfl, hx1, hx2, hb8⟩; have hq1 := (below_drew1 (Below.refl W6.heap.size W6)).trans (hb8.mono (below_drew1 (Below.refl W6.heap.size W6)).size))
              | (go_at_call 12; with_reducible refine (sameR r1 (p1.map s37) (p2.map s37) p1.length p2.length HP.out.1 HP.out.2 _ hx1 hx2 (HM1.out.below hq1) (HM2.out.below hq1)).mono ?_; rintro e w9 ⟨rfl, hb9⟩; have hq2 := hq1.trans (hb9.mono hq1.size)))
          go_wp2_with fail
          go_ret
          exact ⟨rfl, B6.out.trans (hq2.mono B6.out.size)⟩
  · have c1 : decide (2147483647 < ((S l).size : Int)) = true := by rw [S_sz]; exact decide_eq_true (by omega)
    have c2 : decide (2147483647 < (S l).size) = true := by rw [S_sz]; exact decide_eq_true (by omega)
    clear hl hbf
    go_enter Tryd.func4, Tryd.ntmps4
    go_wp2_with fail
    go_ret
    exact ⟨rfl, Below.refl _ _⟩
end Go.Proofs.YtkbegfihdpiacaaDoor.PX

namespace Go.Proofs.YtkbegfihdpiacaaDoor.PX
open Go.RowKit Go.Proofs.YtkbegfihdpiacaaDoorW.PrintWords Go.Proofs.YtkbegfihdpiacaaDoorW.PrintLast Go.Proofs.YtkbegfihdpiacaaDoorW.PrintMore
attribute [local go_sem] max2_int min2_int max_two min_two max_three min_three max_four min_four   -- for this text's walks alone
set_option linter.unusedVariables false
set_option linter.unusedSimpArgs false
mutual
def spec_Small.j0 : Nat → List (S83) → Bool → ByteArray → List (S37) → List (S37) → Option (Bool)
  | 0, _, _, _, _, _ => none
  | k + 1, x1, x29, x371000, x371001, x371002 => if x29 = true then (some false) else ((some (([] : List (S37)) : List (S37))).bind fun y371 => (if y371.length + x371001.length < 3518437208883 then ((some (y371 ++ x371001 : List (S37))).bind fun y374 => (if y374.length + x371002.length < 3518437208883 then ((some (y374 ++ x371002 : List (S37))).bind fun y377 => (spec_Small.l0 k x1 y377 (y377.length : Int) 0)) else (none))) else (none)))
def spec_Small.l0 : Nat → List (S83) → List (S37) → Int → Int → Option (Bool)
  | 0, _, _, _, _ => none
  | k + 1, x1, x36, x37, x38 => if x38 < x37 then (if 0 ≤ x38 then (if x38 < (x36.length : Int) then (if (((rd_T37 x36 x38).f0).size : Int) > 60 then (some false) else (if (((rd_T37 x36 x38).f2).size : Int) > 120 then (some false) else (spec_Small.l0 k x1 x36 x37 (wrap64 (x38 + 1))))) else (none)) else (none)) else (spec_Small.l1 k x1 (x1.length : Int) 0)
def spec_Small.l1 : Nat → List (S83) → Int → Int → Option (Bool)
  | 0, _, _, _ => none
  | k + 1, x53, x54, x55 => if x55 < x54 then (if 0 ≤ x55 then (if x55 < (x53.length : Int) then (if (((rd_T83 x53 x55).f0).size : Int) > 60 then (some false) else (if (((rd_T83 x53 x55).f2).size : Int) > 60 then (some false) else (spec_Small.l1 k x53 x54 (wrap64 (x55 + 1))))) else (none)) else (none)) else (some true)
end
def spec_Small.f (k : Nat) (a0_0 : ByteArray) (l0_1 : List (S37)) (l0_2 : List (S37)) (l1 : List (S83)) : Option (Bool) := if (a0_0.size : Int) > 2000 then (spec_Small.j0 k l1 true a0_0 l0_1 l0_2) else (if (l0_1.length : Int) > 8 then (spec_Small.j0 k l1 true a0_0 l0_1 l0_2) else (if (l0_2.length : Int) > 8 then (spec_Small.j0 k l1 true a0_0 l0_1 l0_2) else (spec_Small.j0 k l1 (decide ((l1.length : Int) > 8)) a0_0 l0_1 l0_2)))
theorem spec_Small.mono_l : ∀ k, (∀ y0 y1 y2 y3 y4, LeO (spec_Small.j0 k y0 y1 y2 y3 y4) (spec_Small.j0 (k + 1) y0 y1 y2 y3 y4)) ∧ (∀ y0 y1 y2 y3, LeO (spec_Small.l0 k y0 y1 y2 y3) (spec_Small.l0 (k + 1) y0 y1 y2 y3)) ∧ (∀ y0 y1 y2, LeO (spec_Small.l1 k y0 y1 y2) (spec_Small.l1 (k + 1) y0 y1 y2))
  | 0 => ⟨fun _ _ _ _ _ r h => by simp [spec_Small.j0] at h, fun _ _ _ _ r h => by simp [spec_Small.l0] at h, fun _ _ _ r h => by simp [spec_Small.l1] at h⟩
  | k + 1 => by
    obtain ⟨ih0, ih1, ih2⟩ := spec_Small.mono_l k
    refine ⟨?_, ?_, ?_⟩
    · intro y0 y1 y2 y3 y4
      unfold spec_Small.j0
      repeat' first
      | (with_reducible exact ih0 _ _ _ _ _)
      | (with_reducible exact ih1 _ _ _ _)
      | (with_reducible exact ih2 _ _ _)
      | (with_reducible exact LeO.refl _)
      | (with_reducible exact LeO.none _)
      | (with_reducible refine LeO.ite ?_ ?_)
      | (with_reducible refine LeO.bind ?_ (fun _ => ?_))
      | exact ih0 _ _ _ _ _
      | exact ih1 _ _ _ _
      | exact ih2 _ _ _
      | exact LeO.none _
      | refine LeO.ite ?_ ?_
      | refine LeO.bind ?_ (fun _ => ?_)
    · intro y0 y1 y2 y3
      unfold spec_Small.l0
      repeat' first
      | (with_reducible exact ih0 _ _ _ _ _)
      | (with_reducible exact ih1 _ _ _ _)
      | (with_reducible exact ih2 _ _ _)
      | (with_reducible exact LeO.refl _)
      | (with_reducible exact LeO.none _)
      | (with_reducible refine LeO.ite ?_ ?_)
      | (with_reducible refine LeO.bind ?_ (fun _ => ?_))
      | exact ih0 _ _ _ _ _
      | exact ih1 _ _ _ _
      | exact ih2 _ _ _
      | exact LeO.none _
      | refine LeO.ite ?_ ?_
      | refine LeO.bind ?_ (fun _ => ?_)
    · intro y0 y1 y2
      unfold spec_Small.l1
      repeat' first
      | (with_reducible exact ih0 _ _ _ _ _)
      | (with_reducible exact ih1 _ _ _ _)
      | (with_reducible exact ih2 _ _ _)
      | (with_reducible exact LeO.refl _)
      | (with_reducible exact LeO.none _)
      | (with_reducible refine LeO.ite ?_ ?_)
      | (with_reducible refine LeO.bind ?_ (fun _ => ?_))
      | exact ih0 _ _ _ _ _
      | exact ih1 _ _ _ _
      | exact ih2 _ _ _
      | exact LeO.none _
      | refine LeO.ite ?_ ?_
      | refine LeO.bind ?_ (fun _ => ?_)
theorem spec_Small.mono : ∀ a0 a1 a2 a3 k, LeO (spec_Small.f k a0 a1 a2 a3) (spec_Small.f (k + 1) a0 a1 a2 a3) := by
  intro a0 a1 a2 a3 k
  obtain ⟨ih0, ih1, ih2⟩ := spec_Small.mono_l k
  unfold spec_Small.f
  repeat' first
      | (with_reducible exact ih0 _ _ _ _ _)
      | (with_reducible exact ih1 _ _ _ _)
      | (with_reducible exact ih2 _ _ _)
      | (with_reducible exact LeO.refl _)
      | (with_reducible exact LeO.none _)
      | (with_reducible refine LeO.ite ?_ ?_)
      | (with_reducible refine LeO.bind ?_ (fun _ => ?_))
      | exact ih0 _ _ _ _ _
      | exact ih1 _ _ _ _
      | exact ih2 _ _ _
      | exact LeO.none _
      | refine LeO.ite ?_ ?_
      | refine LeO.bind ?_ (fun _ => ?_)
def spec_Small.B3 : List Nat := [0, 0, 2, 7, 0, 16, 63, 127, 0]
def stringslite_HasSuffix.f (a0 : ByteArray) (a1 : ByteArray) : Option (Bool) := if (a0.size : Int) ≥ (a1.size : Int) then (if 0 ≤ (wrap64 ((a0.size : Int) - (a1.size : Int))) then (if (wrap64 ((a0.size : Int) - (a1.size : Int))) ≤ (a0.size : Int) then (some ((a0.extract ((wrap64 ((a0.size : Int) - (a1.size : Int))) : Int).toNat a0.size).toList == a1.toList)) else (none)) else (none)) else (some false)
def strings_HasSuffix.f (a0 : ByteArray) (a1 : ByteArray) : Option (Bool) := (stringslite_HasSuffix.f a0 a1).bind fun t384 => (some t384)
/-- A state of type 131 at block g of W; what its slices lead to came in by w0. -/
def IsS131 (w0 W : World) (g : Nat) (f0 : List Int) (f1 : Int) (f2 : Int) : Prop := ∃ A0 c0, W.heap[g]? = some (.cells #[.slice A0 f0.length c0, .int .i64 f1, .int .i8 f2] 131 (0, 0)) ∧ w0.heap.size ≤ g ∧ Kd.C (Kd.int .u8) w0 A0 f0.length f0
theorem IsS131.grown {w0 W : World} {g : Nat} {f0 : List Int} {f1 : Int} {f2 : Int} {W1 : World} {row : Option Nat} (h : IsS131 w0 W g f0 f1 f2) (hw : W.grownBy W1 row) (hne : some g ≠ row) : IsS131 w0 W1 g f0 f1 f2 := by
  obtain ⟨A0, c0, hb, hg, hr0⟩ := h
  exact ⟨A0, c0, blk_grown hb hw hne, hg, hr0⟩
theorem IsS131.fresh {w0 W : World} {g : Nat} {f0 : List Int} {f1 : Int} {f2 : Int} (h : IsS131 w0 W g f0 f1 f2) : ∀ k, W.heap.size ≤ k → k ≠ g := by
  obtain ⟨A0, c0, hb, hg, hr0⟩ := h
  exact Kd.freshB hb
theorem IsS131.kept {w0 W : World} {g : Nat} {f0 : List Int} {f1 : Int} {f2 : Int} {W1 : World} {S : Nat → Prop} (h : IsS131 w0 W g f0 f1 f2) (hk : Kept W W1 S) (hne : ¬ S g) : IsS131 w0 W1 g f0 f1 f2 := by
  obtain ⟨A0, c0, hb, hg, hr0⟩ := h
  exact ⟨A0, c0, blk_kept hb hk hne, hg, hr0⟩
theorem IsS131.below {w0 W : World} {g : Nat} {f0 : List Int} {f1 : Int} {f2 : Int} {W1 : World} (h : IsS131 w0 W g f0 f1 f2) (hw : Below W.heap.size W W1) : IsS131 w0 W1 g f0 f1 f2 := h.grown (grown_of_below hw none) (by simp)
theorem IsS131.alloc {w0 W : World} {g : Nat} {f0 : List Int} {f1 : Int} {f2 : Int} (h : IsS131 w0 W g f0 f1 f2) (o : Obj) : IsS131 w0 (W.alloc o) g f0 f1 f2 := h.below (below_alloc (Below.refl _ _) o)
theorem IsS131.drewN {w0 W : World} {g : Nat} {f0 : List Int} {f1 : Int} {f2 : Int} (h : IsS131 w0 W g f0 f1 f2) (m : Nat) : IsS131 w0 (W.drewN m) g f0 f1 f2 := h
theorem IsS131.drew {w0 W : World} {g : Nat} {f0 : List Int} {f1 : Int} {f2 : Int} (h : IsS131 w0 W g f0 f1 f2) : IsS131 w0 W.drew g f0 f1 f2 := h
theorem IsS131.at_ {w0 W : World} {g : Nat} {f0 : List Int} {f1 : Int} {f2 : Int} {w' : World} {m : Nat} (hq : W.drewN m = w') (h : IsS131 w0 W g f0 f1 f2) : IsS131 w0 w' g f0 f1 f2 := by subst hq; exact IsS131.drewN h m
theorem IsS131.apart {w0 W : World} {g : Nat} {f0 : List Int} {f1 : Int} {f2 : Int} {α : Type} {d : Kd α} {e : Nat} {base : Nat} {ok : Nat → Prop} {v : Value} {xs : List α} (h : IsS131 w0 W g f0 f1 f2) (ho : d.R e W base ok v xs) (ht : ∀ q, q ∈ e :: d.E → q ≠ 131) : d.R e W base (fun k => ok k ∧ k ≠ g) v xs := by
  obtain ⟨A0, c0, hb, hg, hr0⟩ := h
  exact Kd.R_types ho hb ht
theorem IsS131.own_ne {w0 W : World} {g : Nat} {f0 : List Int} {f1 : Int} {f2 : Int} {α : Type} {d : Kd α} {e : Nat} {base : Nat} {ok : Nat → Prop} {v : Value} {xs : List α} (h : IsS131 w0 W g f0 f1 f2) (ho : d.R e W base ok v xs) (ht : e ≠ 131) : some g ≠ v.ownBlock := by
  obtain ⟨A0, c0, hb, hg, hr0⟩ := h
  exact Kd.R_ne ho hb ht
theorem IsS131.lt {w0 W : World} {g : Nat} {f0 : List Int} {f1 : Int} {f2 : Int} (h : IsS131 w0 W g f0 f1 f2) : g < W.heap.size := by
  obtain ⟨A0, c0, hb, hg, hr0⟩ := h
  exact blk_lt hb
theorem IsS131.ge {w0 W : World} {g : Nat} {f0 : List Int} {f1 : Int} {f2 : Int} (h : IsS131 w0 W g f0 f1 f2) : w0.heap.size ≤ g := by
  obtain ⟨A0, c0, hb, hg, hr0⟩ := h
  exact hg
def bytes_Buffer_Len.f (s0_0 : List Int) (s0_1 : Int) (s0_2 : Int) : Option (Int × Int × Int) := some (wrap64 ((s0_0.length : Int) - s0_1), s0_1, s0_2)
end Go.Proofs.YtkbegfihdpiacaaDoor.PX

namespace Go.Proofs.YtkbegfihdpiacaaDoor.PX
open Go.RowKit Nt Go.Lib Go.Maps Go.Proofs.YtkbegfihdpiacaaDoorW.PrintWords Go.Proofs.YtkbegfihdpiacaaDoorW.PrintLast
set_option linter.unusedVariables false
set_option linter.unusedSimpArgs false
section
variable {H : Type} {enc : TypeId × Value → H} {w : World} {base : Nat} {spare : Nat → Bool} {held : Bool}
/-- The texts of a key. -/
theorem strs_C {fuel : Nat} {cs : List Value} {x : DataW H × List MemPlace} (h : DataW.trod enc Tryd.prog w base spare held fuel 32 cs = some x) :
    ∃ A c l, cs = [.slice A l.length c] ∧ l.length ≤ c ∧ Kd.string.C w A l.length l := by
  rcases Deep.open_strs Tryd.underlying32 Tryd.underlying9 (by kernel_rfl) h with ⟨rfl, _⟩ | ⟨a, len, cap, m, Sx, rfl, _, hle, hmx, hm, _, hc⟩
  · exact ⟨none, 0, [], rfl, Nat.le_refl _, rfl, by decide, fun h => absurd h (by decide)⟩
  · have hlm : len ≤ m := by rw [hm]; split <;> omega
    have hlen : ((List.range len).map Sx).length = len := by simp
    refine ⟨some a, cap, (List.range len).map Sx, by rw [hlen], by rw [hlen]; exact hle, ?_⟩
    rw [hlen]
    refine ⟨hlen, by unfold maxLen at hmx; omega, fun _ => ⟨a, rfl, fun j p hj => ?_⟩⟩
    have hjl : j < len := by
      have := (List.getElem?_eq_some_iff.1 hj).1
      rw [hlen] at this; exact this
    have hp : Sx j = p := by
      rw [List.getElem?_map, List.getElem?_range hjl] at hj
      exact Option.some.inj hj
    subst hp
    refine ⟨[.string (Sx j)], rfl, rfl, fun i u hu => ?_⟩
    cases i with
    | zero =>
      injection hu with hu
      subst hu
      have := (hc j (by omega)).1
      rw [show Kd.string.sz = 1 from rfl, Nat.mul_one, Nat.add_zero]
      exact this
    | succ i => simp at hu
set_option maxRecDepth 100000 in
/-- One key. -/
theorem key_K {fuel : Nat} {cs : List Value} {x : DataW H × List MemPlace} (h : DataW.trod enc Tryd.prog w base spare held fuel 34 cs = some x) : ∃ k : S34, k34.K w k cs ∧ cs.length = k34.sz ∧ (Lit.int .u32 k.f1).wf = true := by
  obtain ⟨xs, n, _, _, hcl, hxl, hf⟩ := DataW.trod_struct Tryd.underlying34 h
  have hc4 : Tryd.prog.cellsOf 34 = 4 := by kernel_rfl
  rw [hc4] at hcl
  match cs, hcl, xs, hxl with
  | [v0, v1, v2, v3], _, [y0, y1, y2, y3], _ =>
    have e0 : Tryd.prog.cellsOf 9 = 1 := by kernel_rfl
    have e1 : Tryd.prog.cellsOf 23 = 1 := by kernel_rfl
    have e2 : Tryd.prog.cellsOf 32 = 1 := by kernel_rfl
    have g0 : DataW.trod enc Tryd.prog w base spare held n 9 [v0] = some y0 := by
      have g := hf 0 _ rfl
      change DataW.trod enc Tryd.prog w base spare held n 9 (List.take (Tryd.prog.cellsOf 9) [v0, v1, v2, v3]) = some y0 at g
      rw [e0] at g
      exact g
    have g1 : DataW.trod enc Tryd.prog w base spare held n 23 [v1] = some y1 := by
      have g := hf 1 _ rfl
      change DataW.trod enc Tryd.prog w base spare held n 23 (List.take (Tryd.prog.cellsOf 23) [v1, v2, v3]) = some y1 at g
      rw [e1] at g
      exact g
    have g2 : DataW.trod enc Tryd.prog w base spare held n 32 [v2] = some y2 := by
      have g := hf 2 _ rfl
      change DataW.trod enc Tryd.prog w base spare held n 32 (List.take (Tryd.prog.cellsOf 32) [v2, v3]) = some y2 at g
      rw [e2] at g
      exact g
    have g3 : DataW.trod enc Tryd.prog w base spare held n 32 [v3] = some y3 := by
      have g := hf 3 _ rfl
      change DataW.trod enc Tryd.prog w base spare held n 32 (List.take (Tryd.prog.cellsOf 32) [v3]) = some y3 at g
      rw [e2] at g
      exact g
    obtain ⟨s, h0, _, _⟩ := DataW.trod_string Tryd.underlying9 g0
    obtain ⟨m, h1, _, hw⟩ := DataW.trod_int Tryd.underlying23 g1
    obtain ⟨A2, c2, l2, h2, hl2, hC2⟩ := strs_C g2
    obtain ⟨A3, c3, l3, h3, hl3, hC3⟩ := strs_C g3
    simp at h0 h1 h2 h3
    subst h0; subst h1; subst h2; subst h3
    exact ⟨⟨s, m, l2, l3⟩, k34_mk w ⟨s, m, l2, l3⟩ hl2 hC2 hl3 hC3, rfl, hw⟩
/-- The keys. -/
theorem keys_C {fuel : Nat} {cs : List Value} {x : DataW H × List MemPlace} (h : DataW.trod enc Tryd.prog w base spare held fuel 22 cs = some x) :
    ∃ A c ks, cs = [.slice A ks.length c] ∧ ks.length ≤ c ∧ Kd.C k34 w A ks.length ks ∧ ∀ k ∈ ks, (Lit.int .u32 k.f1).wf = true := by
  rcases Deep.open_slice Tryd.underlying22 h with ⟨rfl, _⟩ | ⟨a, len, cap, m, n, D, Pl, rfl, hb, hle, hmx, hm, _, hx⟩
  · exact ⟨none, 0, [], rfl, Nat.le_refl _, ⟨rfl, by decide, fun h => absurd h (by decide)⟩, fun k hk => by cases hk⟩
  · have hlm : len ≤ m := by rw [hm]; split <;> omega
    have hc4 : Tryd.prog.cellsOf 34 = 4 := by kernel_rfl
    have each : ∀ i, i < len → ∃ k : S34, (∃ c, c.length = k34.sz ∧ k34.K w k c ∧ ∀ j u, c[j]? = some u → w.cell? (a.add (i * k34.sz + j)) = some u) ∧ (Lit.int .u32 k.f1).wf = true := by
      intro i hi
      obtain ⟨cs', h1, h2⟩ := hx i (by omega)
      obtain ⟨k, hK, hl, hw⟩ := key_K h2
      refine ⟨k, ⟨cs', hl, hK, fun j u hu => ?_⟩, hw⟩
      obtain ⟨_, hlen, hcell⟩ := World.cells?_some h1
      have hj : j < cs'.length := (List.getElem?_eq_some_iff.1 hu).1
      have := hcell j (by omega)
      rw [hu, hc4, Deep.add_add] at this
      exact this
    haveI : Inhabited S34 := ⟨z34⟩
    obtain ⟨F, hF⟩ := Deep.choose_lt each
    have hlen : ((List.range len).map F).length = len := by simp
    refine ⟨some a, cap, (List.range len).map F, by rw [hlen], by rw [hlen]; exact hle, ?_, ?_⟩
    · rw [hlen]
      refine ⟨hlen, by unfold maxLen at hmx; omega, fun _ => ⟨a, rfl, fun j p hj => ?_⟩⟩
      have hjl : j < len := by
        have := (List.getElem?_eq_some_iff.1 hj).1
        rw [hlen] at this; exact this
      have hp : F j = p := by
        rw [List.getElem?_map, List.getElem?_range hjl] at hj
        exact Option.some.inj hj
      subst hp
      exact (hF j hjl).1
    · intro k hk
      obtain ⟨j, hj, rfl⟩ := List.mem_map.1 hk
      exact (hF j (List.mem_range.1 hj)).2
end
end Go.Proofs.YtkbegfihdpiacaaDoor.PX

namespace Go.Proofs.YtkbegfihdpiacaaDoor.PX
open Go.ChangeShapes Go.WideShapes Go.ChangeAt Go.RowKit Go.Lib Go.Shelf
set_option linter.unusedVariables false
abbrev malN : String := "loop.example/pub-notesandsignatures/pub/sumdbnote.errMalformedNote"
abbrev misN : String := "loop.example/pub-notesandsignatures/pub/sumdbnote.errMismatchedVerifier"
theorem gFirst : Tryd.prog.globalNamed "unicode/utf8.first" = some 3 := by kernel_rfl
theorem gFirstT : (Tryd.prog.globals[3]?).map (·.type) = some 157 := by kernel_rfl
theorem gAcc : Tryd.prog.globalNamed "unicode/utf8.acceptRanges" = some 4 := by kernel_rfl
theorem gAccT : (Tryd.prog.globals[4]?).map (·.type) = some 160 := by kernel_rfl
theorem gMal : Tryd.prog.globalNamed malN = some 0 := by kernel_rfl
theorem gMalT : (Tryd.prog.globals[0]?).map (·.type) = some 62 := by kernel_rfl
theorem gMis : Tryd.prog.globalNamed misN = some 1 := by kernel_rfl
theorem gMisT : (Tryd.prog.globals[1]?).map (·.type) = some 62 := by kernel_rfl
theorem c8 : Tryd.prog.cellsOf 5 = 1 := by kernel_rfl
theorem c256 : Tryd.prog.cellsOf 157 = 256 := by kernel_rfl
theorem cAcc : Tryd.prog.cellsOf 159 = 2 := by kernel_rfl
theorem cStr : Tryd.prog.cellsOf 9 = 1 := by kernel_rfl
theorem cErr : Tryd.prog.cellsOf 211 = 1 := by kernel_rfl
theorem star : "*" ++ "errors.errorString" = "*errors.errorString" := by decide
theorem rowErr (u : TypeId) (h : Tryd.prog.typeName? 3 u = some "*errors.errorString") : u = 195 :=
  typeName_ptr_named (nm := "errors.errorString") (by rw [star]; kernel_rfl) (by kernel_rfl) (by decide) u (by rw [star]; exact h)
theorem accD : (Rows.laid_unicode_utf8_acceptRanges : DataW Unit) = Lib.acceptData := by kernel_rfl
theorem firstD : Rows.laid_unicode_utf8_first = Lib.firstData := by kernel_rfl
theorem whiteD : (Rows.laid_unicode_White_Space : DataW Unit) = Lib.whiteData := by kernel_rfl
/-- The decoder's two tables. -/
theorem tabs_of {w : World} (h3 : VarReads Tryd.prog w "unicode/utf8.first" Lib.firstData) (h4 : VarReads Tryd.prog w "unicode/utf8.acceptRanges" Lib.acceptData) : Utf8Tabs 3 4 w := by
  obtain ⟨g, t, cs, fuel, p, hg, hty, hvar, hd⟩ := h3
  obtain rfl := Option.some.inj (gFirst.symm.trans hg)
  obtain rfl := Option.some.inj (gFirstT.symm.trans hty)
  have hf := cells_of_tab Tryd.underlying157 Tryd.underlying5 c8 c256 hd
  obtain ⟨g', t', cs', fuel', p', hg', hty', hvar', hd'⟩ := h4
  obtain rfl := Option.some.inj (gAcc.symm.trans hg')
  obtain rfl := Option.some.inj (gAccT.symm.trans hty')
  refine ⟨fun c hc => ?_, fun i hi => ?_⟩
  · rw [World.var?_cell hg hvar c, ← Array.getElem?_toList, hf]
    simp [Lib.firstTab, hc]
  · obtain ⟨k, d, q, hdi, he⟩ := array_elem Tryd.underlying160 hd' i hi
    rw [List.getElem?_map, List.getElem?_range hi] at hdi
    obtain rfl := Option.some.inj hdi
    rw [cAcc] at he
    have hcs := ints_of_struct (zs := [(accLo i : Int), (accHi i : Int)]) Tryd.underlying159 (fun j f hj => by
      match j, hj with
      | 0, hj => obtain rfl := Option.some.inj hj; exact ⟨Tryd.underlying5, rfl, c8⟩
      | 1, hj => obtain rfl := Option.some.inj hj; exact ⟨Tryd.underlying5, rfl, c8⟩
      | j + 2, hj => simp at hj) (by rw [cAcc]; rfl) he
    have e0 := congrArg (·[0]?) hcs
    have e1 := congrArg (·[1]?) hcs
    simp only [List.getElem?_take, List.getElem?_drop] at e0 e1
    constructor
    · rw [World.var?_cell hg' hvar' (2 * i), ← Array.getElem?_toList]
      simpa [Nat.mul_comm] using e0
    · rw [World.var?_cell hg' hvar' (2 * i + 1), ← Array.getElem?_toList]
      simpa [Nat.mul_comm] using e1
theorem white_of {w : World} (h6 : VarReads Tryd.prog w "unicode.White_Space" Lib.whiteData) : WhiteTab 6 w :=
  whiteTab_of_reads Tryd.lays199 ⟨by kernel_rfl, by kernel_rfl, by kernel_rfl, by kernel_rfl, by kernel_rfl, by kernel_rfl, by kernel_rfl, by kernel_rfl⟩ h6
/-- The world in which the listed variables hold what their initialisers lay. -/
noncomputable abbrev N0 : Nat := (World.holding Tryd.prog default ⟨#[], #[], []⟩).heap.size
noncomputable def laidWorld (os : Os) : World :=
  let w0 := World.holding Tryd.prog os ⟨#[.cells (Lib.whiteT.map fun (z : Nat) => Value.int .u16 (z : Int)).toArray (Tryd.lays199_ren.t 198), .cells #[.slice (some ⟨N0, 0, none⟩) 7 7, .slice none 0 0, .int .i64 2] (Tryd.lays199_ren.t 196),
    .cells #[.string ⟨#[109, 97, 108, 102, 111, 114, 109, 101, 100, 32, 110, 111, 116, 101]⟩] 211,
    .cells #[.string ⟨#[118, 101, 114, 105, 102, 105, 101, 114, 32, 110, 97, 109, 101, 32, 111, 114, 32, 104, 97, 115, 104, 32, 100, 111, 101, 115, 110, 39, 116, 32, 109, 97, 116, 99, 104, 32, 115, 105, 103, 110, 97, 116, 117, 114, 101]⟩] 211], #[], []⟩
  let put (h : Array Obj) (g : Nat) (cs : Array Value) : Array Obj := h.modify g fun
    | .cells _ t frozen => .cells cs t frozen
    | o => o
  let h1 := put w0.heap 3 (Lib.firstTab.map fun z => Value.int .u8 z).toArray
  let h2 := put h1 4 ((List.range 16).flatMap fun i => [Value.int .u8 (Lib.accLo i), Value.int .u8 (Lib.accHi i)]).toArray
  let h3 := put h2 6 #[.pointer (some ⟨N0 + 1, 0, none⟩)]
  let h4 := put h3 0 #[.iface 195 (.pointer (some ⟨N0 + 2, 0, none⟩))]
  let h5 := put h4 1 #[.iface 195 (.pointer (some ⟨N0 + 3, 0, none⟩))]
  { w0 with heap := h5 }
theorem laid_met (os : Os) (args : Array Value) : laidMet Tryd.prog Rows.fnOpenKindRow.laid ((laidWorld os).forCall (fun _ _ => 0) ⟨#[], args, []⟩).memory :=
  (LaidIn.of_run [4, 6, N0 + 1, N0, 0, N0 + 2, 1, N0 + 3, 3] 10 (by kernel_rfl) (by kernel_rfl) (by kernel_rfl) (by kernel_rfl)).met
end Go.Proofs.YtkbegfihdpiacaaDoor.PX

namespace Go.Proofs.YtkbegfihdpiacaaDoor.PX
open Go.ChangeShapes Go.WideShapes Go.ChangeAt Go.RowKit Go.Lib Go.Shelf
open Go.ChangeMaps (open_string shut_string)
set_option linter.unusedVariables false
theorem own : ownKnob Tryd.prog.godebug = none := by kernel_rfl
theorem laidOut : laidOutB Tryd.prog = true := by kernel_rfl
/-- The two named variables, read as tokens. -/
theorem vars_read {H : Type} (enc : TypeId × Value → H) {W : World} {x0 x1 : Value} (h0 : W.var? Tryd.prog malN = some #[x0]) (h1 : W.var? Tryd.prog misN = some #[x1]) (i0 : IsIface x0) (i1 : IsIface x1) (sp : Nat → Bool) :
    DataW.TrodVars enc Tryd.prog W sp [malN, misN] [tok enc x0, tok enc x1] [.cell 0 0, .cell 1 0] :=
  ⟨_, _, #[x0], 1, [], [.cell 1 0], gMal, gMalT, h0, trod_held Tryd.underlying62 i0 0, ⟨_, _, #[x1], 1, [], [], gMis, gMisT, h1, trod_held Tryd.underlying62 i1 0, rfl, rfl⟩, rfl⟩
theorem var_lt {W : World} {n : String} {cs : Array Value} (h : W.var? Tryd.prog n = some cs) : ∃ g, Tryd.prog.globalNamed n = some g ∧ g < W.heap.size := by
  unfold World.var? at h
  cases hg : Tryd.prog.globalNamed n with
  | none => simp [hg] at h
  | some g =>
    refine ⟨g, rfl, ?_⟩
    simp only [hg, Option.bind_some] at h
    rcases Nat.lt_or_ge g W.heap.size with h' | h'
    · exact h'
    · simp [Array.getElem?_eq_none h'] at h
theorem var_below {W W' : World} {n : String} {cs : Array Value} (h : W.var? Tryd.prog n = some cs) (hb : Below W.heap.size W W') : W'.var? Tryd.prog n = some cs := by
  obtain ⟨g, hg, hlt⟩ := var_lt h
  unfold World.var? at h ⊢
  simp only [hg, Option.bind_some] at h ⊢
  rw [hb.block g hlt]
  exact h
set_option maxRecDepth 100000 in
theorem fnOpen_lifted (os : Os) (started : os.Started) (H : Type) (enc : TypeId × Value → H) :
    ReturnsInHanded {} Tryd.checked os 4 .any (fun w args => (Rows.fnOpenSpec.pre enc Tryd.prog Tryd.f4 [] false w args ∧ laidMet Tryd.prog Rows.fnOpenRow.laid w) ∧ sizedMet enc Tryd.prog Tryd.f4 (OpenSpec.ofChange Rows.fnOpenSpec) false w args)
      (Rows.fnOpenSpec.post enc Tryd.prog Tryd.f4 false true false false) := by
  refine returnsInHanded_of_change_and (C := Tryd.checked) (X := fun w _ => laidMet Tryd.prog Rows.fnOpenRow.laid w) (fun _ _ _ hh h => h.of_heap hh) own started (by kernel_rfl) Tryd.func4
    (ChangeSpec.witness_shaped (enc := enc) (C := Tryd.checked) (os := os) (X := fun w _ => laidMet Tryd.prog Rows.fnOpenRow.laid w) false (laidWorld os) #[.string ⟨#[]⟩, .slice none 0 0] 8 rfl (World.shaped_of_RefB (by kernel_rfl) (by kernel_rfl)) (by kernel_rfl) (by kernel_rfl) (by kernel_rfl) (laid_met os _)) ?_
  intro W base args ds gs before hval0 hW _ _ hL _
  have hval : ∀ (j : Nat) t v, Tryd.f4.params[j]? = some t → args[j]? = some v → Value.okWide Tryd.prog W .any base t v := hval0
  have hW' := hW
  obtain ⟨p, q, hA0, hV0, rfl, hfz, hnd⟩ := hW
  have hA : DataW.TrodAll enc Tryd.prog W 0 (fun _ => true) true Tryd.f4.params.toList args.toList ds p := hA0
  have hV : DataW.TrodVars enc Tryd.prog W (fun _ => true) [malN, misN] gs q := hV0
  rw [Tryd.params4] at hA hval
  obtain ⟨v0, v1, d0, d1, p0, p1, rfl, rfl, rfl, h0, h1⟩ := trodAll_two hA
  obtain ⟨s, rfl, rfl, rfl, ws⟩ := open_string Tryd.underlying9 (hval 0 9 v0 rfl rfl) h0
  obtain ⟨a, len, cap, rfl⟩ := okWide_slice Tryd.underlying22 (hval 1 22 v1 rfl rfl)
  have k1 := h1
  have lt1 : ∀ x ∈ p1, x.block < W.heap.size := by obtain ⟨m, hm⟩ := k1; exact DataW.trod_lt m _ _ _ hm
  obtain ⟨m1, hm1⟩ := h1
  obtain ⟨A, c, ks, hcs, hle, hC, hwf⟩ := keys_C hm1
  have hva : (Value.slice a len cap).cells.toList = [.slice a len cap] := rfl
  rw [hva] at hcs
  injection hcs with hcs _
  injection hcs with e1 e2 e3
  subst e1; subst e2; subst e3
  obtain ⟨a0, sa, hv0, _, _, _⟩ := laid_sentinel hL.tail.tail gMal gMalT Tryd.underlying62 rowErr Tryd.underlying195 Tryd.underlying211 rfl rfl Tryd.underlying9 cErr cStr
  obtain ⟨b0, sb, hv1, _, _, _⟩ := laid_sentinel hL.tail.tail.tail gMis gMisT Tryd.underlying62 rowErr Tryd.underlying195 Tryd.underlying211 rfl rfl Tryd.underlying9 cErr cStr
  obtain ⟨rfl, rfl⟩ := hV.unique (vars_read enc hv0 hv1 trivial trivial _)
  clear hA0 hV0 hval0
  have hg0 : W.cell? ⟨0, 0, none⟩ = some (.iface 195 (.pointer (some a0))) := by simpa using World.var?_cell gMal hv0 0
  have hU := tabs_of (firstD ▸ Lib.laidMet.reads hL (.tail _ (.tail _ (.tail _ (.tail _ (.head _)))))) (accD ▸ Lib.laidMet.reads hL (.head _))
  have hWh := white_of (whiteD ▸ Lib.laidMet.reads hL (.tail _ (.head _)))
  refine (fnOpen_any W s.data.toList a cap ks _ ⟨hU, hWh, hg0, ⟨_, rfl⟩, hC, hle, hwf⟩).mono fun e W' he => ?_
  obtain ⟨rfl, bel⟩ := he
  have e1 : Rows.fnOpenSpec.fn H ([.lit (.string s.data.toList), d1] ++ [tok enc (.iface 195 (.pointer (some a0))), tok enc (.iface 195 (.pointer (some b0)))]) = { results := [.lit (.bool true)], args := [.lit (.string s.data.toList), d1], vars := [tok enc (.iface 195 (.pointer (some a0))), tok enc (.iface 195 (.pointer (some b0)))] } := rfl
  refine ⟨_, rfl, _, _, _, [], [] ++ p1, [.cell 0 0, .cell 1 0], hW', ?_, ?_, ?_, bel.frame _, fun h => by cases h⟩
  · rw [e1]; exact trodAll_mk1 (shut_bool Tryd.underlying4 true)
  · rw [e1]; exact trodAll_mk2 (shut_string Tryd.underlying9 ws) (Below.trod laidOut (by kernel_rfl) (of_decide_eq_true (by kernel_rfl)) k1 bel lt1)
  · rw [e1]; exact vars_read enc (var_below hv0 bel) (var_below hv1 bel) trivial trivial _
theorem fnOpen_holds : Rows.FnOpenSaid :=
  OpenClaim.holds_of_wide 4 Tryd.f4 rfl rfl rfl rfl rfl rfl rfl ⟨rfl, rfl, rfl, rfl, rfl⟩ rfl rfl rfl rfl rfl (by kernel_rfl) Tryd.func4 (by kernel_rfl)
    (of_decide_eq_true (by kernel_rfl)) (by unfold Func.isWrapper; first | (rw [if_neg (of_decide_eq_false (by kernel_rfl))]; exact ⟨rfl, rfl⟩) | (rw [if_pos (of_decide_eq_true (by kernel_rfl))]; kernel_rfl))
    (fun os started H enc _ => fnOpen_lifted os started H enc)
end Go.Proofs.YtkbegfihdpiacaaDoor.PX

namespace Go.Proofs.YtkbegfihdpiacaaDoor
open Go PX
theorem fnOpen_card : Rows.FnOpenCardSaid :=
  Claim7.holds_tied_plain_at .later [] [.data, .listed, .sentinel, .sentinel, .pinned] true (true, "c66d015329552041d251c45491c86520836d9611402dc5f8f4561b1516259514") true
    fnOpen_holds (fun _ h => by cases h) (by kernel_rfl) (fun _ h => by cases h) fnOpen_row_tie rfl ⟨rfl, rfl⟩ (by kernel_rfl) rfl
    (fun f fn hf hfn => by
      obtain rfl : f = 4 := (Option.some.inj ((show Tryd.prog.funcNamed "loop.example/pub-notesandsignatures/laws.FnOpen" = some 4 by kernel_rfl).symm.trans hf)).symm
      obtain rfl : fn = Tryd.f4 := (Option.some.inj (Tryd.func4.symm.trans hfn)).symm
      exact ⟨by kernel_rfl, fun j t ht => by
        rw [Tryd.params4] at ht
        have h3 : t = 9 ∨ t = 22 := by
          rcases j with _ | _ | j
          · exact .inl (by simpa using ht.symm)
          · exact .inr (by simpa using ht.symm)
          · simp at ht
        rcases h3 with rfl | rfl
        · exact (show Tryd.prog.wantsStandIn 9 = false by kernel_rfl)
        · exact (show Tryd.prog.wantsStandIn 22 = false by kernel_rfl)⟩)
    (by kernel_rfl)
end Go.Proofs.YtkbegfihdpiacaaDoor
