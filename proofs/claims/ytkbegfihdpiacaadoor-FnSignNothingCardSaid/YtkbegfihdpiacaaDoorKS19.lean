/- Part 19 of the proof: what the theorem reaches of the texts SignR, LawS, PX7, OpenK, Laid, RowS, CardS. -/
import Derived.Deep.RegionHeld3
import Derived.Deep.Strs
import Derived.ChangeArms
import Derived.Test.YtkbegfihdpiacaaDoorRows
import Derived.Lib.LaidU8
import Derived.Lib.LaidIn
import Derived.Stop.LaidErr
import Derived.ProofKit
import Derived.ChangeVars
import Derived.LaidLaws
import Derived.SizedLaws
import Derived.SliceStrings
import Derived.Test.YtkbegfihdpiacaaDoorTie
import Derived.Test.YtkbegfihdpiacaaDoorCards
import Derived.SevenTiedAt
import Derived.Test.YtkbegfihdpiacaaDoorKS5
import Derived.Test.YtkbegfihdpiacaaDoorKS6
import Derived.Test.YtkbegfihdpiacaaDoorKS7
import Derived.Test.YtkbegfihdpiacaaDoorKS8
import Derived.Test.YtkbegfihdpiacaaDoorKS9
import Derived.Test.YtkbegfihdpiacaaDoorKS14
import Derived.Test.YtkbegfihdpiacaaDoorKS15
import Derived.Test.YtkbegfihdpiacaaDoorKS16
import Derived.Test.YtkbegfihdpiacaaDoorKS17
import Derived.Test.YtkbegfihdpiacaaDoorKS18

namespace Go.Proofs.YtkbegfihdpiacaaDoor.PX
open Go.RowKit Nt Go.Lib Go.Maps Go.Proofs.YtkbegfihdpiacaaDoorW.PrintWords Go.Proofs.YtkbegfihdpiacaaDoorW.PrintLast
set_option linter.unusedVariables false
set_option linter.unusedSimpArgs false
theorem wr_last (t : List UInt8) (xs : List (List UInt8)) (h10 : t ≠ [] ∧ t[t.length - 1]? = some 10) (hx : ∀ x ∈ xs, 10 ∉ x ∧ x ≠ []) : lastN (wr t xs) (wr t xs).length = some (t.length - 1) ∧ (wr t xs).drop (t.length - 1 + 2) = flat xs := by
  have hp := List.length_pos_iff.2 h10.1
  obtain ⟨hnn, h0⟩ := flat_nn xs hx
  have hlen : (wr t xs).length = t.length + ((flat xs).length + 1) := by unfold wr; simp
  refine ⟨lastN_is _ _ ?_ ?_ _ (by omega), ?_⟩
  · unfold nnAt wr
    rw [List.getElem?_append_left (by omega), h10.2, List.getElem?_append_right (by omega), show t.length - 1 + 1 - t.length = 0 by omega]
    rfl
  · intro j hj
    unfold wr
    have hj' : t.length ≤ j := by omega
    unfold nnAt
    rw [List.getElem?_append_right hj', List.getElem?_append_right (by omega)]
    rcases Nat.eq_zero_or_pos (j - t.length) with e | e
    · rw [Bool.and_eq_false_iff]; right
      rw [show j + 1 - t.length = 1 by omega]
      exact beq_eq_false_iff_ne.2 (by simpa using h0)
    · have := hnn (j - t.length - 1)
      unfold nnAt at this
      rw [show j - t.length = (j - t.length - 1) + 1 by omega, show j + 1 - t.length = (j - t.length - 1 + 1) + 1 by omega, List.getElem?_cons_succ, List.getElem?_cons_succ]
      exact this
  · unfold wr
    rw [List.drop_append, List.drop_eq_nil_of_le (by omega), show t.length - 1 + 2 - t.length = 1 by omega]; rfl
theorem flat_small : ∀ (xs : List S118), (∀ x ∈ xs, x.f0.size ≤ 60 ∧ x.f2.size ≤ 120) → (flat (xs.map lineS)).length ≤ xs.length * 200
  | [], _ => by simp [flat]
  | x :: xs, h => by
    have ih := flat_small xs fun y hy => h y (List.mem_cons_of_mem _ hy)
    have hx := h x (List.mem_cons_self ..)
    have h1 : x.f0.data.toList.length = x.f0.size := rfl
    have h2 : x.f2.data.toList.length = x.f2.size := rfl
    rw [List.map_cons, flat_cons, List.length_append, List.length_cons, List.length_cons]
    have : (lineS x).length = 5 + x.f0.size + x.f2.size := by unfold lineS sgLine dashL; simp [h1, h2]; omega
    omega
theorem SgW.told {x : S118} (hf : SgF x) (hp : plainD (lineS x) = true) (h10 : 10 ∉ lineS x) (h0 : x.f0.size ≤ 60) (h2 : x.f2.size ≤ 120) : SgW x := by
  obtain ⟨raw, hF⟩ := line_F (lineS x) hf.fine
  have e0 : S (lineD (lineS x)).1 = x.f0 := congrArg S118.f0 hf.back
  have e1 : ((lineD (lineS x)).2.1 : Int) = x.f1 := congrArg S118.f1 hf.back
  have e2 : S (lineD (lineS x)).2.2.1 = x.f2 := congrArg S118.f2 hf.back
  have hl := hF.len
  exact
  { name := by rw [← e0]; exact hF.name
    sn := by omega
    sb := by omega
    wf := by rw [← e1, hF.hash]; exact hash_wf raw
    std := ⟨raw, by rw [← e2]; exact hF.std, by omega, by rw [← e1, hF.hash]⟩
    nl := fun b hb => by
      have hm : b ∈ lineS x := by unfold lineS sgLine; simp [hb]
      refine ⟨fun e => h10 (e ▸ hm), fun e => ?_⟩
      unfold plainD at hp
      rw [Bool.and_eq_true] at hp
      have := List.all_eq_true.1 hp.1 b hm
      rw [e] at this
      exact absurd this (by decide) }
/-- What is so of a note that is opened with some signature, small. -/
structure Anew (ks : List S34) (r1 : ByteArray) (p1 p2 : List S75) (t m : List UInt8) : Prop where
  text : r1 = S t
  eq : m = wr t ((p1.map n118 ++ p2.map n118).map lineS)
  n1 : p1.length ≤ 8
  n2 : p2.length ≤ 8
  s1 : ∀ x ∈ p1.map n118, SgW x
  s2 : ∀ x ∈ p2.map n118, SgW x
  tl : t.length ≤ 2000
  t10 : t ≠ [] ∧ t[t.length - 1]? = some 10
  ml : m.length ≤ 2147483647
  cnt : ∀ i, lastN m m.length = some i → m[m.length - 1]? = some 10 → (linesD (m.drop (i + 2))).length ≤ 100
  out : outM (openM ks m).1 (openM ks m).2 = (r1, p1, p2, 0)
theorem map_n (l : List S118) : (l.map sig75).map n118 = l := by
  rw [List.map_map]; exact List.map_id _
theorem anew (ks : List S34) (l : List UInt8) (r1 : ByteArray) (p1 p2 : List S75) (h : outM (openM ks l).1 (openM ks l).2 = (r1, p1, p2, 0)) (hs : SmallF r1 (p1.map s37) (p2.map s37)) : ∃ t m, Anew ks r1 p1 p2 t m := by
  cases ho : (openM ks l).2 with
  | bad => rw [ho] at h; exact absurd (congrArg (fun x => x.2.2.2) h) (by first | (show ¬ ((1 : Int) = 0); decide) | (show ¬ ((2 : Int) = 0); decide))
  | inv nm g => rw [ho] at h; exact absurd (congrArg (fun x => x.2.2.2) h) (by first | (show ¬ ((1 : Int) = 0); decide) | (show ¬ ((2 : Int) = 0); decide))
  | ok s u =>
    cases s with
    | nil => rw [ho] at h; exact absurd (congrArg (fun x => x.2.2.2) h) (by show ¬ ((3 : Int) = 0); decide)
    | cons x s =>
      obtain ⟨t, ht, hT⟩ := openM_told ks l _ _ ho
      rw [ho] at h
      have e1 : (openM ks l).1 = r1 := congrArg (fun x => x.1) h
      have e2 : (x :: s).map sig75 = p1 := congrArg (fun x => x.2.1) h
      have e3 : u.map sig75 = p2 := congrArg (fun x => x.2.2.1) h
      have hre := reopen ks t (x :: s) u hT (by simp)
      have hz1 : ∀ y ∈ x :: s, y.f0.size ≤ 60 ∧ y.f2.size ≤ 120 := fun y hy => hs.x1 (s37 (sig75 y)) (by rw [← e2]; exact List.mem_map_of_mem (List.mem_map_of_mem hy))
      have hz2 : ∀ y ∈ u, y.f0.size ≤ 60 ∧ y.f2.size ≤ 120 := fun y hy => hs.x2 (s37 (sig75 y)) (by rw [← e3]; exact List.mem_map_of_mem (List.mem_map_of_mem hy))
      have l1 : (x :: s).length ≤ 8 := by have := hs.n1; rw [← e2] at this; simpa using this
      have l2 : u.length ≤ 8 := by have := hs.n2; rw [← e3] at this; simpa using this
      have m1 : p1.map n118 = x :: s := by rw [← e2]; exact map_n _
      have m2 : p2.map n118 = u := by rw [← e3]; exact map_n _
      have htl : t.length ≤ 2000 := by have := hs.t; rw [← e1, ht, S_sz] at this; exact this
      have hln : ∀ y ∈ ((x :: s) ++ u).map lineS, 10 ∉ y ∧ y ≠ [] := by
        intro y hy
        obtain ⟨z, hz, rfl⟩ := List.mem_map.1 hy
        rcases List.mem_append.1 hz with hz | hz
        · exact ⟨(hT.hs z hz).2.2.1, lineS_ne z⟩
        · exact ⟨(hT.hu z hz).2.2.1, lineS_ne z⟩
      have hfl := flat_small ((x :: s) ++ u) fun y hy => by
        rcases List.mem_append.1 hy with hy | hy
        · exact hz1 y hy
        · exact hz2 y hy
      rw [List.length_append] at hfl
      refine ⟨t, wr t (((x :: s) ++ u).map lineS), ?_⟩
      exact
      { text := by rw [← e1, ht]
        eq := by rw [m1, m2]
        n1 := by have := hs.n1; rwa [List.length_map] at this
        n2 := by have := hs.n2; rwa [List.length_map] at this
        s1 := by rw [m1]; exact fun y hy => SgW.told (hT.hs y hy).1 (hT.hs y hy).2.1 (hT.hs y hy).2.2.1 (hz1 y hy).1 (hz1 y hy).2
        s2 := by rw [m2]; exact fun y hy => SgW.told (hT.hu y hy).1 (hT.hu y hy).2.1 (hT.hu y hy).2.2.1 (hz2 y hy).1 (hz2 y hy).2
        tl := htl
        t10 := hT.nt
        ml := by
          have : (wr t (((x :: s) ++ u).map lineS)).length = t.length + ((flat (((x :: s) ++ u).map lineS)).length + 1) := by unfold wr; simp
          rw [this]; omega
        cnt := fun i hi _ => by
          obtain ⟨w1, w2⟩ := wr_last t _ hT.nt hln
          rw [w1] at hi
          injection hi with hi
          rw [← hi, w2, lines_flat _ fun y hy => (hln y hy).1, List.length_map, List.length_append]
          omega
        out := by
          rw [hre]
          show ((S t, (x :: s).map sig75, u.map sig75, 0) : ByteArray × List S75 × List S75 × Int) = _
          rw [e2, e3, ← e1, ht] }
end Go.Proofs.YtkbegfihdpiacaaDoor.PX

namespace Go.Proofs.YtkbegfihdpiacaaDoor.PX
open Go.RowKit Nt Go.Lib Go.Maps Go.Proofs.YtkbegfihdpiacaaDoorW.PrintWords Go.Proofs.YtkbegfihdpiacaaDoorW.PrintLast
set_option linter.unusedVariables false
set_option linter.unusedSimpArgs false
theorem smallC (r1 : ByteArray) (l1 l2 : List S37) (n1 n2 : Nat) (e1 : l1.length = n1) (e2 : l2.length = n2) (h1 : n1 ≤ 1000000) (h2 : n2 ≤ 1000000) : ∃ b, (b = true → SmallF r1 l1 l2) ∧ ∀ W A1 c1 A2 c2, Kd.C k37 W A1 n1 l1 → n1 ≤ c1 → Kd.C k37 W A2 n2 l2 → n2 ≤ c2 →
    Calls Tryd.prog 14 #[.agg #[.string r1, .slice A1 n1 c1, .slice A2 n2 c2], .slice none 0 0] W fun e w' => e = .returned (.bool b) ∧ Below W.heap.size W w' := by
  subst e1 e2
  obtain ⟨b, hb, hs⟩ := small_f r1 l1 l2 h1 h2 5000000 (by decide)
  exact ⟨b, hs, fun W A1 c1 A2 c2 hC1 hc1 hC2 hc2 => spec_Small.calls 5000000 r1 A1 c1 l1 A2 c2 l2 none 0 [] b W hC1 hc1 hC2 hc2 ⟨rfl, by decide, fun h => absurd h (by decide)⟩ (Nat.le_refl _) hb⟩
set_option maxRecDepth 100000 in
set_option maxHeartbeats 4000000 in
theorem fnSignNothing_any (w : World) (l : List UInt8) (A0 : Option Addr) (c0 : Nat) (ks : List S34) (eM : Value) (H : LW w A0 c0 ks eM) :
    Calls Tryd.prog 6 #[.string (S l), .slice A0 ks.length c0] w fun e w' => e = .returned (.bool true) ∧ Below w.heap.size w w' := by
  have HH := Lib.hid H
  clear H
  obtain ⟨bf, hbf, hcf⟩ := HH.out.fits
  have HF := Lib.hid hcf
  clear hcf
  by_cases hl : l.length ≤ 2147483647
  · have c1 : decide (2147483647 < ((S l).size : Int)) = false := by rw [S_sz]; exact decide_eq_false (by omega)
    have c2 : decide (2147483647 < (S l).size) = false := by rw [S_sz]; exact decide_eq_false (by omega)
    have HL := Lib.hid hl
    clear hl
    cases bf with
    | false =>
      go_enter Tryd.func6, Tryd.ntmps6
      go_wp2_with (go_at_call 7; refine (HF.out _ (Below.refl _ _)).mono ?_; rintro e w1 ⟨rfl, hb1⟩)
      go_ret
      exact ⟨rfl, hb1⟩
    | true =>
      have FK := Lib.hid (hbf rfl)
      clear hbf
      obtain ⟨r1, r2, r3, r4, r5, hres, hop⟩ := LW.sopen FK.out l HL.out
      have HOP := Lib.hid hop
      have HRES := Lib.hid hres
      obtain ⟨bg, hbg, hgd⟩ := LW.good FK.out.few
      have HG := Lib.hid hgd
      clear hop hres hgd
      go_enter Tryd.func6, Tryd.ntmps6
      go_upto_region 4 with (first
        | (go_at_call 7; with_reducible refine (HF.out _ (Below.refl _ _)).mono ?_; rintro e w1 ⟨rfl, hb1⟩; have H1 := Lib.hid (HH.out.below hb1); have B1 := Lib.hid hb1; clear hb1)
        | (go_at_call 9; with_reducible refine (H1.out.keys FK.out.few).mono ?_; rintro e w2 ⟨A2, c2, rfl, hc2, hC2, hb2⟩; have HC2 := Lib.hid hC2; have B2 := Lib.hid (B1.out.trans (hb2.mono B1.out.size)); clear hC2 hb2)
        | (go_at_call 8; with_reducible refine (HOP.out _ _ _ HC2.out hc2).mono ?_; rintro e w3 ⟨v1, v2, rfl, hr1, hr2, hb3⟩; obtain ⟨D1, d1, rfl⟩ := Kd.R_slice hr1; obtain ⟨D2, d2, rfl⟩ := Kd.R_slice hr2; have B3 := Lib.hid (B2.out.trans (hb3.mono B2.out.size)); have HR1 := Lib.hid (Kd.R_reads' hr1).2; have HR2 := Lib.hid (Kd.R_reads' hr2).2; clear hr1 hr2 hb3)
        | fail)
      have hB3 := B3.out.alloc B3.out.size (.cells #[.string r1, .slice D1 r2.length d1, .slice D2 r3.length d2] 27)
      have hs3 := (Below.refl w3.heap.size w3).alloc (Nat.le_refl _) (.cells #[.string r1, .slice D1 r2.length d1, .slice D2 r3.length d2] 27)
      have hx3 := heap_alloc_new w3 (.cells #[.string r1, .slice D1 r2.length d1, .slice D2 r3.length d2] 27)
      have hc1 := Kd.C_below HR1.out.2 hs3
      have hc2' := Kd.C_below HR2.out.2 hs3
      generalize w3.alloc (.cells #[.string r1, .slice D1 r2.length d1, .slice D2 r3.length d2] 27) = W3 at *
      generalize w3.heap.size = g5 at *
      have B3' := Lib.hid hB3
      have H3 := Lib.hid (HH.out.below hB3)
      have HX3 := Lib.hid hx3
      have HC1 := Lib.hid (And.intro HR1.out.1 hc1)
      have HC2' := Lib.hid (And.intro HR2.out.1 hc2')
      clear hB3 B3 HC2 hc2 H1 B1 B2 HR1 HR2 hs3 hx3 hc1 hc2'
      cases r5 with
      | false =>
        go_wp2_with fail
        go_ret
        exact ⟨rfl, B3'.out⟩
      | true =>
        cases bg with
        | false =>
          go_wp2_with (first
            | (go_at_call 9; with_reducible refine (H3.out.keys FK.out.few).mono ?_; rintro e w4 ⟨A4, c4, rfl, hc4, hC4, hb4⟩; have HC4 := Lib.hid hC4; have B4 := Lib.hid (B3'.out.trans (hb4.mono B3'.out.size)); clear hC4 hb4)
            | (go_at_call 10; with_reducible refine (HG.out _ _ _ HC4.out hc4).mono ?_; rintro e w5 ⟨rfl, hb5⟩; have B5 := Lib.hid (B4.out.trans (hb5.mono B4.out.size)); clear hb5)
            | fail)
          go_ret
          exact ⟨rfl, B5.out⟩
        | true =>
          have HGK := Lib.hid (hbg rfl)
          have HRS := Lib.hid (HRES.out rfl).2
          obtain ⟨p1, p2, hom, rfl, rfl, hp1, hp2⟩ := told_out (HRES.out rfl).1 HRS.out
          have HOM := Lib.hid hom
          have HP := Lib.hid (And.intro hp1 hp2)
          have hx := HX3.out
          rw [List.length_map, List.length_map] at hx
          have HX := Lib.hid hx
          have hC1 : p1.length ≤ d1 ∧ Kd.C k37 W3 D1 p1.length (p1.map s37) := by have := HC1.out; rwa [List.length_map] at this
          have hC2 : p2.length ≤ d2 ∧ Kd.C k37 W3 D2 p2.length (p2.map s37) := by have := HC2'.out; rwa [List.length_map] at this
          have HD1 := Lib.hid hC1
          have HD2 := Lib.hid hC2
          clear hbg HRES HOP hom hp1 hp2 hx hC1 hC2 HX3 HC1 HC2'
          by_cases h4 : r4 = 0
          · have t4 : (r4 == 0) = true := by rw [h4]; rfl
            have H4 := Lib.hid h4
            clear h4
            obtain ⟨bs, hbs, hsm⟩ := smallC r1 (p1.map s37) (p2.map s37) p1.length p2.length (List.length_map _) (List.length_map _) HP.out.1 HP.out.2
            have HBS := Lib.hid hbs
            have HSM := Lib.hid hsm
            clear hbs hsm
            cases bs with
            | false =>
              go_wp2_with (first
                | (go_at_call 9; with_reducible refine (H3.out.keys FK.out.few).mono ?_; rintro e w4 ⟨A4, c4, rfl, hc4, hC4, hb4⟩; have HC4 := Lib.hid hC4; have T4 := Lib.hid hb4; clear hC4 hb4)
                | (go_at_call 10; with_reducible refine (HG.out _ _ _ HC4.out hc4).mono ?_; rintro e w5 ⟨rfl, hb5⟩; have T5 := Lib.hid (T4.out.trans (hb5.mono T4.out.size)); obtain ⟨k0, k1, k2, -, -, -⟩ := three ((T5.out.block _ (blk_lt HX.out)).trans HX.out); clear hb5)
                | (go_at_call 14; with_reducible refine (HSM.out _ _ _ _ _ (Kd.C_below HD1.out.2 T5.out) HD1.out.1 (Kd.C_below HD2.out.2 T5.out) HD2.out.1).mono ?_; rintro e w6 ⟨rfl, hb6⟩; have T6 := Lib.hid (T5.out.trans (hb6.mono T5.out.size)); clear hb6)
                | fail)
              go_ret
              exact ⟨rfl, B3'.out.trans (T6.out.mono B3'.out.size)⟩
            | true =>
              obtain ⟨t, m, hanew⟩ := anew ks l r1 p1 p2 (H4.out ▸ HOM.out) (HBS.out rfl)
              have HA := Lib.hid hanew
              clear hanew
              have hio : ∀ W, LW W A0 c0 ks eM → Calls Tryd.prog 11 #[.string (S l), .slice A0 ks.length c0] W (IORd W r1 p1 p2 0) := fun W hW => (hW.iopen FK.out HGK.out l HL.out HRS.out).mono fun e w' hp => (H4.out ▸ HOM.out ▸ hp : IOPost W (r1, p1, p2, 0) e w').rd
              have hio2 : ∀ W, LW W A0 c0 ks eM → Calls Tryd.prog 11 #[.string (S m), .slice A0 ks.length c0] W (IORd W r1 p1 p2 0) := fun W hW => (hW.iopen FK.out HGK.out m HA.out.ml HA.out.cnt).mono fun e w' hp => (HA.out.out ▸ hp : IOPost W (r1, p1, p2, 0) e w').rd
              have HIO := Lib.hid hio
              have HIO2 := Lib.hid hio2
              clear hio hio2
              have HSG : Hid (∀ (W : World) (A1 A2 : Option Addr) (c1 c2 : Nat), LW W A0 c0 ks eM → (p1.length ≤ c1 ∧ Kd.C k75 W A1 p1.length p1) → (p2.length ≤ c2 ∧ Kd.C k75 W A2 p2.length p2) → Calls Tryd.prog 15 #[.agg #[.string r1, .slice A1 p1.length c1, .slice A2 p2.length c2], .slice none 0 0] W fun e w' => e = .returned (.tuple #[.string (S m), .bool true]) ∧ Below W.heap.size W w') := Lib.hid fun W A1 A2 c1 c2 hW g1 g2 => by
                have ha := HA.out
                rw [ha.text, ha.eq]
                exact isign0 W t A1 A2 c1 c2 p1 p2 g1 g2 ha.s1 ha.s2 (Nat.le_trans ha.n1 (by decide)) (Nat.le_trans ha.n2 (by decide)) (Nat.le_trans ha.tl (by decide)) ha.t10 hW.hU hW.hW
              have HR1 : Hid (Rd37 W3 D1 p1.length d1 (p1.map s37)) := Lib.hid ⟨List.length_map _, HD1.out⟩
              have HR2 : Hid (Rd37 W3 D2 p2.length d2 (p2.map s37)) := Lib.hid ⟨List.length_map _, HD2.out⟩
              go_upto_region 7 with (first
                | (go_at_call 9; with_reducible refine (H3.out.keys FK.out.few).mono ?_; rintro e w4 ⟨A4, c4, rfl, hc4, hC4, hb4⟩; have HC4 := Lib.hid hC4; have T4 := Lib.hid hb4; clear hC4 hb4)
                | (go_at_call 10; with_reducible refine (HG.out _ _ _ HC4.out hc4).mono ?_; rintro e w5 ⟨rfl, hb5⟩; have T5 := Lib.hid (T4.out.trans (hb5.mono T4.out.size)); obtain ⟨k0, k1, k2, -, -, -⟩ := three ((T5.out.block _ (blk_lt HX.out)).trans HX.out); clear hb5)
                | (go_at_call 14; with_reducible refine (HSM.out _ _ _ _ _ (Kd.C_below HD1.out.2 T5.out) HD1.out.1 (Kd.C_below HD2.out.2 T5.out) HD2.out.1).mono ?_; rintro e w6 ⟨rfl, hb6⟩; have T6 := Lib.hid (T5.out.trans (hb6.mono T5.out.size)); clear hb6)
                | (go_at_call 11; with_reducible refine (HIO.out _ (H3.out.below T6.out)).mono ?_; rintro e w7 ⟨E1, e1, E2, e2, rfl, hq1, hq2, hb7⟩; have T7 := Lib.hid (T6.out.trans (hb7.mono T6.out.size)); have HQ1 := Lib.hid hq1; have HQ2 := Lib.hid hq2; clear hq1 hq2 hb7)
                | fail)
              clear HD1 HD2 HC4 hc4 k0 k1 k2 T4 T5 T6
              have hs := (Below.refl w7.heap.size w7).alloc (Nat.le_refl _) (.cells #[.string r1, .slice E1 p1.length e1, .slice E2 p2.length e2] 40)
              have hx7 := heap_alloc_new w7 (.cells #[.string r1, .slice E1 p1.length e1, .slice E2 p2.length e2] 40)
              have hT := T7.out.trans (hs.mono T7.out.size)
              have hm1 := Kd.C_below HQ1.out.2 hs
              have hm2 := Kd.C_below HQ2.out.2 hs
              generalize w7.alloc (.cells #[.string r1, .slice E1 p1.length e1, .slice E2 p2.length e2] 40) = W7 at *
              generalize w7.heap.size = g8 at *
              obtain ⟨d0, d1', d2', -, -, -⟩ := three hx7
              have T7' := Lib.hid hT
              have H7 := Lib.hid (H3.out.below hT)
              have HM1 := Lib.hid (And.intro HQ1.out.1 hm1)
              have HM2 := Lib.hid (And.intro HQ2.out.1 hm2)
              clear hs hx7 hT hm1 hm2 T7 HQ1 HQ2
              go_upto_region 13 with (first
                | (go_at_call 15; with_reducible refine (HSG.out _ _ _ _ _ H7.out HM1.out HM2.out).mono ?_; rintro e w8 ⟨rfl, hb8⟩; have T8 := Lib.hid hb8; clear hb8)
                | (go_at_call 11; with_reducible refine (HIO2.out _ (H7.out.below T8.out)).mono ?_; rintro e w9 ⟨F1, f1, F2, f2, rfl, hq1, hq2, hb9⟩; have T9 := Lib.hid (T8.out.trans (hb9.mono T8.out.size)); have HQ1 := Lib.hid hq1; have HQ2 := Lib.hid hq2; clear hq1 hq2 hb9)
                | fail)
              clear d0 d1' d2'
              have hs := (Below.refl w9.heap.size w9).alloc (Nat.le_refl _) (.cells #[.string r1, .slice F1 p1.length f1, .slice F2 p2.length f2] 40)
              have hx9 := heap_alloc_new w9 (.cells #[.string r1, .slice F1 p1.length f1, .slice F2 p2.length f2] 40)
              have hT := T7'.out.trans ((T9.out.trans (hs.mono T9.out.size)).mono T7'.out.size)
              have hm1 := Kd.C_below HQ1.out.2 hs
              have hm2 := Kd.C_below HQ2.out.2 hs
              generalize w9.alloc (.cells #[.string r1, .slice F1 p1.length f1, .slice F2 p2.length f2] 40) = W9 at *
              generalize w9.heap.size = g12 at *
              obtain ⟨d0, d1', d2', -, -, -⟩ := three hx9
              obtain ⟨k0, k1, k2, -, -, -⟩ := three ((hT.block _ (blk_lt HX.out)).trans HX.out)
              have B9 := Lib.hid (B3'.out.trans (hT.mono B3'.out.size))
              have HN1 := Lib.hid (HR1.out.below hT)
              have HN2 := Lib.hid (HR2.out.below hT)
              have hcv : ∀ W, Below W9.heap.size W9 W → _ := fun W hW => convR r1 p1 p2 HP.out.1 HP.out.2 F1 f1 F2 f2 W ⟨HQ1.out.1, Kd.C_below hm1 hW⟩ ⟨HQ2.out.1, Kd.C_below hm2 hW⟩
              have HCV := Lib.hid hcv
              clear hcv hm1 hm2 hT hs hx9 HX HR1 HR2 T7' T8 T9 HQ1 HQ2 H3 H7 HM1 HM2 t4
              go_region_held3 (fun W => Below W9.heap.size W9 W ∧ W.cell? ⟨g12, 0, none⟩ = some (.string r1) ∧ W.cell? ⟨g12, 1, none⟩ = some (.slice F1 p1.length f1) ∧ W.cell? ⟨g12, 2, none⟩ = some (.slice F2 p2.length f2) ∧ W.cell? ⟨g5, 0, none⟩ = some (.string r1) ∧ W.cell? ⟨g5, 1, none⟩ = some (.slice D1 p1.length d1) ∧ W.cell? ⟨g5, 2, none⟩ = some (.slice D2 p2.length d2))
                (first | exact bs6 (below_drew1 (Below.refl _ _)) d0 d1' d2' k0 k1 k2 | exact bs6 hq1 d0 d1' d2' k0 k1 k2 | exact bs6 hq2 d0 d1' d2' k0 k1 k2 | fail)
                (first
                  | (go_at_call 13; with_reducible refine (HCV.out _ (‹Below W9.heap.size W9 _ ∧ _›).1).mono ?_; rintro e w11 ⟨X1, b1, X2, b2, rfl, hx1, hx2, hb11⟩; have hq1 := (below_drew1 (Below.refl W9.heap.size W9)).trans (hb11.mono (below_drew1 (Below.refl W9.heap.size W9)).size))
                  | (go_at_call 12; with_reducible refine (sameR r1 (p1.map s37) (p2.map s37) p1.length p2.length HP.out.1 HP.out.2 _ hx1 hx2 (HN1.out.below hq1) (HN2.out.below hq1)).mono ?_; rintro e w12 ⟨rfl, hb12⟩; have hq2 := hq1.trans (hb12.mono hq1.size)))
              go_wp2_with fail
              go_ret
              exact ⟨rfl, B9.out.trans (hq2.mono B9.out.size)⟩
          · have t4 : (r4 == 0) = false := beq_eq_false_iff_ne.2 h4
            have t5 : (r4 != 0) = true := by rw [bne, t4]; rfl
            have t6 : decide (r4 = 0) = false := decide_eq_false h4
            go_wp2_with (first
              | (go_at_call 9; with_reducible refine (H3.out.keys FK.out.few).mono ?_; rintro e w4 ⟨A4, c4, rfl, hc4, hC4, hb4⟩; have HC4 := Lib.hid hC4; have T4 := Lib.hid hb4; clear hC4 hb4)
              | (go_at_call 10; with_reducible refine (HG.out _ _ _ HC4.out hc4).mono ?_; rintro e w5 ⟨rfl, hb5⟩; have T5 := Lib.hid (T4.out.trans (hb5.mono T4.out.size)); obtain ⟨k0, k1, k2, -, -, -⟩ := three ((T5.out.block _ (blk_lt HX.out)).trans HX.out); clear hb5)
              | fail)
            go_ret
            exact ⟨rfl, B3'.out.trans (T5.out.mono B3'.out.size)⟩
  · have c1 : decide (2147483647 < ((S l).size : Int)) = true := by rw [S_sz]; exact decide_eq_true (by omega)
    have c2 : decide (2147483647 < (S l).size) = true := by rw [S_sz]; exact decide_eq_true (by omega)
    clear hl hbf
    go_enter Tryd.func6, Tryd.ntmps6
    go_wp2_with fail
    go_ret
    exact ⟨rfl, Below.refl _ _⟩
end Go.Proofs.YtkbegfihdpiacaaDoor.PX

namespace Go.Proofs.YtkbegfihdpiacaaDoor.PX
open Go.RowKit Go.Proofs.YtkbegfihdpiacaaDoorW.PrintWords Go.Proofs.YtkbegfihdpiacaaDoorW.PrintLast Go.Proofs.YtkbegfihdpiacaaDoorW.PrintMore
attribute [local go_sem] max2_int min2_int max_two min_two max_three min_three max_four min_four   -- for this text's walks alone
set_option linter.unusedVariables false
set_option linter.unusedSimpArgs false
def spec_Good.l0 : Nat → List (S59) → List (S59) → Int → Int → Option (Bool)
  | 0, _, _, _, _ => none
  | k + 1, x0, x5, x6, x7 => if x7 < x6 then (if 0 ≤ x7 then (if x7 < (x5.length : Int) then (if x7 ≤ (x0.length : Int) then ((spec_Find.f k (x0.take (x7 : Int).toNat) ((rd_T59 x5 x7).f0) ((rd_T59 x5 x7).f1)).bind fun t238 => (if t238 ≥ 0 then (some false) else (if (((rd_T59 x5 x7).f2).length : Int) > 8 then (some false) else (if (((rd_T59 x5 x7).f3).length : Int) = (((rd_T59 x5 x7).f2).length : Int) then (spec_Good.l0 k x0 x5 x6 (wrap64 (x7 + 1))) else (some false))))) else (none)) else (none)) else (none)) else (some (decide ((x0.length : Int) ≤ 8)))
def spec_Good.f (k : Nat) (l0 : List (S59)) : Option (Bool) := spec_Good.l0 k l0 l0 (l0.length : Int) 0
theorem spec_Good.mono_l : ∀ k, (∀ y0 y1 y2 y3, LeO (spec_Good.l0 k y0 y1 y2 y3) (spec_Good.l0 (k + 1) y0 y1 y2 y3))
  | 0 => fun _ _ _ _ r h => by simp [spec_Good.l0] at h
  | k + 1 => by
    have ih0 := spec_Good.mono_l k
    · intro y0 y1 y2 y3
      unfold spec_Good.l0
      repeat' first
      | (with_reducible exact ih0 _ _ _ _)
      | (with_reducible exact spec_Find.mono _ _ _ _)
      | (with_reducible exact LeO.refl _)
      | (with_reducible exact LeO.none _)
      | (with_reducible refine LeO.ite ?_ ?_)
      | (with_reducible refine LeO.bind ?_ (fun _ => ?_))
      | exact ih0 _ _ _ _
      | exact spec_Find.mono _ _ _ _
      | exact LeO.none _
      | refine LeO.ite ?_ ?_
      | refine LeO.bind ?_ (fun _ => ?_)
theorem spec_Good.mono : ∀ a0 k, LeO (spec_Good.f k a0) (spec_Good.f (k + 1) a0) := by
  intro a0 k
  have ih0 := spec_Good.mono_l k
  unfold spec_Good.f
  repeat' first
      | (with_reducible exact ih0 _ _ _ _)
      | (with_reducible exact spec_Find.mono _ _ _ _)
      | (with_reducible exact LeO.refl _)
      | (with_reducible exact LeO.none _)
      | (with_reducible refine LeO.ite ?_ ?_)
      | (with_reducible refine LeO.bind ?_ (fun _ => ?_))
      | exact ih0 _ _ _ _
      | exact spec_Find.mono _ _ _ _
      | exact LeO.none _
      | refine LeO.ite ?_ ?_
      | refine LeO.bind ?_ (fun _ => ?_)
def spec_Good.T4 : Bool × List (List Nat × List Nat) := (true, [([], []), ([], []), ([0, 1], [0, 1]), ([], []), ([3], [3]), ([], []), ([5], [5]), ([2, 4, 6], [2, 4, 6]), ([7], [7]), ([8, 7], [8]), ([9], [9]), ([10, 9], [9, 10]), ([11, 9], [9, 11]), ([12, 9], [9, 12]), ([9, 13], [9, 13]), ([14, 9], [14]), ([15], [15]), ([16, 15], [15, 16]), ([17, 15], [15, 17]), ([15], [15]), ([19, 15], [15, 19]), ([20, 15], [15, 20]), ([18, 21, 15], [15, 18, 21]), ([15, 22], [15, 22])])
def spec_Good.B4 : List Nat := [0, 0, 3, 0, 8, 0, 32, 127, 255, 511, 1023, 2047, 4095, 8191, 16383, 32767, 65535, 131071, 262143, 65535, 589823, 1638399, 4194303, 8388607]
end Go.Proofs.YtkbegfihdpiacaaDoor.PX

namespace Go.Proofs.YtkbegfihdpiacaaDoor.PX
open Go.RowKit Nt Go.Lib Go.Maps Go.Proofs.YtkbegfihdpiacaaDoorW.PrintWords Go.Proofs.YtkbegfihdpiacaaDoorW.PrintLast
set_option linter.unusedVariables false
set_option linter.unusedSimpArgs false
section
variable {H : Type} {enc : TypeId × Value → H} {w : World} {base : Nat} {spare : Nat → Bool} {held : Bool}
/-- The texts of a key. -/
theorem strs_C {fuel : Nat} {cs : List Value} {x : DataW H × List MemPlace} (h : DataW.trod enc Tryd.prog w base spare held fuel 32 cs = some x) :
    ∃ A c l, cs = [.slice A l.length c] ∧ l.length ≤ c ∧ Kd.string.C w A l.length l := by
  rcases Deep.open_strs Tryd.underlying32 Tryd.underlying9 (by kernel_rfl) h with ⟨rfl, _⟩ | ⟨a, len, cap, m, Sx, rfl, _, hle, hmx, hm, _, hc⟩
  · exact ⟨none, 0, [], rfl, Nat.le_refl _, rfl, by decide, fun h => absurd h (by decide)⟩
  · have hlm : len ≤ m := by rw [hm]; split <;> omega
    have hlen : ((List.range len).map Sx).length = len := by simp
    refine ⟨some a, cap, (List.range len).map Sx, by rw [hlen], by rw [hlen]; exact hle, ?_⟩
    rw [hlen]
    refine ⟨hlen, by unfold maxLen at hmx; omega, fun _ => ⟨a, rfl, fun j p hj => ?_⟩⟩
    have hjl : j < len := by
      have := (List.getElem?_eq_some_iff.1 hj).1
      rw [hlen] at this; exact this
    have hp : Sx j = p := by
      rw [List.getElem?_map, List.getElem?_range hjl] at hj
      exact Option.some.inj hj
    subst hp
    refine ⟨[.string (Sx j)], rfl, rfl, fun i u hu => ?_⟩
    cases i with
    | zero =>
      injection hu with hu
      subst hu
      have := (hc j (by omega)).1
      rw [show Kd.string.sz = 1 from rfl, Nat.mul_one, Nat.add_zero]
      exact this
    | succ i => simp at hu
set_option maxRecDepth 100000 in
/-- One key. -/
theorem key_K {fuel : Nat} {cs : List Value} {x : DataW H × List MemPlace} (h : DataW.trod enc Tryd.prog w base spare held fuel 34 cs = some x) : ∃ k : S34, k34.K w k cs ∧ cs.length = k34.sz ∧ (Lit.int .u32 k.f1).wf = true := by
  obtain ⟨xs, n, _, _, hcl, hxl, hf⟩ := DataW.trod_struct Tryd.underlying34 h
  have hc4 : Tryd.prog.cellsOf 34 = 4 := by kernel_rfl
  rw [hc4] at hcl
  match cs, hcl, xs, hxl with
  | [v0, v1, v2, v3], _, [y0, y1, y2, y3], _ =>
    have e0 : Tryd.prog.cellsOf 9 = 1 := by kernel_rfl
    have e1 : Tryd.prog.cellsOf 23 = 1 := by kernel_rfl
    have e2 : Tryd.prog.cellsOf 32 = 1 := by kernel_rfl
    have g0 : DataW.trod enc Tryd.prog w base spare held n 9 [v0] = some y0 := by
      have g := hf 0 _ rfl
      change DataW.trod enc Tryd.prog w base spare held n 9 (List.take (Tryd.prog.cellsOf 9) [v0, v1, v2, v3]) = some y0 at g
      rw [e0] at g
      exact g
    have g1 : DataW.trod enc Tryd.prog w base spare held n 23 [v1] = some y1 := by
      have g := hf 1 _ rfl
      change DataW.trod enc Tryd.prog w base spare held n 23 (List.take (Tryd.prog.cellsOf 23) [v1, v2, v3]) = some y1 at g
      rw [e1] at g
      exact g
    have g2 : DataW.trod enc Tryd.prog w base spare held n 32 [v2] = some y2 := by
      have g := hf 2 _ rfl
      change DataW.trod enc Tryd.prog w base spare held n 32 (List.take (Tryd.prog.cellsOf 32) [v2, v3]) = some y2 at g
      rw [e2] at g
      exact g
    have g3 : DataW.trod enc Tryd.prog w base spare held n 32 [v3] = some y3 := by
      have g := hf 3 _ rfl
      change DataW.trod enc Tryd.prog w base spare held n 32 (List.take (Tryd.prog.cellsOf 32) [v3]) = some y3 at g
      rw [e2] at g
      exact g
    obtain ⟨s, h0, _, _⟩ := DataW.trod_string Tryd.underlying9 g0
    obtain ⟨m, h1, _, hw⟩ := DataW.trod_int Tryd.underlying23 g1
    obtain ⟨A2, c2, l2, h2, hl2, hC2⟩ := strs_C g2
    obtain ⟨A3, c3, l3, h3, hl3, hC3⟩ := strs_C g3
    simp at h0 h1 h2 h3
    subst h0; subst h1; subst h2; subst h3
    exact ⟨⟨s, m, l2, l3⟩, k34_mk w ⟨s, m, l2, l3⟩ hl2 hC2 hl3 hC3, rfl, hw⟩
/-- The keys. -/
theorem keys_C {fuel : Nat} {cs : List Value} {x : DataW H × List MemPlace} (h : DataW.trod enc Tryd.prog w base spare held fuel 22 cs = some x) :
    ∃ A c ks, cs = [.slice A ks.length c] ∧ ks.length ≤ c ∧ Kd.C k34 w A ks.length ks ∧ ∀ k ∈ ks, (Lit.int .u32 k.f1).wf = true := by
  rcases Deep.open_slice Tryd.underlying22 h with ⟨rfl, _⟩ | ⟨a, len, cap, m, n, D, Pl, rfl, hb, hle, hmx, hm, _, hx⟩
  · exact ⟨none, 0, [], rfl, Nat.le_refl _, ⟨rfl, by decide, fun h => absurd h (by decide)⟩, fun k hk => by cases hk⟩
  · have hlm : len ≤ m := by rw [hm]; split <;> omega
    have hc4 : Tryd.prog.cellsOf 34 = 4 := by kernel_rfl
    have each : ∀ i, i < len → ∃ k : S34, (∃ c, c.length = k34.sz ∧ k34.K w k c ∧ ∀ j u, c[j]? = some u → w.cell? (a.add (i * k34.sz + j)) = some u) ∧ (Lit.int .u32 k.f1).wf = true := by
      intro i hi
      obtain ⟨cs', h1, h2⟩ := hx i (by omega)
      obtain ⟨k, hK, hl, hw⟩ := key_K h2
      refine ⟨k, ⟨cs', hl, hK, fun j u hu => ?_⟩, hw⟩
      obtain ⟨_, hlen, hcell⟩ := World.cells?_some h1
      have hj : j < cs'.length := (List.getElem?_eq_some_iff.1 hu).1
      have := hcell j (by omega)
      rw [hu, hc4, Deep.add_add] at this
      exact this
    haveI : Inhabited S34 := ⟨z34⟩
    obtain ⟨F, hF⟩ := Deep.choose_lt each
    have hlen : ((List.range len).map F).length = len := by simp
    refine ⟨some a, cap, (List.range len).map F, by rw [hlen], by rw [hlen]; exact hle, ?_, ?_⟩
    · rw [hlen]
      refine ⟨hlen, by unfold maxLen at hmx; omega, fun _ => ⟨a, rfl, fun j p hj => ?_⟩⟩
      have hjl : j < len := by
        have := (List.getElem?_eq_some_iff.1 hj).1
        rw [hlen] at this; exact this
      have hp : F j = p := by
        rw [List.getElem?_map, List.getElem?_range hjl] at hj
        exact Option.some.inj hj
      subst hp
      exact (hF j hjl).1
    · intro k hk
      obtain ⟨j, hj, rfl⟩ := List.mem_map.1 hk
      exact (hF j (List.mem_range.1 hj)).2
end
end Go.Proofs.YtkbegfihdpiacaaDoor.PX

namespace Go.Proofs.YtkbegfihdpiacaaDoor.PX
open Go.ChangeShapes Go.WideShapes Go.ChangeAt Go.RowKit Go.Lib Go.Shelf
set_option linter.unusedVariables false
abbrev malN : String := "loop.example/pub-notesandsignatures/pub/sumdbnote.errMalformedNote"
abbrev misN : String := "loop.example/pub-notesandsignatures/pub/sumdbnote.errMismatchedVerifier"
theorem gFirst : Tryd.prog.globalNamed "unicode/utf8.first" = some 3 := by kernel_rfl
theorem gFirstT : (Tryd.prog.globals[3]?).map (·.type) = some 157 := by kernel_rfl
theorem gAcc : Tryd.prog.globalNamed "unicode/utf8.acceptRanges" = some 4 := by kernel_rfl
theorem gAccT : (Tryd.prog.globals[4]?).map (·.type) = some 160 := by kernel_rfl
theorem gMal : Tryd.prog.globalNamed malN = some 0 := by kernel_rfl
theorem gMalT : (Tryd.prog.globals[0]?).map (·.type) = some 62 := by kernel_rfl
theorem gMis : Tryd.prog.globalNamed misN = some 1 := by kernel_rfl
theorem gMisT : (Tryd.prog.globals[1]?).map (·.type) = some 62 := by kernel_rfl
theorem c8 : Tryd.prog.cellsOf 5 = 1 := by kernel_rfl
theorem c256 : Tryd.prog.cellsOf 157 = 256 := by kernel_rfl
theorem cAcc : Tryd.prog.cellsOf 159 = 2 := by kernel_rfl
theorem cStr : Tryd.prog.cellsOf 9 = 1 := by kernel_rfl
theorem cErr : Tryd.prog.cellsOf 211 = 1 := by kernel_rfl
theorem star : "*" ++ "errors.errorString" = "*errors.errorString" := by decide
theorem rowErr (u : TypeId) (h : Tryd.prog.typeName? 3 u = some "*errors.errorString") : u = 195 :=
  typeName_ptr_named (nm := "errors.errorString") (by rw [star]; kernel_rfl) (by kernel_rfl) (by decide) u (by rw [star]; exact h)
theorem accD : (Rows.laid_unicode_utf8_acceptRanges : DataW Unit) = Lib.acceptData := by kernel_rfl
theorem firstD : Rows.laid_unicode_utf8_first = Lib.firstData := by kernel_rfl
theorem whiteD : (Rows.laid_unicode_White_Space : DataW Unit) = Lib.whiteData := by kernel_rfl
/-- The decoder's two tables. -/
theorem tabs_of {w : World} (h3 : VarReads Tryd.prog w "unicode/utf8.first" Lib.firstData) (h4 : VarReads Tryd.prog w "unicode/utf8.acceptRanges" Lib.acceptData) : Utf8Tabs 3 4 w := by
  obtain ⟨g, t, cs, fuel, p, hg, hty, hvar, hd⟩ := h3
  obtain rfl := Option.some.inj (gFirst.symm.trans hg)
  obtain rfl := Option.some.inj (gFirstT.symm.trans hty)
  have hf := cells_of_tab Tryd.underlying157 Tryd.underlying5 c8 c256 hd
  obtain ⟨g', t', cs', fuel', p', hg', hty', hvar', hd'⟩ := h4
  obtain rfl := Option.some.inj (gAcc.symm.trans hg')
  obtain rfl := Option.some.inj (gAccT.symm.trans hty')
  refine ⟨fun c hc => ?_, fun i hi => ?_⟩
  · rw [World.var?_cell hg hvar c, ← Array.getElem?_toList, hf]
    simp [Lib.firstTab, hc]
  · obtain ⟨k, d, q, hdi, he⟩ := array_elem Tryd.underlying160 hd' i hi
    rw [List.getElem?_map, List.getElem?_range hi] at hdi
    obtain rfl := Option.some.inj hdi
    rw [cAcc] at he
    have hcs := ints_of_struct (zs := [(accLo i : Int), (accHi i : Int)]) Tryd.underlying159 (fun j f hj => by
      match j, hj with
      | 0, hj => obtain rfl := Option.some.inj hj; exact ⟨Tryd.underlying5, rfl, c8⟩
      | 1, hj => obtain rfl := Option.some.inj hj; exact ⟨Tryd.underlying5, rfl, c8⟩
      | j + 2, hj => simp at hj) (by rw [cAcc]; rfl) he
    have e0 := congrArg (·[0]?) hcs
    have e1 := congrArg (·[1]?) hcs
    simp only [List.getElem?_take, List.getElem?_drop] at e0 e1
    constructor
    · rw [World.var?_cell hg' hvar' (2 * i), ← Array.getElem?_toList]
      simpa [Nat.mul_comm] using e0
    · rw [World.var?_cell hg' hvar' (2 * i + 1), ← Array.getElem?_toList]
      simpa [Nat.mul_comm] using e1
theorem white_of {w : World} (h6 : VarReads Tryd.prog w "unicode.White_Space" Lib.whiteData) : WhiteTab 6 w :=
  whiteTab_of_reads Tryd.lays199 ⟨by kernel_rfl, by kernel_rfl, by kernel_rfl, by kernel_rfl, by kernel_rfl, by kernel_rfl, by kernel_rfl, by kernel_rfl⟩ h6
/-- The world in which the listed variables hold what their initialisers lay. -/
noncomputable abbrev N0 : Nat := (World.holding Tryd.prog default ⟨#[], #[], []⟩).heap.size
end Go.Proofs.YtkbegfihdpiacaaDoor.PX

namespace Go.Proofs.YtkbegfihdpiacaaDoor.PX
open Go.ChangeShapes Go.WideShapes Go.ChangeAt Go.RowKit Go.Lib Go.Shelf
open Go.ChangeMaps (open_string shut_string)
set_option linter.unusedVariables false
theorem ownS : ownKnob Tryd.prog.godebug = none := by kernel_rfl
theorem laidOutS : laidOutB Tryd.prog = true := by kernel_rfl
abbrev invN : String := "loop.example/pub-notesandsignatures/pub/sumdbnote.errInvalidSigner"
theorem gInv : Tryd.prog.globalNamed invN = some 2 := by kernel_rfl
theorem gInvT : (Tryd.prog.globals[2]?).map (·.type) = some 62 := by kernel_rfl
/-- A world that meets the row. -/
noncomputable def laidWorldS (os : Os) : World :=
  let w0 := World.holding Tryd.prog os ⟨#[.cells (Lib.whiteT.map fun (z : Nat) => Value.int .u16 (z : Int)).toArray (Tryd.lays199_ren.t 198), .cells #[.slice (some ⟨N0, 0, none⟩) 7 7, .slice none 0 0, .int .i64 2] (Tryd.lays199_ren.t 196),
    .cells #[.string ⟨#[109, 97, 108, 102, 111, 114, 109, 101, 100, 32, 110, 111, 116, 101]⟩] 211,
    .cells #[.string ⟨#[118, 101, 114, 105, 102, 105, 101, 114, 32, 110, 97, 109, 101, 32, 111, 114, 32, 104, 97, 115, 104, 32, 100, 111, 101, 115, 110, 39, 116, 32, 109, 97, 116, 99, 104, 32, 115, 105, 103, 110, 97, 116, 117, 114, 101]⟩] 211,
    .cells #[.string ⟨#[98, 121, 116, 101, 115, 46, 66, 117, 102, 102, 101, 114, 58, 32, 116, 111, 111, 32, 108, 97, 114, 103, 101]⟩] 211,
    .cells #[.string ⟨#[105, 110, 118, 97, 108, 105, 100, 32, 115, 105, 103, 110, 101, 114]⟩] 211], #[], []⟩
  let put (h : Array Obj) (g : Nat) (cs : Array Value) : Array Obj := h.modify g fun
    | .cells _ t frozen => .cells cs t frozen
    | o => o
  let h1 := put w0.heap 3 (Lib.firstTab.map fun z => Value.int .u8 z).toArray
  let h2 := put h1 4 ((List.range 16).flatMap fun i => [Value.int .u8 (Lib.accLo i), Value.int .u8 (Lib.accHi i)]).toArray
  let h3 := put h2 6 #[.pointer (some ⟨N0 + 1, 0, none⟩)]
  let h4 := put h3 0 #[.iface 195 (.pointer (some ⟨N0 + 2, 0, none⟩))]
  let h5 := put h4 1 #[.iface 195 (.pointer (some ⟨N0 + 3, 0, none⟩))]
  let h6 := put h5 7 #[.iface 195 (.pointer (some ⟨N0 + 4, 0, none⟩))]
  let h7 := put h6 2 #[.iface 195 (.pointer (some ⟨N0 + 5, 0, none⟩))]
  { w0 with heap := h7 }
theorem laid_metS (os : Os) (args : Array Value) : laidMet Tryd.prog Rows.fnSignNothingRow.laid ((laidWorldS os).forCall (fun _ _ => 0) ⟨#[], args, []⟩).memory :=
  (LaidIn.of_run [4, 6, N0 + 1, N0, 7, N0 + 4, 0, N0 + 2, 2, N0 + 5, 1, N0 + 3, 3] 12 (by kernel_rfl) (by kernel_rfl) (by kernel_rfl) (by kernel_rfl)).met
/-- The three named variables, read as tokens. -/
theorem vars_readS {H : Type} (enc : TypeId × Value → H) {W : World} {x0 x1 x2 : Value} (h0 : W.var? Tryd.prog malN = some #[x0]) (h1 : W.var? Tryd.prog misN = some #[x1]) (h2 : W.var? Tryd.prog invN = some #[x2]) (i0 : IsIface x0) (i1 : IsIface x1) (i2 : IsIface x2) (sp : Nat → Bool) :
    DataW.TrodVars enc Tryd.prog W sp [malN, misN, invN] [tok enc x0, tok enc x1, tok enc x2] [.cell 0 0, .cell 1 0, .cell 2 0] :=
  ⟨_, _, #[x0], 1, [], [.cell 1 0, .cell 2 0], gMal, gMalT, h0, trod_held Tryd.underlying62 i0 0, ⟨_, _, #[x1], 1, [], [.cell 2 0], gMis, gMisT, h1, trod_held Tryd.underlying62 i1 0, ⟨_, _, #[x2], 1, [], [], gInv, gInvT, h2, trod_held Tryd.underlying62 i2 0, rfl, rfl⟩, rfl⟩, rfl⟩
theorem var_ltS {W : World} {n : String} {cs : Array Value} (h : W.var? Tryd.prog n = some cs) : ∃ g, Tryd.prog.globalNamed n = some g ∧ g < W.heap.size := by
  unfold World.var? at h
  cases hg : Tryd.prog.globalNamed n with
  | none => simp [hg] at h
  | some g =>
    refine ⟨g, rfl, ?_⟩
    simp only [hg, Option.bind_some] at h
    rcases Nat.lt_or_ge g W.heap.size with h' | h'
    · exact h'
    · simp [Array.getElem?_eq_none h'] at h
theorem var_belowS {W W' : World} {n : String} {cs : Array Value} (h : W.var? Tryd.prog n = some cs) (hb : Below W.heap.size W W') : W'.var? Tryd.prog n = some cs := by
  obtain ⟨g, hg, hlt⟩ := var_ltS h
  unfold World.var? at h ⊢
  simp only [hg, Option.bind_some] at h ⊢
  rw [hb.block g hlt]
  exact h
set_option maxRecDepth 100000 in
theorem fnSignNothing_lifted (os : Os) (started : os.Started) (H : Type) (enc : TypeId × Value → H) :
    ReturnsInHanded {} Tryd.checked os 6 .any (fun w args => (Rows.fnSignNothingSpec.pre enc Tryd.prog Tryd.f6 [] false w args ∧ laidMet Tryd.prog Rows.fnSignNothingRow.laid w) ∧ sizedMet enc Tryd.prog Tryd.f6 (OpenSpec.ofChange Rows.fnSignNothingSpec) false w args)
      (Rows.fnSignNothingSpec.post enc Tryd.prog Tryd.f6 false true false false) := by
  refine returnsInHanded_of_change_and (C := Tryd.checked) (X := fun w _ => laidMet Tryd.prog Rows.fnSignNothingRow.laid w) (fun _ _ _ hh h => h.of_heap hh) ownS started (by kernel_rfl) Tryd.func6
    (ChangeSpec.witness_shaped (enc := enc) (C := Tryd.checked) (os := os) (X := fun w _ => laidMet Tryd.prog Rows.fnSignNothingRow.laid w) false (laidWorldS os) #[.string ⟨#[]⟩, .slice none 0 0] 8 rfl (World.shaped_of_RefB (by kernel_rfl) (by kernel_rfl)) (by kernel_rfl) (by kernel_rfl) (by kernel_rfl) (laid_metS os _)) ?_
  intro W base args ds gs before hval0 hW _ _ hL _
  have hval : ∀ (j : Nat) t v, Tryd.f6.params[j]? = some t → args[j]? = some v → Value.okWide Tryd.prog W .any base t v := hval0
  have hW' := hW
  obtain ⟨p, q, hA0, hV0, rfl, hfz, hnd⟩ := hW
  have hA : DataW.TrodAll enc Tryd.prog W 0 (fun _ => true) true Tryd.f6.params.toList args.toList ds p := hA0
  have hV : DataW.TrodVars enc Tryd.prog W (fun _ => true) [malN, misN, invN] gs q := hV0
  rw [Tryd.params6] at hA hval
  obtain ⟨v0, v1, d0, d1, p0, p1, rfl, rfl, rfl, h0, h1⟩ := trodAll_two hA
  obtain ⟨s, rfl, rfl, rfl, ws⟩ := open_string Tryd.underlying9 (hval 0 9 v0 rfl rfl) h0
  obtain ⟨a, len, cap, rfl⟩ := okWide_slice Tryd.underlying22 (hval 1 22 v1 rfl rfl)
  have k1 := h1
  have lt1 : ∀ x ∈ p1, x.block < W.heap.size := by obtain ⟨m, hm⟩ := k1; exact DataW.trod_lt m _ _ _ hm
  obtain ⟨m1, hm1⟩ := h1
  obtain ⟨A, c, ks, hcs, hle, hC, hwf⟩ := keys_C hm1
  have hva : (Value.slice a len cap).cells.toList = [.slice a len cap] := rfl
  rw [hva] at hcs
  injection hcs with hcs _
  injection hcs with e1 e2 e3
  subst e1; subst e2; subst e3
  obtain ⟨a0, sa, hv0, _, _, _⟩ := laid_sentinel hL.tail.tail.tail gMal gMalT Tryd.underlying62 rowErr Tryd.underlying195 Tryd.underlying211 rfl rfl Tryd.underlying9 cErr cStr
  obtain ⟨c0, sc, hv2, _, _, _⟩ := laid_sentinel hL.tail.tail.tail.tail gInv gInvT Tryd.underlying62 rowErr Tryd.underlying195 Tryd.underlying211 rfl rfl Tryd.underlying9 cErr cStr
  obtain ⟨b0, sb, hv1, _, _, _⟩ := laid_sentinel hL.tail.tail.tail.tail.tail gMis gMisT Tryd.underlying62 rowErr Tryd.underlying195 Tryd.underlying211 rfl rfl Tryd.underlying9 cErr cStr
  obtain ⟨rfl, rfl⟩ := hV.unique (vars_readS enc hv0 hv1 hv2 trivial trivial trivial _)
  clear hA0 hV0 hval0
  have hg0 : W.cell? ⟨0, 0, none⟩ = some (.iface 195 (.pointer (some a0))) := by simpa using World.var?_cell gMal hv0 0
  have hU := tabs_of (firstD ▸ Lib.laidMet.reads hL (.tail _ (.tail _ (.tail _ (.tail _ (.tail _ (.tail _ (.head _)))))))) (accD ▸ Lib.laidMet.reads hL (.head _))
  have hWh := white_of (whiteD ▸ Lib.laidMet.reads hL (.tail _ (.head _)))
  refine (fnSignNothing_any W s.data.toList a cap ks _ ⟨hU, hWh, hg0, ⟨_, rfl⟩, hC, hle, hwf⟩).mono fun e W' he => ?_
  obtain ⟨rfl, bel⟩ := he
  have e1 : Rows.fnSignNothingSpec.fn H ([.lit (.string s.data.toList), d1] ++ [tok enc (.iface 195 (.pointer (some a0))), tok enc (.iface 195 (.pointer (some b0))), tok enc (.iface 195 (.pointer (some c0)))]) = { results := [.lit (.bool true)], args := [.lit (.string s.data.toList), d1], vars := [tok enc (.iface 195 (.pointer (some a0))), tok enc (.iface 195 (.pointer (some b0))), tok enc (.iface 195 (.pointer (some c0)))] } := rfl
  refine ⟨_, rfl, _, _, _, [], [] ++ p1, [.cell 0 0, .cell 1 0, .cell 2 0], hW', ?_, ?_, ?_, bel.frame _, fun h => by cases h⟩
  · rw [e1]; exact trodAll_mk1 (shut_bool Tryd.underlying4 true)
  · rw [e1]; exact trodAll_mk2 (shut_string Tryd.underlying9 ws) (Below.trod laidOutS (by kernel_rfl) (of_decide_eq_true (by kernel_rfl)) k1 bel lt1)
  · rw [e1]; exact vars_readS enc (var_belowS hv0 bel) (var_belowS hv1 bel) (var_belowS hv2 bel) trivial trivial trivial _
theorem fnSignNothing_holds : Rows.FnSignNothingSaid :=
  OpenClaim.holds_of_wide 6 Tryd.f6 rfl rfl rfl rfl rfl rfl rfl ⟨rfl, rfl, rfl, rfl, rfl⟩ rfl rfl rfl rfl rfl (by kernel_rfl) Tryd.func6 (by kernel_rfl)
    (of_decide_eq_true (by kernel_rfl)) (by unfold Func.isWrapper; first | (rw [if_neg (of_decide_eq_false (by kernel_rfl))]; exact ⟨rfl, rfl⟩) | (rw [if_pos (of_decide_eq_true (by kernel_rfl))]; kernel_rfl))
    (fun os started H enc _ => fnSignNothing_lifted os started H enc)
end Go.Proofs.YtkbegfihdpiacaaDoor.PX

namespace Go.Proofs.YtkbegfihdpiacaaDoor
open Go PX
theorem fnSignNothing_card : Rows.FnSignNothingCardSaid :=
  Claim7.holds_tied_plain_at .later [] [.data, .listed, .sentinel, .sentinel, .sentinel, .sentinel, .pinned] true (true, "c66d015329552041d251c45491c86520836d9611402dc5f8f4561b1516259514") true
    fnSignNothing_holds (fun _ h => by cases h) (by kernel_rfl) (fun _ h => by cases h) fnSignNothing_row_tie rfl ⟨rfl, rfl⟩ (by kernel_rfl) rfl
    (fun f fn hf hfn => by
      obtain rfl : f = 6 := (Option.some.inj ((show Tryd.prog.funcNamed "loop.example/pub-notesandsignatures/laws.FnSignNothing" = some 6 by kernel_rfl).symm.trans hf)).symm
      obtain rfl : fn = Tryd.f6 := (Option.some.inj (Tryd.func6.symm.trans hfn)).symm
      exact ⟨by kernel_rfl, fun j t ht => by
        rw [Tryd.params6] at ht
        have h3 : t = 9 ∨ t = 22 := by
          rcases j with _ | _ | j
          · exact .inl (by simpa using ht.symm)
          · exact .inr (by simpa using ht.symm)
          · simp at ht
        rcases h3 with rfl | rfl
        · exact (show Tryd.prog.wantsStandIn 9 = false by kernel_rfl)
        · exact (show Tryd.prog.wantsStandIn 22 = false by kernel_rfl)⟩)
    (by kernel_rfl)
end Go.Proofs.YtkbegfihdpiacaaDoor
