/- Part 10 of the proof: what the theorem reaches of the texts KR14. -/
import Derived.Lib.SlBytesConst
import Derived.Test.YtkbegfihdpiacaaGreatDoorKT9
set_option linter.unusedVariables false
set_option linter.unusedSimpArgs false
namespace Go.Proofs.YtkbegfihdpiacaaGreatDoor.PX
open Go.RowKit Nt Go.Lib Go.Maps Go.Proofs.YtkbegfihdpiacaaGreatDoorW.PrintWords Go.Proofs.YtkbegfihdpiacaaGreatDoorW.PrintLast
theorem cut_eq {A : Option Addr} {n c : Nat} (m : Nat) (hm : m ≤ n) : ∃ A' : Option Addr, (∀ W : World, (Instr.slice 72 (.slice A n c) (some (.int .i64 (m : Int))) none none).run Tryz.prog W = .ok (.slice A' (n - m) (c - m)) W) ∧
   ∀ (w : World) (l : List UInt8), n ≤ c → l.length = n → RB w A l → RB w A' (l.drop m) := by
 obtain ⟨i, hi, hzz⟩ := Option.map_eq_some_iff.1 infoU8
 simp only [Prod.mk.injEq] at hzz
 obtain ⟨A', h1, h2⟩ := print_cut (P := Tryz.prog) 72 5 .i64 Tryz.underlying72 hi hzz.2.1 A n c m hm
 refine ⟨A', h1, fun w l hc hl h => ?_⟩
 unfold RB at h ⊢
 rw [hl] at h
 have := h2 w .u8 (ints l) hc h
 rw [List.length_drop, hl]
 have e : (ints l).drop m = ints (l.drop m) := by unfold ints; rw [List.map_drop]
 rw [← e]; exact this
abbrev FrB (b : Nat) (AT : Option Addr) (tl cT : Nat) (A : Option Addr) (n c gN bS bU num : Nat) (A17 : Option Addr) (n17 c17 : Nat) (nm b64 : ByteArray) (g21 n21 c21 : Nat) : List (Nat × Value) :=
 (17, .slice A17 n17 c17) :: (18, .string nm) :: (19, .string b64) :: (21, .slice (some ⟨g21, 0, none⟩) n21 c21) :: FrL b AT tl cT A n c gN bS bU num
theorem std_nil : Nt.std [] = some [] := by rw [Nt.std]
theorem S_size (l : List UInt8) : (S l).size = l.length := by simp [S, ByteArray.size]
theorem S_empty (l : List UInt8) : (S l).toList.isEmpty = l.isEmpty := by rw [ByteArray.toList_eq]; rfl
structure BFacts (tot : ORes) (line t nm bb : List UInt8) : Prop where
 name : nameD nm = false → tot = .bad
 std : Nt.std bb = none → tot = .bad
 nil : bb = [] → tot = .bad
 short : ∀ raw, Nt.std bb = some raw → raw.length < 5 → tot = .bad
 fine : ∀ raw, Nt.std bb = some raw → nameD nm = true → 5 ≤ raw.length → bb ≠ [] → (lineD line).2.2.2.2.1 = true ∧ (lineD line).1 = nm ∧ (lineD line).2.1 = hashL raw ∧ (lineD line).2.2.1 = bb ∧ (lineD line).2.2.2.1 = raw.drop 4 ∧ t = nm ++ 32 :: bb
 nl : ∀ x ∈ bb, x ≠ 10 ∧ x ≠ 13
 sn : nm.length ≤ 2147483647
 sb : bb.length ≤ 2147483647
set_option maxRecDepth 100000 in
set_option maxHeartbeats 4000000 in
theorem seg25 (w0 w : World) (b B0 : Nat) (f : Value → Option Value) (ks : List S56) (vs : List Value) (eM : Value) (AT : Option Addr) (tx : List UInt8) (H : OH w0 b B0 f ks vs eM AT tx) (text : ByteArray) (tot : ORes)
  (tl cT : Nat) (A : Option Addr) (n c gN bS bU num : Nat) (A17 : Option Addr) (line : List UInt8) (c17 : Nat) (vS vU : Value) (sigs unv : List S122) (seen : List (ByteArray × Int)) (gS gU : Value → Option Value)
  (a : Act) (hF : Fr ((17, .slice A17 line.length c17) :: FrL b AT tl cT A n c gN bS bU num) a) (hS : LSt w0 w gN bS bU text vS vU sigs unv seen num gS gU)
  (hL : RB w0 A17 line) (hc : line.length ≤ c17) (hsm : line.length ≤ 2147483647) (hdash : line.take 4 = dashL) (hlow : ∀ x ∈ line, x ≠ 10 ∧ x ≠ 13) (htot : (lineD line).2.2.2.2.1 = false → tot = .bad)
  (Q : Exit → Act → World → Prop) (hret : ∀ a' w', bodyPost Tryz.prog Tryz.f24 (OPost w0 eM text tot) .ret a' w' → Q .ret a' w')
  (hnext : ∀ (a' : Act) (w' : World) (A' : Option Addr) (c' g c21 : Nat) (raw : List UInt8), Fr (FrB b AT tl cT A n c gN bS bU num A' (line.drop 4).length c' (S (lineD line).1) (S (lineD line).2.2.1) g raw.length c21) a' → LSt w0 w' gN bS bU text vS vU sigs unv seen num gS gU → RB w0 A' (line.drop 4) → (line.drop 4).length ≤ c' → RB w' (some ⟨g, 0, none⟩) raw →
   raw.length ≤ c21 → 5 ≤ raw.length → raw.length ≤ 9223372036854775807 → (lineD line).2.2.2.2.1 = true → (lineD line).2.1 = hashL raw → (lineD line).2.2.2.1 = raw.drop 4 → Nt.std (lineD line).2.2.1 = some raw → nameD (lineD line).1 = true → line.drop 4 = (lineD line).1 ++ 32 :: (lineD line).2.2.1 →
   At 30 Q a' w') :
  At 25 Q a w := by
 intro K hK
 have h4 : 4 ≤ line.length := by have := congrArg List.length hdash; rw [List.length_take] at this; simp [dashL] at this; omega
 obtain ⟨A', hcut, hA'⟩ := cut_eq (A := A17) (n := line.length) (c := c17) 4 h4
 have hrb := hA' w0 line hc rfl hL
 have hc' : line.length - 4 ≤ c17 - 4 := by omega
 have hnl : ∀ x ∈ line.drop 4, x ≠ 10 ∧ x ≠ 13 := fun x hx => hlow x (List.mem_of_mem_drop hx)
 have l1 := line_noblank line hdash
 have l2 := line_nostd line hdash
 have l3 := line_noname line hdash
 have l4 := line_short5 line hdash
 have l5 := line_fine line hdash
 have hdl : (line.drop 4).length = line.length - 4 := List.length_drop
 rw [← hdl] at hcut hc'
 have e4 : ((4 : Nat) : Int) = 4 := rfl
 rw [e4] at hcut
 clear e4 hdl h4 hA'
 have hts : (line.drop 4).length ≤ 2147483647 := by rw [List.length_drop]; omega
 generalize line.drop 4 = t at *
 have hbl := blank_le t
 have hbat := blank_at t
 obtain ⟨kz, hz⟩ := zzcut (S t) (by rw [S_size]; exact hts)
 rw [S_size] at hz
 have hz' : sumdbnote_zzCut.f kz (S t) ⟨#[32]⟩ = some (if blank t < t.length then (S (t.take (blank t)), S (t.drop (blank t + 1)), true) else (S t, S [], false)) := by
  rw [hz]
  have e0 : (S t).data.toList = t := rfl
  have ex : ∀ i j, (S t).extract i j = S ((t.drop i).take (j - i)) := fun i j => by
   apply ByteArray.ext; apply Array.toList_inj.1
   rw [S_extract]; rfl
  rw [e0, ex, ex, Nat.sub_zero, List.drop_zero, List.take_of_length_le (l := t.drop (blank t + 1)) (by rw [List.length_drop]; exact Nat.le_refl _)]
  rfl
 clear hz
 have HZ := Lib.hid hz'
 have HH := Lib.hid H
 have HS := Lib.hid hS
 have HRB := Lib.hid hrb
 have HL1 := Lib.hid l1
 have HL2 := Lib.hid l2
 have HL3 := Lib.hid l3
 have HL4 := Lib.hid l4
 have HL5 := Lib.hid l5
 have HNL := Lib.hid hnl
 have HRET := Lib.hid hret
 have HNEXT := Lib.hid hnext
 have HTOT := Lib.hid htot
 have HBAT := Lib.hid hbat
 have cvL := (hrb.below hS.below).str (c17 - 4)
 rw [show (⟨t.toArray⟩ : ByteArray) = S t from rfl] at cvL
 clear hz' H hS hrb l1 l2 l3 l4 l5 hnl hret hnext htot hL hdash hlow hbat
 conv => arg 2; whnf
 have HK := Lib.hid hK
 clear hK
 obtain ⟨g, rfl, hg⟩ := hF.lit
 clear hF
 simp only [List.forall_mem_cons] at hg
 obtain ⟨k17, k1, k10, k11, k12, k13, k14, k15, -⟩ := hg
 unfold lit
 simp only [k17, k1, k10, k11, k12, k13, k14, k15]
 clear k17 k1 k10 k11 k12 k13 k14 k15
 go_wp2_with fail
 refine HK.out _ _ ?_
 conv => arg 2; whnf
 go_upto_region 26 with fail
 refine wp_cut (fun a' wc => ∃ (nm bb : List UInt8) (m : Nat), Fr ((18, .string (S nm)) :: (19, .string (S bb)) :: (17, .slice A' t.length (c17 - 4)) :: FrL b AT tl cT A n c gN bS bU num) a' ∧ wc = w.drewN m ∧ Hid (BFacts tot line t nm bb)) ?_ ?_
 rotate_left
 ·intro J K' hJ hK'
  have HJ := Lib.hid hJ
  clear hJ
  by_cases hb : blank t < t.length
  ·have HZC := Lib.hid (show ∀ W, _ from fun W => sumdbnote_zzCut.calls kz (S t) ⟨#[32]⟩ (S (t.take (blank t))) (S (t.drop (blank t + 1))) true W (by rw [HZ.out, if_pos hb]))
   have HB := Lib.hid hb
   clear hb
   go_wp2_with (go_at_call 41; refine (HZC.out _).mono ?_; rintro e w1 ⟨rfl, ⟨m1, rfl⟩⟩)
   refine Met.intro (HJ.out _ _ ⟨t.take (blank t), t.drop (blank t + 1), _, ⟨rfl, rfl, by repeat (first | exact ks_nil _ | refine ks_cons rfl ?_)⟩, rfl, ?_⟩)
   exact Lib.hid
    {name := fun h => HTOT.out (HL3.out h)
     std := fun h => HTOT.out (HL2.out h)
     nil := fun h => HTOT.out (HL4.out [] (by rw [h, std_nil]) (by decide))
     short := fun raw h h5 => HTOT.out (HL4.out raw h h5)
     fine := fun raw h hn h5 _ => by
      obtain ⟨e1, e2, e3, e4, e5⟩ := HL5.out HB.out raw h hn h5
      exact ⟨e1, e2, e3, e4, e5, by
       have := HBAT.out HB.out
       obtain ⟨hlt, he⟩ := List.getElem?_eq_some_iff.1 this
       rw [← he, ← List.drop_eq_getElem_cons hlt, List.take_append_drop]⟩
     nl := fun x hx => HNL.out x (List.mem_of_mem_drop hx)
     sn := by rw [List.length_take]; omega
     sb := by rw [List.length_drop]; omega }
  ·have hbe : blank t = t.length := by omega
   have HZC := Lib.hid (show ∀ W, _ from fun W => sumdbnote_zzCut.calls kz (S t) ⟨#[32]⟩ (S t) (S []) false W (by rw [HZ.out, if_neg hb]))
   have HBAD := Lib.hid (HTOT.out (HL1.out hbe))
   clear hb hbe
   go_wp2_with (go_at_call 41; refine (HZC.out _).mono ?_; rintro e w1 ⟨rfl, ⟨m1, rfl⟩⟩)
   refine Met.intro (HJ.out _ _ ⟨t, [], _, ⟨rfl, rfl, by repeat (first | exact ks_nil _ | refine ks_cons rfl ?_)⟩, rfl, ?_⟩)
   exact Lib.hid
    {name := fun h => HBAD.out
     std := fun h => HBAD.out
     nil := fun h => HBAD.out
     short := fun raw h h5 => HBAD.out
     fine := fun raw h hn h5 hne => absurd rfl hne
     nl := fun x hx => by cases hx
     sn := hts
     sb := by simp }
 ·rintro a' wc ⟨nm, bb, m, hF, rfl, HF⟩
  obtain ⟨g2, rfl, hg⟩ := hF.lit
  clear hF
  simp only [List.forall_mem_cons] at hg
  obtain ⟨k18, k19, k17, k1, k10, k11, k12, k13, k14, k15, -⟩ := hg
  unfold lit
  simp only [k18, k19, k17, k1, k10, k11, k12, k13, k14, k15]
  clear k18 k19 k17 k1 k10 k11 k12 k13 k14 k15 cvL
  have HSm := Lib.hid (HS.out.step (pw_below_drewN (Below.refl _ _) m))
  have hnil : (S bb).toList.isEmpty = bb.isEmpty := S_empty bb
  have hnmS : (S nm).size ≤ 2147483647 := by rw [S_size]; exact HF.out.sn
  generalize w.drewN m = wm at *
  go_wp2_with fail
  refine (stdenc _).mono ?_
  rintro e w1 ⟨ge, rfl, hO⟩
  have HS1 := Lib.hid (HSm.out.step hO.below)
  have HEnc := Lib.hid (EncR.of hO)
  clear hO HSm
  go_wp2_with fail
  refine (dstring w1 ge (S bb) (by rw [S_size]; exact HF.out.sb) HEnc.out HF.out.nl).mono ?_
  rintro e w2 ⟨hb2, hcase⟩
  have HS2 := Lib.hid (HS1.out.step hb2)
  clear hb2 HS1 HEnc
  rcases hcase with ⟨gr, cr, raw, hstd, rfl, hcr, hrr⟩ | ⟨hstd, v, x, rfl⟩
  ·have HSTD := Lib.hid hstd
   have HRR := Lib.hid hrr
   have hU := utf8_keep HH.out.hU HS2.out.below
   have hW := white_keep HH.out.hW HS2.out.below
   have cV := valid_any (S nm) w2 hnmS hU hW
   rw [show (S nm).data.toList = nm from rfl] at cV
   clear hstd hrr hU hW
   cases hn : nameD nm with
   | false =>
    rw [hn] at cV
    have HBAD := Lib.hid (HF.out.name hn)
    clear hn
    go_wp2_with (go_at_call 44; refine cV.mono ?_; rintro e w3 ⟨rfl, hb3⟩; have hE3 := HH.out.err (HS2.out.step hb3).below; have HB3 := Lib.hid (HS2.out.step hb3).below; clear hb3)
    go_quiet (fail)
    go_wp2_with fail
    refine HRET.out _ _ ?_
    go_ret2
    exact OPost.bad HBAD.out (pw_below_drewN HB3.out _)
   | true =>
    rw [hn] at cV
    have HN := Lib.hid hn
    clear hn
    cases bb with
    | nil =>
     have HBAD := Lib.hid (HF.out.nil rfl)
     have hnil' : (S ([] : List UInt8)).toList.isEmpty = true := hnil
     clear hnil
     go_wp2_with (go_at_call 44; refine cV.mono ?_; rintro e w3 ⟨rfl, hb3⟩; have hE3 := HH.out.err (HS2.out.step hb3).below; have HB3 := Lib.hid (HS2.out.step hb3).below; clear hb3)
     go_quiet (fail)
     go_wp2_with fail
     refine HRET.out _ _ ?_
     go_ret2
     exact OPost.bad HBAD.out (pw_below_drewN HB3.out _)
    | cons x0 bb0 =>
     have hnil' : (S (x0 :: bb0)).toList.isEmpty = false := hnil
     clear hnil
     by_cases h5 : raw.length < 5
     ·have h5a : decide ((raw.length : Int) < 5) = true := decide_eq_true (by omega)
      have h5b : decide (raw.length < 5) = true := decide_eq_true h5
      have HBAD := Lib.hid (HF.out.short raw HSTD.out h5)
      clear h5
      go_wp2_with (go_at_call 44; refine cV.mono ?_; rintro e w3 ⟨rfl, hb3⟩; have hE3 := HH.out.err (HS2.out.step hb3).below; have HB3 := Lib.hid (HS2.out.step hb3).below; clear hb3)
      go_quiet (fail)
      go_wp2_with fail
      refine HRET.out _ _ ?_
      go_ret2
      exact OPost.bad HBAD.out (pw_below_drewN HB3.out _)
     ·have h5a : decide ((raw.length : Int) < 5) = false := decide_eq_false (by omega)
      have h5b : decide (raw.length < 5) = false := decide_eq_false h5
      have H5 := Lib.hid h5
      clear h5
      go_upto_region 30 with (go_at_call 44; refine cV.mono ?_; rintro e w3 ⟨rfl, hb3⟩; have HS3 := Lib.hid (HS2.out.step hb3); have HRR3 := Lib.hid (HRR.out.below hb3); clear hb3)
      obtain ⟨f1, f2, f3, f4, f5, f6⟩ := HF.out.fine raw HSTD.out HN.out (by have := H5.out; omega) (by simp)
      refine HNEXT.out _ _ A' (c17 - 4) gr cr raw ⟨rfl, rfl, ?_⟩ HS3.out HRB.out hc' HRR3.out hcr (by have := H5.out; omega) ?_ f1 f3 f5 (by rw [f4]; exact HSTD.out) (by rw [f2]; exact HN.out) (by rw [f2, f4]; exact f6) _ (fun a' w' h => by first | assumption | (refine (by assumption : ∀ a w, _ → _) _ _ h))
      ·rw [f2, f4]; repeat (first | exact ks_nil _ | refine ks_cons rfl ?_)
      ·exact HRR3.out.2.1
  ·have HBAD := Lib.hid (HF.out.std hstd)
   have hE3 := HH.out.err HS2.out.below
   clear hstd
   go_wp2_with fail
   go_quiet (fail)
   go_wp2_with fail
   refine HRET.out _ _ ?_
   go_ret2
   exact OPost.bad HBAD.out (pw_below_drewN HS2.out.below _)
theorem rd_ints4 (l : List UInt8) (i : Nat) (b : UInt8) (h : l[i]? = some b) : rd (ints l) (i : Int) = (b.toNat : Int) := by
 rw [rd_ints]; unfold bI; rw [List.getD_eq_getElem?_getD, h]; rfl
theorem be_eq (l : List UInt8) (h : 4 ≤ l.length) : sumdbnote_beUint32.f (ints l) = some ((hashL l : Nat) : Int) := by
 unfold sumdbnote_beUint32.f
 rw [ints_length, if_pos (by omega), if_pos (by omega), if_pos (by omega), if_pos (by omega)]
 match l, h with
 | a :: b :: c :: d :: t, _ =>
  have e0 := rd_ints4 (a :: b :: c :: d :: t) 0 a rfl
  have e1 := rd_ints4 (a :: b :: c :: d :: t) 1 b rfl
  have e2 := rd_ints4 (a :: b :: c :: d :: t) 2 c rfl
  have e3 := rd_ints4 (a :: b :: c :: d :: t) 3 d rfl
  rw [show (0 : Int) = ((0 : Nat) : Int) from rfl, show (1 : Int) = ((1 : Nat) : Int) from rfl, show (2 : Int) = ((2 : Nat) : Int) from rfl, show (3 : Int) = ((3 : Nat) : Int) from rfl, e0, e1, e2, e3]
  have := be_or a.toNat b.toNat c.toNat d.toNat a.toNat_lt b.toNat_lt c.toNat_lt d.toNat_lt
  rw [this]
  rfl
theorem hash_take (l : List UInt8) (h : 4 ≤ l.length) : hashL (l.take 4) = hashL l := by
 match l, h with
 | a :: b :: c :: d :: t, _ => rfl
abbrev FrC (b : Nat) (AT : Option Addr) (tl cT : Nat) (A : Option Addr) (n c gN bS bU num : Nat) (A17 : Option Addr) (n17 c17 : Nat) (nm b64 : ByteArray) (A21 : Option Addr) (n21 c21 : Nat) (h : Int) : List (Nat × Value) :=
 (17, .slice A17 n17 c17) :: (18, .string nm) :: (19, .string b64) :: (21, .slice A21 n21 c21) :: (23, .int .u32 h) :: FrL b AT tl cT A n c gN bS bU num
set_option maxRecDepth 100000 in
set_option maxHeartbeats 2000000 in
theorem seg30 (w0 w : World) (b : Nat) (AT : Option Addr) (text : ByteArray) (tl cT : Nat) (A : Option Addr) (n c gN bS bU num : Nat) (A17 : Option Addr) (n17 c17 : Nat) (nm b64 : ByteArray) (g21 c21 : Nat) (raw : List UInt8) (vS vU : Value) (sigs unv : List S122) (seen : List (ByteArray × Int)) (gS gU : Value → Option Value)
  (a : Act) (hF : Fr (FrB b AT tl cT A n c gN bS bU num A17 n17 c17 nm b64 g21 raw.length c21) a) (hS : LSt w0 w gN bS bU text vS vU sigs unv seen num gS gU) (hR : RB w (some ⟨g21, 0, none⟩) raw) (hc : raw.length ≤ c21) (h5 : 5 ≤ raw.length) (hsm : raw.length ≤ 9223372036854775807) (hnum : num + 1 ≤ 100)
  (Q : Exit → Act → World → Prop)
  (hnext : ∀ (a' : Act) (w' : World) (A21 : Option Addr) (c' : Nat), Fr (FrC b AT tl cT A n c gN bS bU (num + 1) A17 n17 c17 nm b64 A21 (raw.drop 4).length c' ((hashL raw : Nat) : Int)) a' → LSt w0 w' gN bS bU text vS vU sigs unv seen (num + 1) gS gU → RB w' A21 (raw.drop 4) → At 35 Q a' w') :
  At 30 Q a w := by
 intro K hK
 have hbe := be_eq (raw.take 4) (by rw [List.length_take]; omega)
 rw [hash_take raw (by omega)] at hbe
 have hl4 : (raw.take 4).length = 4 := by rw [List.length_take]; omega
 have hbc := sumdbnote_beUint32.calls (some ⟨g21, 0, none⟩) c21 (ints (raw.take 4)) _ w (hR.take 4 (by omega)).C (by rw [ints_length, hl4]; omega) hbe
 rw [ints_length, hl4] at hbc
 obtain ⟨A', hcut, hA'⟩ := cut_eq (A := some ⟨g21, 0, none⟩) (n := raw.length) (c := c21) 4 (by omega)
 have hrb := hA' w raw hc rfl hR
 have e4 : ((4 : Nat) : Int) = 4 := rfl
 rw [e4] at hcut
 have hdl : (raw.drop 4).length = raw.length - 4 := List.length_drop
 have HBC := Lib.hid hbc
 have HK := Lib.hid hK
 have HS := Lib.hid hS
 have HRB := Lib.hid hrb
 have HNEXT := Lib.hid hnext
 have HDL := Lib.hid hdl
 have q1 : (4 : Int) ≤ (c21 : Int) := by omega
 have q2 : 4 ≤ c21 := by omega
 have n1 : decide ((100 : Int) < (num : Int) + 1) = false := decide_eq_false (by omega)
 have n2 : (num : Int) + 1 ≤ 100 := by omega
 have hnn : ((num : Int) + 1) = ((num + 1 : Nat) : Int) := by omega
 have HNN := Lib.hid hnn
 clear hbc hbe hK hS hrb hnext hA' hR e4 hdl hl4 hnn
 conv => arg 2; whnf
 obtain ⟨g, rfl, hg⟩ := hF.lit
 clear hF
 simp only [List.forall_mem_cons] at hg
 obtain ⟨k17, k18, k19, k21, k1, k10, k11, k12, k13, k14, k15, -⟩ := hg
 unfold lit
 simp only [k17, k18, k19, k21, k1, k10, k11, k12, k13, k14, k15]
 clear k17 k18 k19 k21 k1 k10 k11 k12 k13 k14 k15
 go_wp2_with (go_at_call 45; refine HBC.out.mono ?_; rintro e w1 ⟨rfl, ⟨m1, rfl⟩⟩)
 refine HK.out _ _ ?_
 conv => arg 2; whnf
 go_upto_region 35 with fail
 refine HNEXT.out _ _ A' (c21 - 4) ⟨rfl, rfl, ?_⟩ ((HS.out.step (pw_below_drewN (Below.refl _ _) m1)).more _ (by omega)) (HRB.out.drewN m1) _ (fun a' w' h => by first | assumption | (refine (by assumption : ∀ a w, _ → _) _ _ h))
 rw [HDL.out]
 repeat (first | exact ks_nil _ | refine ks_cons (by first | rfl | exact congrArg (Value.int .i64) HNN.out) ?_)
theorem zeroB (w : World) : (zeroValue 4).run Tryz.prog w = .ok (.bool false) w := by kernel_rfl
theorem seenV_yes {p : Prop} (h : p) : seenV p = some (.bool true) := if_pos h
theorem seenV_no {p : Prop} (h : ¬ p) : seenV p = none := if_neg h
theorem SeenU.yes {gU : Value → Option Value} {unv : List S122} (h : SeenU gU unv) {c : S122} (hc : c ∈ unv) : gU (.string (S (sgLine c))) = some (.bool true) := by
 rw [h]; exact seenV_yes ⟨c, hc, rfl⟩
theorem SeenU.no {gU : Value → Option Value} {unv : List S122} (h : SeenU gU unv) (hok : ∀ x ∈ unv, SgOk x) {c : S122} (hc : c ∉ unv) (hco : SgOk c) : gU (.string (S (sgLine c))) = none := by
 rw [h]; refine seenV_no ?_
 rintro ⟨x, hx, e⟩
 exact hc (sgLine_inj (hok x hx) hco e ▸ hx)
theorem str_inj {s t : ByteArray} (h : Value.string s = Value.string t) : s = t := by injection h
theorem SeenU.add {gU : Value → Option Value} {unv : List S122} (h : SeenU gU unv) (c : S122) : SeenU (upd gU (.string (S (sgLine c))) (.bool true)) (unv ++ [c]) := by
 intro s
 by_cases e : s = S (sgLine c)
 ·subst e
  rw [upd_same]; exact (seenV_yes ⟨c, by simp, rfl⟩).symm
 ·rw [upd_other _ _ (fun e' => e (str_inj e')), h]
  congr 1
  refine propext ⟨fun ⟨x, hx, hl⟩ => ⟨x, by simp [hx], hl⟩, fun ⟨x, hx, hl⟩ => ?_⟩
  rcases List.mem_append.1 hx with hx | hx
  ·exact ⟨x, hx, hl⟩
  ·rw [List.mem_singleton.1 hx] at hl
   exact absurd (ByteArray.ext (Array.toList_inj.1 hl.symm)) e
theorem SeenS.add {gS : Value → Option Value} {seen : List (ByteArray × Int)} (h : SeenS gS seen) (nm : ByteArray) (k : Int) : SeenS (upd gS (keyV nm k) (.bool true)) ((nm, k) :: seen) := by
 intro nm' k'
 by_cases e : keyV nm' k' = keyV nm k
 ·rw [e, upd_same]
  obtain ⟨rfl, rfl⟩ := keyV_inj e
  exact (seenV_yes (by simp)).symm
 ·rw [upd_other _ _ e, h]
  congr 1
  refine propext ⟨fun hm => List.mem_cons_of_mem _ hm, fun hm => ?_⟩
  rcases List.mem_cons.1 hm with hm | hm
  ·injection hm with e1 e2; subst e1; subst e2; exact absurd rfl e
  ·exact hm
theorem find_none {ks : List S56} {nm : ByteArray} {h : Int} (hf : findS ks nm h = none) : ∀ x ∈ ks, ¬ (x.f0 = nm ∧ x.f1 = h) := by
 intro x hx e
 have := List.find?_eq_none.1 hf x hx
 simp [e.1, e.2] at this
theorem find_some {ks : List S56} {nm : ByteArray} {h : Int} {x : S56} (hf : findS ks nm h = some x) : x ∈ ks ∧ x.f0 = nm ∧ x.f1 = h := by
 have h1 := List.mem_of_find?_eq_some hf
 have h2 := List.find?_some hf
 simp at h2
 exact ⟨h1, h2.1, h2.2⟩
theorem known_method (b : Nat) (w : World) : (method 320 128 (.map (some b)) "Verifier").run Tryz.prog w = .ok (110, .map (some b)) w := by kernel_rfl
structure Cur (line : List UInt8) (t nm bb raw : List UInt8) (cur : S122) : Prop where
 fine : (lineD line).2.2.2.2.1 = true
 e1 : (lineD line).1 = nm
 e2 : (lineD line).2.1 = hashL raw
 e3 : (lineD line).2.2.1 = bb
 e4 : (lineD line).2.2.2.1 = raw.drop 4
 std : Nt.std bb = some raw
 name : nameD nm = true
 t_eq : t = nm ++ 32 :: bb
 cur : cur = ⟨S nm, ((hashL raw : Nat) : Int), S bb⟩
theorem name_noblank (l : List UInt8) (h : nameD l = true) : 32 ∉ l := by
 rw [name_split] at h
 simp only [Bool.and_eq_true] at h
 obtain ⟨⟨⟨_, hv⟩, hsp⟩, _⟩ := h
 intro hm
 have he : encs (runesD l) = l := by
  rcases encs_runes l.length l rfl with ⟨_, k⟩ | ⟨a, _⟩
  ·exact k
  ·rw [a] at hv; cases hv
 rw [← he] at hm
 simp only [Nt.encs, List.mem_flatten, List.mem_map] at hm
 obtain ⟨bs, ⟨r, hr, rfl⟩, hb⟩ := hm
 have hns := List.all_eq_true.1 hsp r hr
 have hr32 : r = 32 := by
  unfold encodeRune at hb
  by_cases h1 : r ≤ 127
  ·rw [encodeRuneZ_one (by omega) (by omega)] at hb
   simp only [List.map_cons, List.map_nil, List.mem_singleton, Int.toNat_natCast] at hb
   have := congrArg UInt8.toNat hb
   simp at this
   omega
  ·exfalso
   have key : ∀ x ∈ encodeRuneZ (r : Int), 128 ≤ x ∧ x < 256 := by
    intro x hx
    unfold encodeRuneZ at hx
    repeat' split at hx
    all_goals simp at hx
    all_goals omega
   obtain ⟨x, hx, hxe⟩ := List.mem_map.1 hb
   have hk := key x hx
   have := congrArg UInt8.toNat hxe
   simp at this
   omega
 subst hr32
 exact absurd hns (by decide)
theorem Cur.sg {line t nm bb raw : List UInt8} {cur : S122} (h : Cur line t nm bb raw cur) : SgOk cur := by
 rw [h.cur]
 exact ⟨name_noblank nm h.name, raw, h.std, rfl⟩
theorem Cur.line {line t nm bb raw : List UInt8} {cur : S122} (h : Cur line t nm bb raw cur) : sgLine cur = t := by
 rw [h.cur, h.t_eq]; rfl
theorem Cur.open_none {line t nm bb raw : List UInt8} {cur : S122} (h : Cur line t nm bb raw cur) {ks : List S56} {text : ByteArray} {ls : List (List UInt8)} {seen : List (ByteArray × Int)} {sigs unv : List S122} (hf : findS ks (S nm) ((hashL raw : Nat) : Int) = none) :
  (cur ∈ unv → openL ks text (line :: ls) seen sigs unv = openL ks text ls seen sigs unv) ∧ (cur ∉ unv → openL ks text (line :: ls) seen sigs unv = openL ks text ls seen sigs (unv ++ [cur])) := by
 have e : ∀ p q : ORes, (if (lineD line).2.2.2.2.1 = false then p else q) = q := fun p q => if_neg (by rw [h.fine]; simp)
 constructor
 ·intro hm
  conv => lhs; unfold openL
  rw [e, h.e1, h.e2, h.e3, hf]
  simp only
  rw [← h.cur, if_pos hm]
 ·intro hm
  conv => lhs; unfold openL
  rw [e, h.e1, h.e2, h.e3, hf]
  simp only
  rw [← h.cur, if_neg hm]
theorem Cur.open_some {line t nm bb raw : List UInt8} {cur : S122} (h : Cur line t nm bb raw cur) {ks : List S56} {text : ByteArray} {ls : List (List UInt8)} {seen : List (ByteArray × Int)} {sigs unv : List S122} {x : S56} (hf : findS ks (S nm) ((hashL raw : Nat) : Int) = some x) :
  ((S nm, ((hashL raw : Nat) : Int)) ∈ seen → openL ks text (line :: ls) seen sigs unv = openL ks text ls seen sigs unv) ∧
  ((S nm, ((hashL raw : Nat) : Int)) ∉ seen → accS x.f2 x.f3 text (S (raw.drop 4)) = true → openL ks text (line :: ls) seen sigs unv = openL ks text ls ((S nm, ((hashL raw : Nat) : Int)) :: seen) (sigs ++ [cur]) unv) ∧
  ((S nm, ((hashL raw : Nat) : Int)) ∉ seen → accS x.f2 x.f3 text (S (raw.drop 4)) = false → openL ks text (line :: ls) seen sigs unv = .inv (S nm) ((hashL raw : Nat) : Int)) := by
 have e : ∀ p q : ORes, (if (lineD line).2.2.2.2.1 = false then p else q) = q := fun p q => if_neg (by rw [h.fine]; simp)
 refine ⟨fun hm => ?_, fun hm ha => ?_, fun hm ha => ?_⟩
 ·conv => lhs; unfold openL
  rw [e, h.e1, h.e2, h.e3, hf]
  simp only
  rw [if_pos hm]
 ·conv => lhs; unfold openL
  rw [e, h.e1, h.e2, h.e3, h.e4, hf]
  simp only
  rw [if_neg hm, if_pos ha, ← h.cur]
 ·conv => lhs; unfold openL
  rw [e, h.e1, h.e2, h.e3, h.e4, hf]
  simp only
  rw [if_neg hm, if_neg (by rw [ha]; simp)]
theorem infoSg : (Tryz.prog.info? 122).map (fun i => (i.zero, i.size, i.bytes)) = some (some (.agg #[(.string ⟨#[]⟩), (.int .u32 0), (.string ⟨#[]⟩)]), k122.sz, 40) := by kernel_rfl
theorem asUnk (p : Option Addr) (w : World) : (Instr.typeAssert (.iface 120 (.pointer p)) 69 120 true).run Tryz.prog w = .ok (.tuple #[.pointer p, .bool true]) w := by kernel_rfl
theorem asNo (w : World) : (Instr.typeAssert .nilIface 69 120 true).run Tryz.prog w = .ok (.tuple #[.pointer none, .bool false]) w := by kernel_rfl
def Goes (w0 : World) (ks : List S56) (text : ByteArray) (tot : ORes) (ls : List (List UInt8)) (b : Nat) (AT : Option Addr) (tl cT : Nat) (A : Option Addr) (n c gN bS bU num : Nat) (Q : Exit → Act → World → Prop) : Prop :=
 ∀ (a' : Act) (w' : World) (vS vU : Value) (sigs unv : List S122) (seen : List (ByteArray × Int)) (gS gU : Value → Option Value), Fr (FrL b AT tl cT A n c gN bS bU num) a' → LSt w0 w' gN bS bU text vS vU sigs unv seen num gS gU → tot = openL ks text ls seen sigs unv → Q (.exit 3) a' w' ∧ Q .normal a' w'
set_option maxRecDepth 100000 in
set_option maxHeartbeats 4000000 in
theorem seg35no (w0 w : World) (b B0 : Nat) (f : Value → Option Value) (ks : List S56) (vs : List Value) (eM : Value) (AT : Option Addr) (tx : List UInt8) (H : OH w0 b B0 f ks vs eM AT tx) (text : ByteArray) (tot : ORes)
  (tl cT : Nat) (A : Option Addr) (n c gN bS bU num : Nat) (A17 A21 : Option Addr) (c17 c21 : Nat) (line t nm bb raw : List UInt8) (cur : S122) (hC : Cur line t nm bb raw cur) (ls : List (List UInt8)) (vS vU : Value) (sigs unv : List S122) (seen : List (ByteArray × Int)) (gS gU : Value → Option Value)
  (a : Act) (hF : Fr (FrC b AT tl cT A n c gN bS bU num A17 t.length c17 (S nm) (S bb) A21 (raw.drop 4).length c21 ((hashL raw : Nat) : Int)) a) (hS : LSt w0 w gN bS bU text vS vU sigs unv seen num gS gU) (hT : RB w0 A17 t) (htl : t.length ≤ 2147483647) (hnum : num ≤ 100) (hlu : unv.length + 1 ≤ num)
  (hwf : (Lit.int .u32 ((hashL raw : Nat) : Int)).wf = true) (hf : findS ks (S nm) ((hashL raw : Nat) : Int) = none) (htot : tot = openL ks text (line :: ls) seen sigs unv)
  (Q : Exit → Act → World → Prop) (hgo : Goes w0 ks text tot ls b AT tl cT A n c gN bS bU num Q) : At 35 Q a w := by
 intro K hK
 have hnmS : (S nm).size ≤ 2147483647 := by rw [S_size]; have := congrArg List.length hC.t_eq; simp at this; omega
 have hB := hS.below
 have hvl := vlook_no w b B0 f ks vs (H.hm.below hB) (H.hv.below hB) (S nm) _ hnmS hwf (find_none hf)
 have hkm := known_method b
 obtain ⟨o1, o2⟩ := hC.open_none (text := text) (ls := ls) (seen := seen) (sigs := sigs) (unv := unv) hf
 have HVL := Lib.hid hvl
 have HK := Lib.hid hK
 have HS := Lib.hid hS
 have HT := Lib.hid hT
 have HC := Lib.hid hC
 have HGO := Lib.hid hgo
 have HTOT := Lib.hid htot
 have HO1 := Lib.hid o1
 have HO2 := Lib.hid o2
 have hlt : t.length ≤ maxLen := by simp only [maxLen]; omega
 have hkS := Go.WideMaps.keyOf_string_mk Tryz.underlying9 (s := S t) (by rw [S_size]; exact hlt)
 have HKS := Lib.hid hkS
 clear hvl hK hS hT hC hgo htot o1 o2 hB H hf hlt hkS
 conv => arg 2; whnf
 obtain ⟨g, rfl, hg⟩ := hF.lit
 clear hF
 simp only [List.forall_mem_cons] at hg
 obtain ⟨k17, k18, k19, k21, k23, k1, k10, k11, k12, k13, k14, k15, -⟩ := hg
 unfold lit
 simp only [k17, k18, k19, k21, k23, k1, k10, k11, k12, k13, k14, k15]
 clear k17 k18 k19 k21 k23 k1 k10 k11 k12 k13 k14 k15
 go_wp2_with (go_at_call 110; refine HVL.out.mono ?_; rintro e w1 ⟨⟨gE, rfl⟩, hb1⟩; have HS1 := Lib.hid (HS.out.step hb1); clear hb1)
 refine HK.out _ _ ?_
 conv => arg 2; whnf
 have cv := ((HT.out).below HS1.out.below).str c17
 rw [show (⟨t.toArray⟩ : ByteArray) = S t from rfl] at cv
 have hAs := asUnk
 go_wp2_with fail
 have hlook := HS1.out.note.mU.look lawS Tryz.underlying107 (zeroB _) HKS.out false
 have hline := HC.out.line
 by_cases hm : cur ∈ unv
 ·have hy := HS1.out.su.yes hm
  rw [hline] at hy
  rw [hy] at hlook
  simp only [Option.getD_some, Bool.false_eq_true, if_false] at hlook
  have HQ := Lib.hid ((HTOT.out).trans (HO1.out hm))
  clear hm hy hline
  rw [hlook]
  clear hlook cv
  simp only [Result.andThen_ok, Oper.upon]
  go_wp2_with fail
  exact (HGO.out _ _ vS vU sigs unv seen gS gU ⟨rfl, rfl, by repeat (first | exact ks_nil _ | refine ks_cons rfl ?_)⟩ HS1.out HQ.out).1
 ·have hy := HS1.out.su.no HS1.out.okU hm HC.out.sg
  rw [hline] at hy
  rw [hy] at hlook
  simp only [Option.getD_none, Bool.false_eq_true, if_false] at hlook
  have HQ := Lib.hid ((HTOT.out).trans (HO2.out hm))
  have HLINE := Lib.hid hline
  clear hm hy hline
  rw [hlook]
  clear hlook
  simp only [Result.andThen_ok, Oper.upon]
  go_wp2_with fail
  obtain ⟨w2, hrun2, hm2, hg2⟩ := HS1.out.note.mU.store lawS Tryz.underlying107 (val := .bool true) HKS.out
  have hn2 := HS1.out.note.mapU hg2 hm2
  have hB2 := HS1.out.below.grown hg2 HS1.out.below.size (fun k hk => by injection hk with hk; have := HS1.out.note.geU; omega)
  rw [hrun2]
  have HN2 := Lib.hid hn2
  have HB2 := Lib.hid hB2
  clear hrun2 hm2 hg2 hn2 hB2 cv
  simp only [Result.andThen_ok, Oper.upon]
  have p2 := cell_of_row w2 gN 2 _ _ _ HN2.out.blk
  replace p2 : w2.cell? ⟨gN, 2, none⟩ = some vU := p2
  go_wp2_with (at_builtin; refine Kd.R_append k122 (w0 := w0) w0.heap.size rfl _ _ 91 122 _ 40 rfl Tryz.underlying91 infoSg rfl (by decide) (by decide) vU unv (⟨S nm, ((hashL raw : Nat) : Int), S bb⟩ : S122) [.string (S nm), .int .u32 ((hashL raw : Nat) : Int), .string (S bb)] (fun _ => True) (fun _ => False) rfl rfl (k122_mkM _ _ _ _) (fun _ h => h.elim) (fun _ _ => trivial) HN2.out.rU HB2.out HB2.out.size (by have := HS1.out.lU; omega) ?_; intro v1 w3 hr3 hb3 hg3 hat3; obtain ⟨A3, c3, hv3⟩ := Kd.R_slice hr3; rw [List.length_append, List.length_singleton] at hv3; subst hv3; have HR3 := Lib.hid hr3; have HB3 := Lib.hid hb3; have HG3 := Lib.hid hg3; have HAT := Lib.hid hat3; have hblk3 := (hg3.block gN (blk_lt HN2.out.blk) (row_ne_cells HN2.out.rU HN2.out.blk (by decide))).trans HN2.out.blk; have q2 : w3.cell? ⟨gN, 2, none⟩ = some vU := cell_of_row w3 gN 2 _ _ _ hblk3; have z2 := frozen_of_row w3 gN 2 _ _ hblk3; clear hr3 hb3 hg3 hat3 hblk3)
  refine (HGO.out _ _ vS (.slice A3 (unv.length + 1) c3) sigs (unv ++ [cur]) seen gS (upd gU (.string (S t)) (.bool true)) ⟨rfl, rfl, by repeat (first | exact ks_nil _ | refine ks_cons rfl ?_)⟩ ?_ HQ.out).1
  have hcur := HC.out.cur
  exact
  {below := HB3.out.setCell (p := ⟨gN, 2, none⟩) HN2.out.geN _
   note := HN2.out.growU (unv' := unv ++ [cur]) HG3.out (by rw [hcur]; exact HR3.out) HAT.out
   su := by rw [← HLINE.out]; exact HS1.out.su.add cur
   ss := HS1.out.ss
   okU := fun x hx => by
    rcases List.mem_append.1 hx with hx | hx
    ·exact HS1.out.okU x hx
    ·rw [List.mem_singleton.1 hx]; exact HC.out.sg
   lS := HS1.out.lS
   lU := by rw [List.length_append]; exact hlu }
theorem OPost.inv {w0 : World} {eM : Value} {text : ByteArray} {tot : ORes} {w' : World} {nm : ByteArray} {h : Int} {g : Nat} (ht : tot = .inv nm h) (hb : Below w0.heap.size w0 w') (hg : w'.heap[g]? = some (.cells #[.string nm, .int .u32 h] 81 (0, 0))) :
  OPost w0 eM text tot (.returned (.tuple #[.pointer none, .iface 79 (.pointer (some ⟨g, 0, none⟩))])) w' := by
 subst ht; exact ⟨hb, g, rfl, hg⟩
theorem RB.grown {P : Program} {kt : TypeId} {w w' : World} {A : Option Addr} {l : List UInt8} {bm : Nat} {f : Value → Option Value} (h : RB w A l) (hg : w.grownBy w' (some bm)) (hm : MapR P kt w bm f) : RB w' A l := by
 refine ⟨h.1, h.2.1, fun hn => ?_⟩
 obtain ⟨ad, e, hc⟩ := h.2.2 hn
 refine ⟨ad, e, fun j hj => ?_⟩
 have := hc j hj
 exact grown_cell hg (fun e' => by injection e' with e'; exact map_ne_cell hm this e') this
set_option maxRecDepth 100000 in
set_option maxHeartbeats 4000000 in
theorem seg35yes (w0 w : World) (b B0 : Nat) (f : Value → Option Value) (ks : List S56) (vs : List Value) (eM : Value) (AT : Option Addr) (tx : List UInt8) (H : OH w0 b B0 f ks vs eM AT tx) (tot : ORes)
  (cT : Nat) (A : Option Addr) (n c gN bS bU num : Nat) (A17 A21 : Option Addr) (c17 c21 : Nat) (line t nm bb raw : List UInt8) (cur : S122) (hC : Cur line t nm bb raw cur) (ls : List (List UInt8)) (vS vU : Value) (sigs unv : List S122) (seen : List (ByteArray × Int)) (gS gU : Value → Option Value)
  (a : Act) (hF : Fr (FrC b AT tx.length cT A n c gN bS bU num A17 t.length c17 (S nm) (S bb) A21 (raw.drop 4).length c21 ((hashL raw : Nat) : Int)) a) (hS : LSt w0 w gN bS bU (S tx) vS vU sigs unv seen num gS gU) (hR : RB w A21 (raw.drop 4)) (htl : t.length ≤ 2147483647) (hnum : num ≤ 100) (hlu : sigs.length + 1 ≤ num)
  (hwf : (Lit.int .u32 ((hashL raw : Nat) : Int)).wf = true) (x : S56) (hf : findS ks (S nm) ((hashL raw : Nat) : Int) = some x) (htot : tot = openL ks (S tx) (line :: ls) seen sigs unv)
  (Q : Exit → Act → World → Prop) (hret : ∀ a' w', bodyPost Tryz.prog Tryz.f24 (OPost w0 eM (S tx) tot) .ret a' w' → Q .ret a' w') (hgo : Goes w0 ks (S tx) tot ls b AT tx.length cT A n c gN bS bU num Q) : At 35 Q a w := by
 intro K hK
 have hB := hS.below
 obtain ⟨hxm, hx0, hx1⟩ := find_some hf
 obtain ⟨j, hj, hxj⟩ := List.getElem_of_mem hxm
 have hxj' : ks[j]? = some x := by rw [List.getElem?_eq_getElem hj, hxj]
 obtain ⟨v, hvj⟩ : ∃ v, vs[j]? = some v := ⟨_, List.getElem?_eq_getElem (by rw [H.hvs.1]; exact hj)⟩
 obtain ⟨A2, c2, A3, c3, rfl, g2, g3⟩ := H.hvs.2 j x v hxj' hvj
 have hvl := vlook_yes w b B0 f ks vs (H.hm.below hB) (H.hv.below hB) H.hok j x _ hxj' hvj
 rw [hx0, hx1] at hvl
 have hname := fun W => ver_name x A2 c2 A3 c3 W
 have hhash := fun W => ver_hash x A2 c2 A3 c3 W
 rw [hx0] at hname
 rw [hx1] at hhash
 have hkm := known_method b
 have hmN := ver_mname x A2 c2 A3 c3
 have hmH := ver_mhash x A2 c2 A3 c3
 have hmV := ver_mverify x A2 c2 A3 c3
 obtain ⟨o1, o2, o3⟩ := hC.open_some (text := S tx) (ls := ls) (seen := seen) (sigs := sigs) (unv := unv) hf
 have hnmS : (S nm).size ≤ 2147483647 := by rw [S_size]; have := congrArg List.length hC.t_eq; simp at this; omega
 have hkS := keyOfK (S nm) ((hashL raw : Nat) : Int) (by simp only [maxLen]; omega) hwf
 have hlx := H.hl x hxm
 have HVL := Lib.hid hvl
 have HNAME := Lib.hid hname
 have HHASH := Lib.hid hhash
 have HK := Lib.hid hK
 have HS := Lib.hid hS
 have HR := Lib.hid hR
 have HC := Lib.hid hC
 have HGO := Lib.hid hgo
 have HRET := Lib.hid hret
 have HTOT := Lib.hid htot
 have HO1 := Lib.hid o1
 have HO2 := Lib.hid o2
 have HO3 := Lib.hid o3
 have HKS := Lib.hid hkS
 have HH := Lib.hid H
 have HG2 := Lib.hid g2
 have HG3 := Lib.hid g3
 have HLX := Lib.hid hlx
 clear hvl hname hhash hK hS hR hC hgo hret htot o1 o2 o3 hB H hf hkS g2 g3 hlx hxm hx0 hx1 hj hxj hxj' hvj hnmS
 conv => arg 2; whnf
 obtain ⟨g, rfl, hg⟩ := hF.lit
 clear hF
 simp only [List.forall_mem_cons] at hg
 obtain ⟨k17, k18, k19, k21, k23, k1, k10, k11, k12, k13, k14, k15, -⟩ := hg
 unfold lit
 simp only [k17, k18, k19, k21, k23, k1, k10, k11, k12, k13, k14, k15]
 clear k17 k18 k19 k21 k23 k1 k10 k11 k12 k13 k14 k15
 go_wp2_with (go_at_call 110; refine HVL.out.mono ?_; rintro e w1 ⟨rfl, hb1⟩; have HS1 := Lib.hid (HS.out.step hb1); have HR1 := Lib.hid (HR.out.below hb1); clear hb1)
 refine HK.out _ _ ?_
 conv => arg 2; whnf
 have hAs := asNo
 go_wp2_with (first | (go_at_call 112; refine (HNAME.out _).mono ?_; rintro e w2 ⟨rfl, hb2⟩; have HS2 := Lib.hid (HS1.out.step hb2); have HR2 := Lib.hid (HR1.out.below hb2); clear hb2) | (go_at_call 111; refine (HHASH.out _).mono ?_; rintro e w3 ⟨rfl, hb3⟩; have HS3 := Lib.hid (HS2.out.step hb3); have HR3 := Lib.hid (HR2.out.below hb3); clear hb3) | fail)
 have hlook := HS3.out.note.mS.look lawK Tryz.underlying106 (zeroB _) HKS.out.choose_spec false
 have hss := HS3.out.ss (S nm) ((hashL raw : Nat) : Int)
 rw [hss] at hlook
 clear hss
 by_cases hm : (S nm, ((hashL raw : Nat) : Int)) ∈ seen
 ·rw [seenV_yes hm] at hlook
  simp only [Option.getD_some, Bool.false_eq_true, if_false] at hlook
  unfold keyV at hlook
  have HQ := Lib.hid ((HTOT.out).trans (HO1.out hm))
  clear hm
  rw [hlook]
  clear hlook
  simp only [Result.andThen_ok, Oper.upon]
  go_wp2_with fail
  exact (HGO.out _ _ vS vU sigs unv seen gS gU ⟨rfl, rfl, by repeat (first | exact ks_nil _ | refine ks_cons rfl ?_)⟩ HS3.out HQ.out).1
 ·rw [seenV_no hm] at hlook
  simp only [Option.getD_none, Bool.false_eq_true, if_false] at hlook
  unfold keyV at hlook
  have HM := Lib.hid hm
  clear hm
  rw [hlook]
  clear hlook
  simp only [Result.andThen_ok, Oper.upon]
  go_wp2_with fail
  obtain ⟨w4, hrun4, hm4, hg4⟩ := HS3.out.note.mS.store lawK Tryz.underlying106 (val := .bool true) HKS.out.choose_spec
  have hn4 := HS3.out.note.mapS hg4 hm4
  have hB4 := HS3.out.below.grown hg4 HS3.out.below.size (fun k hk => by injection hk with hk; have := HS3.out.note.geS; omega)
  have hR4 : RB w4 A21 (raw.drop 4) := HR3.out.grown hg4 HS3.out.note.mS
  unfold keyV at hrun4
  rw [hrun4]
  have HN4 := Lib.hid hn4
  have HB4 := Lib.hid hB4
  have HR4 := Lib.hid hR4
  clear hrun4 hm4 hg4 hn4 hB4 hR4
  simp only [Result.andThen_ok, Oper.upon]
  have hver := ver_verify x A2 c2 A3 c3 AT A21 cT c21 tx (raw.drop 4) w4 (Kd.C_below HG2.out HB4.out) (Kd.C_below HG3.out HB4.out) HLX.out.1 HLX.out.2 (HH.out.hT.below HB4.out) HR4.out
  rw [List.length_drop] at hver
  rw [show (⟨tx.toArray⟩ : ByteArray) = S tx from rfl, show (⟨(raw.drop 4).toArray⟩ : ByteArray) = S (raw.drop 4) from rfl] at hver
  cases hacc : accS x.f2 x.f3 (S tx) (S (raw.drop 4)) with
  | true =>
   rw [hacc] at hver
   have HQ := Lib.hid ((HTOT.out).trans (HO2.out HM.out hacc))
   clear hacc
   go_wp2_with (first | (go_at_call 113; refine hver.mono ?_; rintro e w5 ⟨rfl, hb5⟩; have HN5 := Lib.hid (HN4.out.below hb5); have HB5 := Lib.hid (HB4.out.trans (hb5.mono HB4.out.size)); have p1 : w5.cell? ⟨gN, 1, none⟩ = some vS := cell_of_row w5 gN 1 _ _ _ HN5.out.blk; clear hb5) | (at_builtin; refine Kd.R_append k122 (w0 := w0) w0.heap.size rfl _ _ 91 122 _ 40 rfl Tryz.underlying91 infoSg rfl (by decide) (by decide) vS sigs (⟨S nm, ((hashL raw : Nat) : Int), S bb⟩ : S122) [.string (S nm), .int .u32 ((hashL raw : Nat) : Int), .string (S bb)] (fun _ => True) (fun _ => False) rfl rfl (k122_mkM _ _ _ _) (fun _ h => h.elim) (fun _ _ => trivial) HN5.out.rS HB5.out HB5.out.size (by omega) ?_; intro v1 w6 hr6 hb6 hg6 hat6; obtain ⟨A6, c6, hv6⟩ := Kd.R_slice hr6; rw [List.length_append, List.length_singleton] at hv6; subst hv6; have HR6 := Lib.hid hr6; have HB6 := Lib.hid hb6; have HG6 := Lib.hid hg6; have HAT := Lib.hid hat6; have hblk6 := (hg6.block gN (blk_lt HN5.out.blk) (row_ne_cells HN5.out.rS HN5.out.blk (by decide))).trans HN5.out.blk; have q1 : w6.cell? ⟨gN, 1, none⟩ = some vS := cell_of_row w6 gN 1 _ _ _ hblk6; have z1 := frozen_of_row w6 gN 1 _ _ hblk6; clear hr6 hb6 hg6 hat6 hblk6) | fail)
   refine (HGO.out _ _ (.slice A6 (sigs.length + 1) c6) vU (sigs ++ [cur]) unv ((S nm, ((hashL raw : Nat) : Int)) :: seen) (upd gS (keyV (S nm) ((hashL raw : Nat) : Int)) (.bool true)) gU ⟨rfl, rfl, by repeat (first | exact ks_nil _ | refine ks_cons rfl ?_)⟩ ?_ HQ.out).2
   have hcur := HC.out.cur
   exact
   {below := HB6.out.setCell (p := ⟨gN, 1, none⟩) HN5.out.geN _
    note := HN5.out.growS (sigs' := sigs ++ [cur]) HG6.out (by rw [hcur]; exact HR6.out) HAT.out
    su := HS3.out.su
    ss := HS3.out.ss.add _ _
    okU := HS3.out.okU
    lS := by rw [List.length_append]; exact hlu
    lU := HS3.out.lU }
  | false =>
   rw [hacc] at hver
   have HQ := Lib.hid ((HTOT.out).trans (HO3.out HM.out hacc))
   clear hacc
   go_wp2_with (go_at_call 113; refine hver.mono ?_; rintro e w5 ⟨rfl, hb5⟩; have HB5 := Lib.hid (HB4.out.trans (hb5.mono HB4.out.size)); clear hb5)
   refine HRET.out _ _ ?_
   go_ret2
   exact OPost.inv HQ.out (HB5.out.alloc HB5.out.size _) (heap_alloc_new _ _)
theorem hashL_lt (l : List UInt8) : hashL l < 4294967296 := by
 match l with
 | a :: b :: c :: d :: t =>
  have ha := a.toNat_lt
  have hb := b.toNat_lt
  have hc := c.toNat_lt
  have hd := d.toNat_lt
  show be4 a.toNat b.toNat c.toNat d.toNat < _
  unfold be4
  omega
 | [] => show (0 : Nat) < _; decide
 | [_] => show (0 : Nat) < _; decide
 | [_, _] => show (0 : Nat) < _; decide
 | [_, _, _] => show (0 : Nat) < _; decide
theorem hash_wf (l : List UInt8) : (Lit.int .u32 ((hashL l : Nat) : Int)).wf = true := by
 have := hashL_lt l
 have h0 : IntKind.u32.min = 0 := rfl
 have h1 : IntKind.u32.max = 4294967295 := rfl
 simp [Lit.wf, h0, h1]
 omega
theorem dash_rb (w : World) : RB (w.alloc (.cells #[.int .u8 226, .int .u8 128, .int .u8 148, .int .u8 32] 5 (4, 5))) (some ⟨w.heap.size, 0, none⟩) dashL := by
 refine ⟨rfl, by decide, fun _ => ⟨_, rfl, fun j hj => ?_⟩⟩
 rw [add_plain]
 rw [World.cell?_alloc_mark]
 have hj4 : j < 4 := hj
 obtain rfl | rfl | rfl | rfl : j = 0 ∨ j = 1 ∨ j = 2 ∨ j = 3 := by omega
 all_goals rfl
theorem At.run {n : Nat} {Q : Exit → Act → World → Prop} {a : Act} {w : World} {K : Act → World → Prop} (h : At n Q a w) (hK : ∀ a' w', (oFrom n).wp Tryz.prog Q a' w' → K a' w') : (oRgn n).wp Tryz.prog (Exit.then K Q) a w := h K hK
def LEnd (w0 : World) (text : ByteArray) (tot : ORes) (gN : Nat) (a : Act) (w : World) : Prop :=
 ∃ (vS vU : Value) (sigs unv : List S122), tot = .ok sigs unv ∧ Fr [(12, .pointer (some ⟨gN, 0, none⟩))] a ∧ Below w0.heap.size w0 w ∧ w.heap[gN]? = some (.cells #[.string text, vS, vU] 94 (0, 0)) ∧
  Kd.R k122 122 w w0.heap.size (fun _ => True) vS sigs ∧ Kd.R k122 122 w w0.heap.size (fun _ => True) vU unv
set_option maxRecDepth 100000 in
set_option maxHeartbeats 4000000 in
theorem oloop (w0 w : World) (b B0 : Nat) (f : Value → Option Value) (ks : List S56) (vs : List Value) (eM : Value) (AT : Option Addr) (tx : List UInt8) (H : OH w0 b B0 f ks vs eM AT tx) (tot : ORes) (cT gN bS bU : Nat) (a : Act)
  (hI : LO w0 ks (S tx) tot b AT tx.length cT gN bS bU a w) (K : Act → World → Prop) (Q : Exit → Act → World → Prop) (hK : ∀ a' w', LEnd w0 (S tx) tot gN a' w' → K a' w')
  (hQ : Q = bodyPost Tryz.prog Tryz.f24 (OPost w0 eM (S tx) tot)) : (oBlk 2).wp Tryz.prog (Exit.then K Q) a w := by
 subst hQ
 conv => arg 2; whnf
 have HK := Lib.hid hK
 have HH := Lib.hid H
 clear hK H
 refine wp_block ?_
 refine wp_loop (LO w0 ks (S tx) tot b AT tx.length cT gN bS bU) Omu hI ?_
 clear hI
 rintro a wr ⟨A, rest, c, num, vS, vU, sigs, unv, seen, gS, gU, hF, hS, hR⟩
 have HS := Lib.hid hS
 have HR := Lib.hid hR
 clear hS hR
 obtain ⟨g, rfl, hg⟩ := hF.lit
 clear hF
 simp only [List.forall_mem_cons] at hg
 obtain ⟨k1, k10, k11, k12, k13, k14, k15, -⟩ := hg
 unfold lit
 simp only [k1, k10, k11, k12, k13, k14, k15]
 clear k1 k10 k11 k12 k13 k14 k15
 by_cases hr : rest = []
 ·have hr0 : rest.length = 0 := by rw [hr]; rfl
  have h1 : decide ((0 : Int) < (rest.length : Int)) = false := decide_eq_false (by omega)
  have h2 : decide (0 < rest.length) = false := decide_eq_false (by omega)
  have HRE := Lib.hid hr
  clear hr hr0
  go_wp2_with fail
  refine HK.out _ _ ⟨vS, vU, sigs, unv, ?_, ⟨rfl, rfl, ks_cons rfl (ks_nil _)⟩, HS.out.below, HS.out.note.blk, HS.out.note.rS, HS.out.note.rU⟩
  rw [HR.out.res, HRE.out, linesD_nil, openL]
 ·have hpos := List.length_pos_iff.2 hr
  have h1 : decide ((0 : Int) < (rest.length : Int)) = true := decide_eq_true (by omega)
  have h2 : decide (0 < rest.length) = true := decide_eq_true hpos
  obtain ⟨ad, hA, _⟩ := HR.out.rb.2.2 hpos
  subst hA
  have hnl := nl_lt rest hr HR.out.ends
  have hix := indexb wr ad c rest (HR.out.rb.below HS.out.below)
  rw [nl_index rest hnl] at hix
  have hix' : Calls Tryz.prog 39 #[.slice (some ad) rest.length c, .int .u8 10] wr fun e w' => e = .returned (.int .i64 ((nl rest : Nat) : Int)) ∧ wr = w' := hix.mono fun e w' h => ⟨h.1, h.2.symm⟩
  obtain ⟨A', hcut, hA'⟩ := cut_eq (A := some ad) (n := rest.length) (c := c) (nl rest + 1) hnl
  have hrb' := hA' w0 rest HR.out.cap rfl HR.out.rb
  have hll : (rest.take (nl rest)).length = nl rest := by rw [List.length_take]; omega
  have hlrb : RB w0 (some ad) (rest.take (nl rest)) := HR.out.rb.take _ (Nat.le_of_lt hnl)
  have hcap := HR.out.cap
  have hdl : (rest.drop (nl rest + 1)).length = rest.length - (nl rest + 1) := List.length_drop
  have hpre := fun W hW => hasprefix (W.alloc (.cells #[.int .u8 226, .int .u8 128, .int .u8 148, .int .u8 32] 5 (4, 5))) (some ad) (some ⟨W.heap.size, 0, none⟩) c 4 (rest.take (nl rest)) dashL (hlrb.below hW) (dash_rb W) (by omega) (by decide) (by have := HR.out.small; omega) (by decide)
  have hpw := hpre wr ((HS.out.below).alloc HS.out.below.size _)
  rw [hll] at hpw
  have hlines := linesD_cons rest hr
  have hsmall := HR.out.small
  have e1 : (((nl rest + 1 : Nat)) : Int) = ((nl rest : Nat) : Int) + 1 := by omega
  rw [e1] at hcut
  clear e1 hix hpre hA'
  have u1 : ((nl rest : Nat) : Int) ≤ (c : Int) := by omega
  have u2 : nl rest ≤ c := by omega
  have HP := Lib.hid hpw
  have HX := Lib.hid hix'
  have HRB := Lib.hid hrb'
  have HLL := Lib.hid hll
  have HLRB := Lib.hid hlrb
  have HLN := Lib.hid hlines
  have HDL := Lib.hid hdl
  have HNL := Lib.hid hnl
  clear hpw hix' hrb' hll hlrb hlines hdl hnl hr
  have kc := fun (w : World) (C : Array Value) (n c : Nat) => Lib.run_convert_bytes_const (P := Tryz.prog) w 72 5 C n c Tryz.underlying72 Tryz.underlying5
  generalize hil : nl rest = i at *
  have HIL := Lib.hid hil
  clear hil
  have hil2 : i ≤ 2147483647 := by have := HNL.out; omega
  go_upto_region 23 with (go_at_call 39; refine HX.out.mono ?_; rintro e w' ⟨rfl, rfl⟩)
  cases hd : ((rest.take i).take dashL.length == dashL) with
  | false =>
   rw [hd] at HP
   have hE := HH.out.err (HS.out.below.alloc HS.out.below.size (.cells #[.int .u8 226, .int .u8 128, .int .u8 148, .int .u8 32] 5 (4, 5)))
   have HBAD : Hid (tot = .bad) := Lib.hid (by
    rw [HR.out.res, HLN.out, openL, if_pos]
    exact line_nodash' _ (beq_eq_false_iff_ne.1 hd))
   clear hd
   go_wp2_with (go_at_call 40; refine HP.out.mono ?_; rintro e w2 ⟨rfl, ⟨m2, rfl⟩⟩)
   go_quiet (fail)
   go_wp2_with fail
   go_ret2
   exact OPost.bad HBAD.out (pw_below_drewN (pw_below_drewN (HS.out.below.alloc HS.out.below.size _) _) _)
  | true =>
   rw [hd] at HP
   have HD := Lib.hid (beq_iff_eq.1 hd)
   clear hd
   go_upto_region 25 with (go_at_call 40; refine HP.out.mono ?_; rintro e w2 ⟨rfl, ⟨m2, rfl⟩⟩)
   have HB2 := Lib.hid (pw_below_drewN ((Below.refl wr.heap.size wr).alloc (Nat.le_refl _) (.cells #[.int .u8 226, .int .u8 128, .int .u8 148, .int .u8 32] 5 (4, 5))) m2)
   generalize hW2 : (wr.alloc (.cells #[.int .u8 226, .int .u8 128, .int .u8 148, .int .u8 32] 5 (4, 5))).drewN m2 = W2 at *
   clear hW2
   have HS2 := Lib.hid (HS.out.step HB2.out)
   have hlow : ∀ x ∈ rest.take i, x ≠ 10 ∧ x ≠ 13 := fun x hx => by
    have hx10 : x ≠ 10 := fun e => by have := nl_not rest; rw [HIL.out] at this; exact this (e ▸ hx)
    refine ⟨hx10, fun e => ?_⟩
    have := List.all_eq_true.1 HR.out.low x (List.mem_of_mem_take hx)
    subst e
    exact absurd this (by decide)
   have HTOT := Lib.hid (show tot = openL ks (S tx) (rest.take i :: linesD (rest.drop (i + 1))) seen sigs unv by rw [HR.out.res, HLN.out])
   refine At.run (n := 25) ?_ (fun a' w' h => by first | assumption | (refine (by assumption : ∀ a w, _ → _) _ _ h))
   refine seg25 w0 W2 b B0 f ks vs eM AT tx HH.out (S tx) tot tx.length cT A' (rest.length - (i + 1)) (c - (i + 1)) gN bS bU num (some ad) (rest.take i) c vS vU sigs unv seen gS gU _ (by refine ⟨rfl, rfl, ?_⟩; rw [HLL.out]; repeat (first | exact ks_nil _ | refine ks_cons rfl ?_)) HS2.out HLRB.out (by rw [HLL.out]; exact u2) (by rw [HLL.out]; exact hil2) (by have := HD.out; exact this) hlow (fun h => by rw [HTOT.out, openL, if_pos h]) _ (fun a' w' h => h) ?_
   ·intro a3 w3 A3 c3 g3 c21 raw hF3 hS3 hT3 hc3 hR3 hc21 h5 hsm3 hfine e2 e4 hstd hname ht
    have hcnt := HR.out.cnt
    rw [HLN.out] at hcnt
    have hn1 : num + 1 ≤ 100 := by simp at hcnt; omega
    refine seg30 w0 w3 b AT (S tx) tx.length cT A' (rest.length - (i + 1)) (c - (i + 1)) gN bS bU num A3 _ c3 _ _ g3 c21 raw vS vU sigs unv seen gS gU a3 hF3 hS3 hR3 hc21 h5 hsm3 hn1 _ ?_
    intro a4 w4 A21 c4 hF4 hS4 hR4
    have hcur : Cur (rest.take i) ((rest.take i).drop 4) (lineD (rest.take i)).1 (lineD (rest.take i)).2.2.1 raw ⟨S (lineD (rest.take i)).1, ((hashL raw : Nat) : Int), S (lineD (rest.take i)).2.2.1⟩ := ⟨hfine, rfl, e2, rfl, e4, hstd, hname, ht, rfl⟩
    have htl : ((rest.take i).drop 4).length ≤ 2147483647 := by rw [List.length_drop, HLL.out]; omega
    have hstep : ∀ (a5 : Act) (w5 : World) (vS5 vU5 : Value) (sigs5 unv5 : List S122) (seen5 : List (ByteArray × Int)) (gS5 gU5 : Value → Option Value), Fr (FrL b AT tx.length cT A' (rest.length - (i + 1)) (c - (i + 1)) gN bS bU (num + 1)) a5 → LSt w0 w5 gN bS bU (S tx) vS5 vU5 sigs5 unv5 seen5 (num + 1) gS5 gU5 →
      tot = openL ks (S tx) (linesD (rest.drop (i + 1))) seen5 sigs5 unv5 → LO w0 ks (S tx) tot b AT tx.length cT gN bS bU a5 w5 ∧ Omu a5 w5 < rest.length := by
     intro a5 w5 vS5 vU5 sigs5 unv5 seen5 gS5 gU5 hF5 hS5 ht5
     have hLO : LO w0 ks (S tx) tot b AT tx.length cT gN bS bU a5 w5 := ⟨A', rest.drop (i + 1), c - (i + 1), num + 1, vS5, vU5, sigs5, unv5, seen5, gS5, gU5, by rw [HDL.out]; exact hF5, hS5,
      {rb := HRB.out
       cap := by rw [HDL.out]; omega
       ends := endsNl_drop _ _ HR.out.ends
       small := by rw [HDL.out]; omega
       low := by
        refine List.all_eq_true.2 fun x hx => List.all_eq_true.1 HR.out.low x (List.mem_of_mem_drop hx)
       cnt := by simp at hcnt; omega
       res := ht5 }⟩
     have hmu : Omu a5 w5 < rest.length := by
      have h11 := hF5.2.2 (11, .slice A' (rest.length - (i + 1)) (c - (i + 1))) (by simp)
      unfold Omu
      rw [show a5.tmps.getD 11 undef = .slice A' (rest.length - (i + 1)) (c - (i + 1)) from h11]
      show rest.length - (i + 1) < rest.length
      omega
     exact ⟨hLO, hmu⟩
    have hlS := HS.out.lS
    have hlU := HS.out.lU
    cases hf : findS ks (S (lineD (rest.take i)).1) ((hashL raw : Nat) : Int) with
    | none => exact seg35no w0 w4 b B0 f ks vs eM AT tx HH.out (S tx) tot tx.length cT A' _ _ gN bS bU (num + 1) A3 A21 c3 c4 _ _ _ _ raw _ hcur _ vS vU sigs unv seen gS gU a4 hF4 hS4 hT3 htl (by omega) (by omega) (hash_wf raw) hf HTOT.out _ (fun a5 w5 vS5 vU5 sigs5 unv5 seen5 gS5 gU5 hF5 hS5 ht5 => ⟨hstep _ _ _ _ _ _ _ _ _ hF5 hS5 ht5, hstep _ _ _ _ _ _ _ _ _ hF5 hS5 ht5⟩)
    | some x => exact seg35yes w0 w4 b B0 f ks vs eM AT tx HH.out tot cT A' _ _ gN bS bU (num + 1) A3 A21 c3 c4 _ _ _ _ raw _ hcur _ vS vU sigs unv seen gS gU a4 hF4 hS4 hR4 htl (by omega) (by omega) (hash_wf raw) x hf HTOT.out _ (fun a' w' h => h) (fun a5 w5 vS5 vU5 sigs5 unv5 seen5 gS5 gU5 hF5 hS5 ht5 => ⟨hstep _ _ _ _ _ _ _ _ _ hF5 hS5 ht5, hstep _ _ _ _ _ _ _ _ _ hF5 hS5 ht5⟩)
def CI (w0 : World) (l : List UInt8) (gm cM b : Nat) (a : Act) (w : World) : Prop :=
 ∃ i : Nat, i ≤ l.length ∧ Fr [(0, .slice (some ⟨gm, 0, none⟩) l.length cM), (1, .iface 128 (.map (some b))), (6, .int .i64 (i : Int))] a ∧ Below w0.heap.size w0 w ∧ plainD l = plainD (l.drop i)
def Cmu (L : Nat) (a : Act) (_ : World) : Nat := L - (intOf (a.tmps.getD 6 undef)).toNat
theorem S_sz (l : List UInt8) : (S l).size = l.length := by simp [S, ByteArray.size]
theorem get_S (l : List UInt8) (j : Nat) (h : j < l.length) : (S l).get! j = l[j] := by
 unfold S ByteArray.get!
 simp [Array.getElem!_eq_getD, Array.getD, h]
set_option maxRecDepth 100000 in
set_option maxHeartbeats 4000000 in
theorem oscan (w0 w : World) (b B0 : Nat) (f : Value → Option Value) (ks : List S56) (vs : List Value) (eM : Value) (AT : Option Addr) (tx : List UInt8) (H : OH w0 b B0 f ks vs eM AT tx) (text : ByteArray) (tot : ORes) (l : List UInt8) (gm cM : Nat)
  (hM : RB w0 (some ⟨gm, 0, none⟩) l) (hl : l.length ≤ 2147483647) (hc : l.length ≤ cM) (htot : plainD l = false → tot = .bad) (a : Act) (hI : CI w0 l gm cM b a w) (K : Act → World → Prop) (Q : Exit → Act → World → Prop)
  (hK : ∀ a' w', Fr [(0, .slice (some ⟨gm, 0, none⟩) l.length cM), (1, .iface 128 (.map (some b)))] a' → Below w0.heap.size w0 w' → plainD l = true → K a' w')
  (hQ : Q = bodyPost Tryz.prog Tryz.f24 (OPost w0 eM text tot)) : (oBlk 0).wp Tryz.prog (Exit.then K Q) a w := by
 subst hQ
 conv => arg 2; whnf
 have HK := Lib.hid hK
 have HH := Lib.hid H
 have HM := Lib.hid hM
 have HTOT := Lib.hid htot
 clear hK H hM htot
 refine wp_block ?_
 refine wp_loop (CI w0 l gm cM b) (Cmu l.length) hI ?_
 clear hI
 rintro a wr ⟨i, hi, hF, hB, hp⟩
 have HB := Lib.hid hB
 have HP := Lib.hid hp
 clear hB hp
 obtain ⟨g, rfl, hg⟩ := hF.lit
 clear hF
 simp only [List.forall_mem_cons] at hg
 obtain ⟨k0, k1, k6, -⟩ := hg
 unfold lit
 simp only [k0, k1, k6]
 clear k0 k1 k6
 by_cases hlt : i < l.length
 ·have h1 : decide ((i : Int) < (l.length : Int)) = true := decide_eq_true (by omega)
  have h2 : decide (i < l.length) = true := decide_eq_true hlt
  have hne : l.drop i ≠ [] := fun e => by have := congrArg List.length e; rw [List.length_drop] at this; simp at this; omega
  have hdr := Tryz.utf8_DecodeRune (S (l.drop i)) gm i (cM - i) wr (utf8_keep HH.out.hU HB.out) (fun j hj => by
   rw [S_sz] at hj
   have hj' : i + j < l.length := by rw [List.length_drop] at hj; omega
   obtain ⟨ad, e, hc⟩ := (HM.out.below HB.out).2.2 (by omega)
   have := hc (i + j) hj'
   injection e with e
   rw [← e, add_plain] at this
   rw [this, get_S _ _ hj]
   congr 2
   unfold ints
   rw [List.getD_eq_getElem?_getD, List.getElem?_map, List.getElem?_eq_getElem hj']
   simp)
  rw [show (S (l.drop i)).size = l.length - i by rw [S_sz, List.length_drop], show decodeGo (S (l.drop i)) = decodeL (l.drop i) from decodeGo_L _ hne] at hdr
  have hstep := plain_step (l.drop i) hne
  have hr := decodeL_rune (l.drop i)
  have hn1 := decodeL_width (l.drop i)
  have hn2 := decodeL_le (l.drop i) hne
  rw [List.length_drop] at hn2
  rw [List.drop_drop] at hstep
  generalize (decodeL (l.drop i)).1 = r at *
  generalize (decodeL (l.drop i)).2 = n at *
  have hcn : ¬ cM = i := by omega
  have q1 : (i : Int) ≤ (l.length : Int) := by omega
  have HST := Lib.hid hstep
  have HDR := Lib.hid hdr
  have hin : i + n ≤ l.length := by omega
  have hnext : plainD (l.drop i) = plainD (l.drop (i + n)) → CI w0 l gm cM b = CI w0 l gm cM b := fun _ => rfl
  clear hstep hdr hne hnext
  by_cases c1 : r < 32
  ·have t1 : decide ((r : Int) < 32) = true := decide_eq_true (by omega)
   have t1' : decide (r < 32) = true := decide_eq_true c1
   by_cases c2 : r = 10
   ·have t2 : ((r : Int) != 10) = false := by rw [c2]; rfl
    have t2' : ((r : Int) == 10) = true := by rw [c2]; rfl
    have t3 : ((r : Int) == 65533) = false := by rw [c2]; rfl
    have HOK : Hid (plainD (l.drop i) = plainD (l.drop (i + n))) := Lib.hid (by rw [HST.out, if_neg (by omega), if_neg (by omega)])
    clear c2
    go_wp2_with (go_at_call 37; refine HDR.out.mono ?_; rintro e w2 ⟨rfl, hb2⟩; have HB2 := Lib.hid (HB.out.trans (hb2.mono HB.out.size)); clear hb2)
    exact ⟨⟨i + n, hin, ⟨rfl, rfl, ks_cons rfl (ks_cons rfl (ks_cons (congrArg (Value.int .i64) (Int.natCast_add i n).symm) (ks_nil _)))⟩, HB2.out, HP.out.trans HOK.out⟩, by show l.length - ((i : Int) + (n : Int)).toNat < l.length - ((i : Int)).toNat; omega⟩
   ·have t2 : ((r : Int) != 10) = true := by rw [bne_iff_ne]; omega
    have t2' : ((r : Int) == 10) = false := beq_eq_false_iff_ne.2 (by omega)
    have HBAD : Hid (plainD l = false) := Lib.hid (by rw [HP.out, HST.out, if_neg (by omega), if_pos ⟨c1, c2⟩])
    clear c2
    go_wp2_with (go_at_call 37; refine HDR.out.mono ?_; rintro e w2 ⟨rfl, hb2⟩; have HB2 := Lib.hid (HB.out.trans (hb2.mono HB.out.size)); have hE := HH.out.err HB2.out; clear hb2)
    go_quiet (fail)
    go_wp2_with fail
    go_ret2
    exact OPost.bad (HTOT.out HBAD.out) (pw_below_drewN HB2.out _)
  ·have t1 : decide ((r : Int) < 32) = false := decide_eq_false (by omega)
   have t1' : decide (r < 32) = false := decide_eq_false c1
   by_cases c3 : r = 65533
   ·have t3 : ((r : Int) == 65533) = true := by rw [c3]; rfl
    by_cases c4 : n = 1
    ·have t4 : ((n : Int) == 1) = true := by rw [c4]; rfl
     have HBAD : Hid (plainD l = false) := Lib.hid (by rw [HP.out, HST.out, if_pos ⟨c3, c4⟩])
     clear c3 c4
     go_wp2_with (go_at_call 37; refine HDR.out.mono ?_; rintro e w2 ⟨rfl, hb2⟩; have HB2 := Lib.hid (HB.out.trans (hb2.mono HB.out.size)); have hE := HH.out.err HB2.out; clear hb2)
     go_quiet (fail)
     go_wp2_with fail
     go_ret2
     exact OPost.bad (HTOT.out HBAD.out) (pw_below_drewN HB2.out _)
    ·have t4 : ((n : Int) == 1) = false := beq_eq_false_iff_ne.2 (by omega)
     have HOK : Hid (plainD (l.drop i) = plainD (l.drop (i + n))) := Lib.hid (by rw [HST.out, if_neg (by omega), if_neg (by omega)])
     clear c3 c4
     go_wp2_with (go_at_call 37; refine HDR.out.mono ?_; rintro e w2 ⟨rfl, hb2⟩; have HB2 := Lib.hid (HB.out.trans (hb2.mono HB.out.size)); clear hb2)
     exact ⟨⟨i + n, hin, ⟨rfl, rfl, ks_cons rfl (ks_cons rfl (ks_cons (congrArg (Value.int .i64) (Int.natCast_add i n).symm) (ks_nil _)))⟩, HB2.out, HP.out.trans HOK.out⟩, by show l.length - ((i : Int) + (n : Int)).toNat < l.length - ((i : Int)).toNat; omega⟩
   ·have t3 : ((r : Int) == 65533) = false := beq_eq_false_iff_ne.2 (by omega)
    have HOK : Hid (plainD (l.drop i) = plainD (l.drop (i + n))) := Lib.hid (by rw [HST.out, if_neg (by omega), if_neg (by omega)])
    clear c3
    go_wp2_with (go_at_call 37; refine HDR.out.mono ?_; rintro e w2 ⟨rfl, hb2⟩; have HB2 := Lib.hid (HB.out.trans (hb2.mono HB.out.size)); clear hb2)
    exact ⟨⟨i + n, hin, ⟨rfl, rfl, ks_cons rfl (ks_cons rfl (ks_cons (congrArg (Value.int .i64) (Int.natCast_add i n).symm) (ks_nil _)))⟩, HB2.out, HP.out.trans HOK.out⟩, by show l.length - ((i : Int) + (n : Int)).toNat < l.length - ((i : Int)).toNat; omega⟩
 ·have hie : i = l.length := by omega
  have h1 : decide ((i : Int) < (l.length : Int)) = false := decide_eq_false (by omega)
  have h2 : decide (i < l.length) = false := decide_eq_false hlt
  have HPL : Hid (plainD l = true) := Lib.hid (by rw [HP.out, hie, List.drop_length]; rfl)
  clear hie
  go_wp2_with fail
  exact HK.out _ _ ⟨rfl, rfl, ks_cons rfl (ks_cons rfl (ks_nil _))⟩ HB.out HPL.out
noncomputable def openM (ks : List S56) (l : List UInt8) : ByteArray × ORes :=
 if plainD l = true then
  match lastN l l.length with
  | none => (S [], .bad)
  | some i => if l.drop (i + 2) = [] then (S [], .bad) else if l[l.length - 1]? = some 10 then (S (l.take (i + 1)), openL ks (S (l.take (i + 1))) (linesD (l.drop (i + 2))) [] [] []) else (S [], .bad)
 else (S [], .bad)
theorem nn_rb (w : World) : RB (w.alloc (.cells #[.int .u8 10, .int .u8 10] 5 (2, 3))) (some ⟨w.heap.size, 0, none⟩) [10, 10] := by
 refine ⟨rfl, by decide, fun _ => ⟨_, rfl, fun j hj => ?_⟩⟩
 rw [add_plain, World.cell?_alloc_mark]
 have hj4 : j < 2 := hj
 obtain rfl | rfl : j = 0 ∨ j = 1 := by omega
 all_goals rfl
theorem OPost.unver {w0 : World} {eM : Value} {text : ByteArray} {tot : ORes} {w' : World} {sigs unv : List S122} {gN g2 : Nat} {vS vU : Value} (ht : tot = .ok sigs unv) (hs : sigs = []) (hb : Below w0.heap.size w0 w') (hg : w'.heap[gN]? = some (.cells #[.string text, vS, vU] 94 (0, 0)))
  (hS : Kd.R k122 122 w' w0.heap.size (fun _ => True) vS sigs) (hU : Kd.R k122 122 w' w0.heap.size (fun _ => True) vU unv) (h2 : w'.heap[g2]? = some (.cells #[.pointer (some ⟨gN, 0, none⟩)] 85 (0, 0))) :
  OPost w0 eM text tot (.returned (.tuple #[.pointer none, .iface 83 (.pointer (some ⟨g2, 0, none⟩))])) w' := by
 subst ht; exact ⟨hb, gN, vS, vU, hg, hS, hU, .inl ⟨hs, g2, rfl, h2⟩⟩
theorem OPost.fine {w0 : World} {eM : Value} {text : ByteArray} {tot : ORes} {w' : World} {sigs unv : List S122} {gN : Nat} {vS vU : Value} (ht : tot = .ok sigs unv) (hs : sigs ≠ []) (hb : Below w0.heap.size w0 w') (hg : w'.heap[gN]? = some (.cells #[.string text, vS, vU] 94 (0, 0)))
  (hS : Kd.R k122 122 w' w0.heap.size (fun _ => True) vS sigs) (hU : Kd.R k122 122 w' w0.heap.size (fun _ => True) vU unv) :
  OPost w0 eM text tot (.returned (.tuple #[.pointer (some ⟨gN, 0, none⟩), .nilIface])) w' := by
 subst ht; exact ⟨hb, gN, vS, vU, hg, hS, hU, .inr ⟨hs, rfl⟩⟩
set_option maxRecDepth 100000 in
set_option maxHeartbeats 4000000 in
theorem nopen (w0 : World) (b B0 : Nat) (f : Value → Option Value) (ks : List S56) (vs : List Value) (eM : Value) (H : OH w0 b B0 f ks vs eM none []) (l : List UInt8) (gm cM : Nat)
  (hM : RB w0 (some ⟨gm, 0, none⟩) l) (hl : l.length ≤ 2147483647) (hc : l.length ≤ cM) (hcnt : ∀ i, lastN l l.length = some i → l[l.length - 1]? = some 10 → (linesD (l.drop (i + 2))).length ≤ 100) :
  Calls Tryz.prog 24 #[.slice (some ⟨gm, 0, none⟩) l.length cM, .iface 128 (.map (some b))] w0 (OPost w0 eM (openM ks l).1 (openM ks l).2) := by
 have HH := Lib.hid H
 have HM := Lib.hid hM
 have HCNT := Lib.hid hcnt
 clear H hM hcnt
 have kc := fun (w : World) (C : Array Value) (n c : Nat) => Lib.run_convert_bytes_const (P := Tryz.prog) w 72 5 C n c Tryz.underlying72 Tryz.underlying5
 have hmm := @run_makeMap Tryz.prog
 generalize htx : (openM ks l).1 = text
 generalize htot : (openM ks l).2 = tot
 have HTX := Lib.hid htx
 have HTOT := Lib.hid htot
 clear htx htot
 go_enter Tryz.func24, Tryz.ntmps24
 go_upto_block 0 with fail
 refine oscan w0 w0 b B0 f ks vs eM none [] HH.out text tot l gm cM HM.out hl hc ?_ _ ?_ _ _ ?_ rfl
 ·intro h; rw [← HTOT.out]; unfold openM; rw [if_neg (by rw [h]; simp)]
 ·exact ⟨0, Nat.zero_le _, ⟨rfl, rfl, ks_cons rfl (ks_cons rfl (ks_cons rfl (ks_nil _)))⟩, Below.refl _ _, rfl⟩
 ·intro a1 w1 hF hB hpl
  have HB := Lib.hid hB
  have HPL := Lib.hid hpl
  clear hB hpl
  obtain ⟨g, rfl, hg⟩ := hF.lit
  clear hF
  simp only [List.forall_mem_cons] at hg
  obtain ⟨k0, k1, -⟩ := hg
  unfold lit
  simp only [k0, k1]
  clear k0 k1
  obtain ⟨kl, hkl⟩ := last_eq l hl
  have hli := PY.bytes_LastIndex.calls kl (some ⟨gm, 0, none⟩) cM (ints l) (some ⟨w1.heap.size, 0, none⟩) 2 [10, 10] _ (w1.alloc (.cells #[.int .u8 10, .int .u8 10] 5 (2, 3))) ((HM.out.below HB.out).below ((Below.refl _ _).alloc (Nat.le_refl _) _)).C (by rw [ints_length]; exact hc) (nn_rb w1).C (by decide) hkl
  rw [ints_length] at hli
  have HLI := Lib.hid hli
  clear hli hkl
  cases hlast : lastN l l.length with
  | none =>
   rw [hlast, show idxI none = -1 from rfl] at HLI
   have hE := HH.out.err (HB.out.alloc HB.out.size (.cells #[.int .u8 10, .int .u8 10] 5 (2, 3)))
   have HBAD : Hid (tot = .bad) := Lib.hid (by rw [← HTOT.out]; unfold openM; rw [if_pos HPL.out, hlast])
   clear hlast
   go_wp2_with (go_at_call 38; refine HLI.out.mono ?_; rintro e w2 ⟨rfl, ⟨m2, rfl⟩⟩)
   go_quiet (fail)
   go_wp2_with fail
   go_ret2
   exact OPost.bad HBAD.out (pw_below_drewN (pw_below_drewN (HB.out.alloc HB.out.size _) _) _)
  | some i =>
   rw [hlast, show idxI (some i) = (i : Int) from rfl] at HLI
   have hi := (lastN_lt l _ _ hlast).2
   have hi2 : i + 2 ≤ l.length := by
    rcases Nat.lt_or_ge l.length (i + 2) with h | h
    ·rw [nnAt_end l i (by omega)] at hi; cases hi
    ·exact h
   have HLAST := Lib.hid hlast
   clear hlast hi
   have hB2 := HB.out.alloc HB.out.size (.cells #[.int .u8 10, .int .u8 10] 5 (2, 3))
   obtain ⟨A', hcut, hA'⟩ := cut_eq (A := some ⟨gm, 0, none⟩) (n := l.length) (c := cM) (i + 2) hi2
   have hrb := hA' w0 l hc rfl HM.out
   have htb := HM.out.take (i + 1) (by omega)
   have htl : (l.take (i + 1)).length = i + 1 := by rw [List.length_take]; omega
   have hrl : (l.drop (i + 2)).length = l.length - (i + 2) := List.length_drop
   have e2 : (((i + 2 : Nat)) : Int) = (i : Int) + 2 := by omega
   rw [e2, ← hrl] at hcut
   have hrn : (l.drop (i + 2)).length ≤ l.length := by omega
   have hends : ∀ x, l[l.length - 1]? = some x → l.drop (i + 2) ≠ [] → (l.drop (i + 2))[(l.drop (i + 2)).length - 1]? = some x := fun x hx hne => by
    have hp := List.length_pos_iff.2 hne
    rw [List.getElem?_drop, hrl, show i + 2 + (l.length - (i + 2) - 1) = l.length - 1 by omega]; exact hx
   have hcap : (l.drop (i + 2)).length ≤ cM - (i + 2) := by omega
   have hlow : plainD l = true → lowD (l.drop (i + 2)) = true := fun h => by
    unfold plainD at h
    rw [Bool.and_eq_true] at h
    exact List.all_eq_true.2 fun x hx => List.all_eq_true.1 h.1 x (List.mem_of_mem_drop hx)
   have hlow' := hlow HPL.out
   have HLOW := Lib.hid hlow'
   have HENDS := Lib.hid hends
   have HRB := Lib.hid hrb
   have HTB := Lib.hid htb
   have HTL := Lib.hid htl
   clear hlow hlow' hends hrb htb htl hA' e2 hrl
   have t0 : decide ((i : Int) < 0) = false := decide_eq_false (by omega)
   have b1 : (i : Int) + 1 ≤ (cM : Int) := by omega
   have b2 : i + 1 ≤ cM := by omega
   have b3 : (0 : Int) ≤ (i : Int) + 1 := by omega
   have HRES : Hid (tot = if l.drop (i + 2) = [] then .bad else if l[l.length - 1]? = some 10 then openL ks (S (l.take (i + 1))) (linesD (l.drop (i + 2))) [] [] [] else .bad) := Lib.hid (by
    rw [← HTOT.out]; unfold openM; rw [if_pos HPL.out, HLAST.out]; simp only
    by_cases h1 : l.drop (i + 2) = []
    ·rw [if_pos h1, if_pos h1]
    ·rw [if_neg h1, if_neg h1]
     by_cases h2 : l[l.length - 1]? = some 10
     ·rw [if_pos h2, if_pos h2]
     ·rw [if_neg h2, if_neg h2])
   generalize hrest : l.drop (i + 2) = rest at *
   have HREST := Lib.hid hrest
   clear hrest
   go_upto_region 12 with (go_at_call 38; refine HLI.out.mono ?_; rintro e w2 ⟨rfl, ⟨m2, rfl⟩⟩)
   have HB2 := Lib.hid (pw_below_drewN hB2 m2)
   clear hB2
   generalize hW2 : (w1.alloc (.cells #[.int .u8 10, .int .u8 10] 5 (2, 3))).drewN m2 = W2 at *
   clear hW2
   by_cases hr : rest = []
   ·have z1 : ((rest.length : Int) == 0) = true := by rw [hr]; rfl
    have HBAD : Hid (tot = .bad) := Lib.hid (by rw [HRES.out, if_pos hr])
    have hE := HH.out.err HB2.out
    clear hr
    go_quiet (fail)
    go_wp2_with fail
    go_quiet (fail)
    go_wp2_with fail
    go_ret2
    exact OPost.bad HBAD.out (pw_below_drewN (pw_below_drewN HB2.out _) _)
   ·have hp := List.length_pos_iff.2 hr
    have z1 : ((rest.length : Int) == 0) = false := beq_eq_false_iff_ne.2 (by omega)
    obtain ⟨x, hx⟩ : ∃ x, l[l.length - 1]? = some x := ⟨_, List.getElem?_eq_getElem (by omega)⟩
    have hxr := HENDS.out x hx hr
    obtain ⟨ad', e', hcell⟩ := (HRB.out.below HB2.out).2.2 hp
    subst e'
    have hcx := hcell (rest.length - 1) (by omega)
    rw [show (ints rest).getD (rest.length - 1) 0 = (x.toNat : Int) by unfold ints; rw [List.getD_eq_getElem?_getD, List.getElem?_map, hxr]; rfl] at hcx
    have y1 : (0 : Int) ≤ (rest.length : Int) - 1 := by omega
    have y2 : (rest.length : Int) - 1 < (rest.length : Int) := by omega
    have y3 : ((rest.length : Int) - 1).toNat = rest.length - 1 := by omega
    have HX := Lib.hid hx
    have HXR := Lib.hid hxr
    have HR := Lib.hid hr
    clear hcell hx hxr hr
    by_cases hx10 : x = 10
    ·have x1 : ((x.toNat : Int) != 10) = false := by rw [hx10]; rfl
     subst hx10
     go_quiet (fail)
     go_upto_region 15 with fail
     have HB3 := Lib.hid (pw_below_drewN HB2.out nq)
     have cvT := (HTB.out.below HB3.out).str cM
     rw [HTL.out, show (⟨(l.take (i + 1)).toArray⟩ : ByteArray) = S (l.take (i + 1)) from rfl] at cvT
     have HRB3 := Lib.hid (HRB.out)
     generalize hW3 : W2.drewN nq = W3 at *
     clear hW3
     go_upto_block 2 with fail
     have HTT : Hid (text = S (l.take (i + 1))) := Lib.hid (by
      rw [← HTX.out]; unfold openM; rw [if_pos HPL.out, HLAST.out]; simp only
      rw [HREST.out, if_neg HR.out, if_pos HX.out])
     have HTR : Hid (tot = openL ks (S (l.take (i + 1))) (linesD rest) [] [] []) := Lib.hid (by rw [HRES.out, if_neg HR.out, if_pos HX.out])
     have htext := HTT.out
     subst htext
     refine oloop w0 _ b B0 f ks vs eM (some ⟨gm, 0, none⟩) (l.take (i + 1)) { HH.out with hT := HTB.out, hTl := by rw [HTL.out]; omega } tot cM W3.heap.size (W3.heap.size + 1) (W3.heap.size + 1 + 1) _ ?_ _ _ ?_ rfl
     ·refine ⟨some ad', rest, cM - (i + 2), 0, .slice none 0 0, .slice none 0 0, [], [], [], fun _ => none, fun _ => none, ⟨rfl, rfl, ?_⟩, ?_, ?_⟩
      ·rw [HTL.out]; repeat (first | exact ks_nil _ | refine ks_cons rfl ?_)
      ·have hz : W3.heap.size + 1 = (W3.alloc (.cells #[.string (S (l.take (i + 1))), .slice none 0 0, .slice none 0 0] 94)).heap.size := by simp
       have hz2 : W3.heap.size + 1 + 1 = ((W3.alloc (.cells #[.string (S (l.take (i + 1))), .slice none 0 0, .slice none 0 0] 94)).alloc (.map #[] 0)).heap.size := by simp
       exact
       {below := ((HB3.out.alloc HB3.out.size _).alloc (by have := HB3.out.size; simp; omega) _).alloc (by have := HB3.out.size; simp; omega) _
        note :=
         {blk := by
           rw [Below.heap_alloc _ _ _ (by simp; omega), Below.heap_alloc _ _ _ (by simp)]
           exact heap_alloc_new _ _
          rS := Kd.R_nil _ _ _ _ _
          rU := Kd.R_nil _ _ _ _ _
          ne := .inl rfl
          mS := by
           have h := MapR.made Tryz.prog 126 (W3.alloc (.cells #[.string (S (l.take (i + 1))), .slice none 0 0, .slice none 0 0] 94))
           rw [← hz] at h
           exact h.keep (Below.heap_alloc _ _ _ (by simp))
          mU := by
           have h := MapR.made Tryz.prog 9 ((W3.alloc (.cells #[.string (S (l.take (i + 1))), .slice none 0 0, .slice none 0 0] 94)).alloc (.map #[] 0))
           rw [← hz2] at h
           exact h
          neM := by omega
          geN := HB3.out.size
          geS := Nat.le_succ_of_le HB3.out.size
          geU := Nat.le_succ_of_le (Nat.le_succ_of_le HB3.out.size) }
        su := fun s => (seenV_no (by rintro ⟨x, hx, _⟩; cases hx)).symm
        ss := fun nm h => (seenV_no (by intro hx; cases hx)).symm
        okU := fun x hx => by cases hx
        lS := Nat.le_refl _
        lU := Nat.le_refl _ }
      ·exact
       {rb := HRB.out
        cap := hcap
        ends := .inr (HXR.out)
        small := by omega
        low := HLOW.out
        cnt := by have := HCNT.out i HLAST.out HX.out; rw [HREST.out] at this; omega
        res := HTR.out }
     ·rintro a4 w4 ⟨vS, vU, sigs, unv, htt, hF4, hB4, hblk, hrS, hrU⟩
      obtain ⟨Av, cv, hvS⟩ := Kd.R_slice hrS
      subst hvS
      have HB4 := Lib.hid hB4
      have HRS := Lib.hid hrS
      have HRU := Lib.hid hrU
      have HBLK := Lib.hid hblk
      have HTT4 := Lib.hid htt
      have c1 : w4.cell? ⟨W3.heap.size, 1, none⟩ = some (.slice Av sigs.length cv) := cell_of_row w4 W3.heap.size 1 _ _ _ hblk
      clear hB4 hrS hrU hblk htt cvT
      obtain ⟨g4, rfl, hg⟩ := hF4.lit
      clear hF4
      simp only [List.forall_mem_cons] at hg
      obtain ⟨k12, -⟩ := hg
      unfold lit
      simp only [k12]
      clear k12
      by_cases hs : sigs = []
      ·have s1 : ((sigs.length : Int) == 0) = true := by rw [hs]; rfl
       have HSG := Lib.hid hs
       clear hs
       go_wp2_with fail
       go_ret2
       exact OPost.unver HTT4.out HSG.out (HB4.out.alloc HB4.out.size _) ((Below.heap_alloc _ _ _ (blk_lt HBLK.out)).trans HBLK.out) (Kd.R_below HRS.out ((Below.refl _ _).alloc (Nat.le_refl _) _)) (Kd.R_below HRU.out ((Below.refl _ _).alloc (Nat.le_refl _) _)) (heap_alloc_new _ _)
      ·have s1 : ((sigs.length : Int) == 0) = false := beq_eq_false_iff_ne.2 (fun e => hs (List.length_eq_zero_iff.1 (by omega)))
       have HSG := Lib.hid hs
       clear hs
       go_wp2_with fail
       go_ret2
       exact OPost.fine HTT4.out HSG.out HB4.out HBLK.out HRS.out HRU.out
    ·have x1 : ((x.toNat : Int) != 10) = true := by
      rw [bne_iff_ne]; intro e; exact hx10 (UInt8.toNat_inj.1 (by have : (10 : UInt8).toNat = 10 := rfl; omega))
     have HBAD : Hid (tot = .bad) := Lib.hid (by rw [HRES.out, if_neg HR.out, HX.out, if_neg (fun e => hx10 (Option.some.inj e))])
     have hE := HH.out.err HB2.out
     clear hx10
     go_quiet (fail)
     go_wp2_with fail
     go_quiet (fail)
     go_wp2_with fail
     go_ret2
     exact OPost.bad HBAD.out (pw_below_drewN (pw_below_drewN HB2.out _) _)
end Go.Proofs.YtkbegfihdpiacaaGreatDoor.PX
