/- Part 16 of the proof: what the theorem reaches of the texts SLoop, SOpen. -/
import Derived.Test.YtkbegfihdpiacaaDoorKP15

namespace Go.Proofs.YtkbegfihdpiacaaDoor.PX
open Go.RowKit Nt Go.Lib Go.Maps Go.Proofs.YtkbegfihdpiacaaDoorW.PrintWords Go.Proofs.YtkbegfihdpiacaaDoorW.PrintLast
set_option linter.unusedVariables false
set_option linter.unusedSimpArgs false
def SOPost (w : World) (r : Res) (e : Ending) (w' : World) : Prop :=
  ∃ v1 v2 : Value, e = .returned (.tuple #[.agg #[.string r.1, v1, v2], .int .i64 r.2.2.2.1, .bool r.2.2.2.2]) ∧ Kd.R k37 37 w' w.heap.size (fun _ => True) v1 r.2.1 ∧ Kd.R k37 37 w' w.heap.size (fun _ => True) v2 r.2.2.1 ∧ Below w.heap.size w w'
noncomputable def sBlk (n : Nat) : Code := (Tryd.f8.body.bind (blkNo n)).getD .skip
abbrev FrS (A : Option Addr) (nk ck g4 : Nat) (text : ByteArray) (gN : Nat) (An : Option Addr) (nn cn : Nat) (AL : Option Addr) (nL cL : Nat) (i : Int) : List (Nat × Value) :=
  [(1, .slice A nk ck), (4, .pointer (some ⟨g4, 0, none⟩)), (7, .string text), (10, .pointer (some ⟨gN, 0, none⟩)), (11, .slice An nn cn), (46, .slice AL nL cL), (47, .int .i64 (nL : Int)), (48, .int .i64 i)]
def SI (w0 : World) (ks : List S34) (res : Res) (lines : List (List UInt8)) (A : Option Addr) (ck g4 : Nat) (text : ByteArray) (gN : Nat) (AL : Option Addr) (cL : Nat) (a : Act) (w : World) : Prop :=
  ∃ (i : Nat) (sigs unv sn : List S37) (vS vU : Value) (An : Option Addr) (cn : Nat), i ≤ lines.length ∧ Fr' (FrS A ks.length ck g4 text gN An sn.length cn AL lines.length cL (i : Int)) a ∧ SSt w0 w gN text vS vU (.slice An sn.length cn) sigs unv sn ∧
    sigs.length ≤ i ∧ unv.length ≤ i ∧ sn.length ≤ i ∧ sopL ks text (lines.drop i) sn sigs unv = res
def Smu (L : Nat) (a : Act) (_ : World) : Nat := L - (intOf (a.tmps.getD 48 undef)).toNat
def SEnd (w0 : World) (res : Res) (text : ByteArray) (g4 gN : Nat) (a : Act) (w : World) : Prop :=
  ∃ (sigs unv sn : List S37) (vS vU vn : Value), Fr' [(4, .pointer (some ⟨g4, 0, none⟩)), (10, .pointer (some ⟨gN, 0, none⟩))] a ∧ SSt w0 w gN text vS vU vn sigs unv sn ∧ (if sigs = [] then (text, [], unv, 3, true) else (text, sigs, unv, 0, true)) = res
theorem info37' : (Tryd.prog.info? 37).map (fun i => (i.zero, i.size, i.bytes)) = some (some (.agg #[(.string ⟨#[]⟩), (.int .u32 0), (.string ⟨#[]⟩)]), k37.sz, 40) := by kernel_rfl
/-- What is given where the loop begins: w is the world of the call, w0 that ahead of the note. -/
structure SG (w w0 : World) (ks : List S34) (A : Option Addr) (ck : Nat) (lines : List (List UInt8)) (AL : Option Addr) (cL : Nat) : Prop where
  hk : Kd.C k59 w0 A ks.length (ks.map key59)
  hck : ks.length ≤ ck
  hL : Kd.string.C w0 AL lines.length (lines.map S)
  b4 : w0.heap[w.heap.size]? = some (.cells #[.string ⟨#[]⟩, .slice none 0 0, .slice none 0 0] 27 (0, 0))
  hbw : Below w.heap.size w w0
  hks : ks.length ≤ 2147483647
  hkt : ∀ x ∈ ks, x.f2.length ≤ 2147483647
  hn : lines.length ≤ 100
  hln : ∀ ln ∈ lines, ln.length ≤ 2147483647
section
variable {w w0 W : World} {ks : List S34} {A : Option Addr} {ck : Nat} {lines : List (List UInt8)} {AL : Option Addr} {cL : Nat}
theorem SG.blk (h : SG w w0 ks A ck lines AL cL) (hb : Below w0.heap.size w0 W) : W.heap[w.heap.size]? = some (.cells #[.string ⟨#[]⟩, .slice none 0 0, .slice none 0 0] 27 (0, 0)) := (hb.block _ (blk_lt h.b4)).trans h.b4
theorem SG.none (h : SG w w0 ks A ck lines AL cL) (hb : Below w0.heap.size w0 W) (n : Int) (b : Bool) : SOPost w (⟨#[]⟩, [], [], n, b) (.returned (.tuple #[.agg #[.string ⟨#[]⟩, .slice none 0 0, .slice none 0 0], .int .i64 n, .bool b])) (((W.setCell ⟨w.heap.size, 0, none⟩ (.string ⟨#[]⟩)).setCell ⟨w.heap.size, 1, none⟩ (.slice none 0 0)).setCell ⟨w.heap.size, 2, none⟩ (.slice none 0 0)) :=
  ⟨_, _, rfl, Kd.R_nil _ _ _ _ _, Kd.R_nil _ _ _ _ _, belowT (h.hbw.trans (hb.mono h.hbw.size)) _ _ _⟩
theorem SG.line (h : SG w w0 ks A ck lines AL cL) (l : List UInt8) (hl : l ∈ lines) : ∀ W, Calls Tryd.prog 19 #[.string (S l)] W fun e w' => e = .returned (.tuple #[.agg #[.string (S (lineD l).1), .int .u32 ((lineD l).2.1 : Int), .string (S (lineD l).2.2.1)], .string (S (lineD l).2.2.2.1), .bool (lineD l).2.2.2.2.1, .bool (lineD l).2.2.2.2.2]) ∧ Below W.heap.size W w' := fun W =>
  spec_Line.calls (S l) _ _ _ _ _ _ W (by
    unfold spec_Line.f
    rw [if_pos (by rw [S_sz]; exact h.hln _ hl)]
    rfl)
theorem SG.find (h : SG w w0 ks A ck lines AL cL) (nm : ByteArray) (g : Int) : ∀ W, Below w0.heap.size w0 W → Calls Tryd.prog 20 #[.slice A ks.length ck, .string nm, .int .u32 g] W fun e w' => e = .returned (.int .i64 (findI nm g ks 0)) ∧ Below W.heap.size W w' := fun W hW => by
  have h2 := spec_Find.calls (ks.length + 1) A ck (ks.map key59) nm g (findI nm g ks 0) W (by rw [List.length_map]; exact Kd.C_below h.hk hW) (by rw [List.length_map]; exact h.hck) (find_f ks (Nat.le_trans h.hks (by omega)) _ _ _ (by omega))
  rw [List.length_map] at h2
  exact h2
end
theorem hasC (l : List S37) (hk : l.length ≤ 2147483647) (x : S37) (A : Option Addr) (c : Nat) (W : World) (h : l.length ≤ c ∧ Kd.C k37 W A l.length l) :
    Calls Tryd.prog 21 #[.slice A l.length c, .agg #[.string x.f0, .int .u32 x.f1, .string x.f2]] W fun e w' => e = .returned (.bool (hasB l x.f0 x.f1 x.f2)) ∧ Below W.heap.size W w' :=
  spec_has.calls (l.length + 1) A c l x.f0 x.f1 x.f2 _ W h.2 h.1 (has_f l hk _ _ _ _ (by omega))
theorem one37 (w : World) (N : Nat) (nm : ByteArray) (h : Int) (hN : N < w.heap.size) : Kd.R k37 37 (w.alloc (.cells #[.string nm, .int .u32 h, .string ⟨#[]⟩] 37)) (N + 1) (fun _ => True) (.slice (some ⟨w.heap.size, 0, none⟩) 1 1) [⟨nm, h, ⟨#[]⟩⟩] := by
  refine ⟨fun _ _ => trivial, OwnRow.lit (inner := [.string nm, .int .u32 h, .string ⟨#[]⟩]) w (N + 1) ?_ hN (by simp)⟩
  have hr := Reps.snoc (ps := ([] : List S37)) (cs := []) (c := [.string nm, .int .u32 h, .string ⟨#[]⟩]) (p := ⟨nm, h, ⟨#[]⟩⟩) (Reps.none (k37.M (w.alloc (.cells #[.string nm, .int .u32 h, .string ⟨#[]⟩] 37)) (N + 1) (fun k => True ∧ some k ≠ (Value.slice (some ⟨w.heap.size, 0, none⟩) 1 1).ownBlock)) k37.sz) ?_ rfl
  · exact hr
  · exact k37_mkM _ _ _ _
set_option maxRecDepth 100000 in
set_option maxHeartbeats 4000000 in
theorem sloop (w w0 W0 : World) (ks : List S34) (res : Res) (lines : List (List UInt8)) (A : Option Addr) (ck : Nat) (text : ByteArray) (gN : Nat) (AL : Option Addr) (cL : Nat) (H : SG w w0 ks A ck lines AL cL)
    (a : Act) (hI : SI w0 ks res lines A ck w.heap.size text gN AL cL a W0) (K : Act → World → Prop) (Q : Exit → Act → World → Prop) (hE : ∀ a' w', SEnd w0 res text w.heap.size gN a' w' → K a' w') (hQ : Q = bodyPost Tryd.prog Tryd.f8 (SOPost w res)) :
    (sBlk 0).wp Tryd.prog (Exit.then K Q) a W0 := by
  subst hQ
  conv => arg 2; whnf
  have HH := Lib.hid H
  have HE := Lib.hid hE
  clear H hE
  refine wp_block ?_
  refine wp_loop (SI w0 ks res lines A ck w.heap.size text gN AL cL) (Smu lines.length) hI ?_
  clear hI
  rintro a wr ⟨i, sigs, unv, sn, vS, vU, An, cn, hi, hF, hS, hl1, hl2, hl3, hres⟩
  obtain ⟨AS, cS, rfl⟩ := Kd.R_slice hS.rS
  obtain ⟨AU, cU, rfl⟩ := Kd.R_slice hS.rU
  have HS := Lib.hid hS
  have HRES := Lib.hid hres
  have hn := HH.out.hn
  clear hS hres
  obtain ⟨g, rfl, hg⟩ := hF.lit range120
  clear hF
  simp only [List.forall_mem_cons] at hg
  obtain ⟨k1, k4, k7, k10, k11, k46, k47, k48, -⟩ := hg
  unfold lit'
  simp only [k1, k4, k7, k10, k11, k46, k47, k48]
  clear k1 k4 k7 k10 k11 k46 k47 k48
  by_cases hlt : i < lines.length
  · have h1 : decide ((i : Int) < (lines.length : Int)) = true := decide_eq_true (by omega)
    have h2 : decide (i < lines.length) = true := decide_eq_true hlt
    obtain ⟨ad, rfl, hx⟩ := Kd.at_string HH.out.hL (i : Int) (by omega) (by omega)
    rw [show rdOf ByteArray.empty (lines.map S) (i : Int) = S lines[i] by unfold rdOf; simp [List.getElem?_eq_getElem hlt], Int.toNat_natCast] at hx
    replace hx := pw_cell_below HS.out.below hx
    have hline := HH.out.line lines[i] (List.getElem_mem hlt)
    rw [List.drop_eq_getElem_cons hlt, sopL] at HRES
    have hfind := HH.out.find (S (lineD lines[i]).1) ((lineD lines[i]).2.1 : Int)
    have hcur : curL lines[i] = ⟨S (lineD lines[i]).1, ((lineD lines[i]).2.1 : Int), S (lineD lines[i]).2.2.1⟩ := rfl
    have hkey : keyL lines[i] = ⟨S (lineD lines[i]).1, ((lineD lines[i]).2.1 : Int), ⟨#[]⟩⟩ := rfl
    rw [hcur, hkey] at HRES
    clear hcur hkey
    generalize hD : lineD lines[i] = D at *
    obtain ⟨nmL, hh, b64L, sgL, fine, told⟩ := D
    simp only at hline HRES hfind
    have HLINE := Lib.hid hline
    have HFIND := Lib.hid hfind
    clear hline hfind
    go_upto_region 12 with (go_at_call 19; with_reducible refine (HLINE.out _).mono ?_; rintro e w3 ⟨rfl, hb3⟩; have HLT := Lib.hid (And.intro (fun n hn => blk_lt (gR_lt (HS.out.step hb3).rS (n := n) hn).2.choose_spec) (fun n hn => blk_lt (gR_lt (HS.out.step hb3).rn (n := n) hn).2.choose_spec)); have HS3 := Lib.hid ((HS.out.step hb3).step ((Below.refl w3.heap.size w3).alloc (Nat.le_refl _) (.cells #[.string (S nmL), .int .u32 (hh : Int), .string (S b64L)] 37))); have HX3 := Lib.hid (heap_alloc_new w3 (.cells #[.string (S nmL), .int .u32 (hh : Int), .string (S b64L)] 37)); clear hb3)
    generalize w3.alloc (.cells #[.string (S nmL), .int .u32 (hh : Int), .string (S b64L)] 37) = W3 at *
    generalize w3.heap.size = g14 at *
    clear HS hx
    cases told with
    | false =>
      have HRE := Lib.hid (show untold = res from HRES.out)
      obtain ⟨hs0, hs1, hs2, hf0, hf1, hf2⟩ := three (HH.out.blk HS3.out.below)
      go_wp2_with fail
      refine bodyPost_ret (results_ctt rfl _ _ w.heap.size 27 _ (0, 0) _ rfl (put3 (HH.out.blk HS3.out.below) _ _ _) Tryd.underlying27 rfl (by kernel_rfl)) rfl ?_
      rw [← HRE.out]
      exact HH.out.none HS3.out.below _ _
    | true =>
      cases fine with
      | false =>
        have HRE := Lib.hid (show malformed = res from HRES.out)
        obtain ⟨hs0, hs1, hs2, hf0, hf1, hf2⟩ := three (HH.out.blk HS3.out.below)
        go_wp2_with fail
        refine bodyPost_ret (results_ctt rfl _ _ w.heap.size 27 _ (0, 0) _ rfl (put3 (HH.out.blk HS3.out.below) _ _ _) Tryd.underlying27 rfl (by kernel_rfl)) rfl ?_
        rw [← HRE.out]
        exact HH.out.none HS3.out.below _ _
      | true =>
        rw [if_neg (by decide), if_neg (by decide)] at HRES
        obtain ⟨c0, c1, c2, -, -, -⟩ := three HX3.out
        go_upto_region 17 with (go_at_call 20; with_reducible refine (HFIND.out _ HS3.out.below).mono ?_; rintro e w4 ⟨rfl, hb4⟩; have HS4 := Lib.hid (HS3.out.step hb4); have HX4 := Lib.hid ((hb4.block _ (blk_lt HX3.out)).trans HX3.out); clear hb4)
        clear c0 c1 c2 HX3 HS3 HFIND HLINE
        obtain ⟨c0, c1, c2, -, -, -⟩ := three HX4.out
        obtain ⟨n0, n1, n2, m0, m1, m2⟩ := three HS4.out.bN
        rcases findI_spec (S nmL) (hh : Int) ks 0 with ⟨e1, e2⟩ | ⟨j, x, e1, e2, e3⟩
        · rw [e2] at HRES
          rw [e1]
          have hm := hasB_iff unv (S nmL) (hh : Int) (S b64L)
          have hhas := hasC unv (by omega) ⟨S nmL, (hh : Int), S b64L⟩ AU cU w4 (Kd.R_reads' HS4.out.rU).2
          have HHAS := Lib.hid hhas
          clear hhas
          by_cases hin : (⟨S nmL, (hh : Int), S b64L⟩ : S37) ∈ unv
          · rw [hm.2 hin] at HHAS
            simp only [if_pos hin] at HRES
            clear hm
            go_wp2_with (go_at_call 21; with_reducible refine HHAS.out.mono ?_; rintro e w5 ⟨rfl, hb5⟩; have HS5 := Lib.hid (HS4.out.step hb5); clear hb5)
            exact ⟨⟨i + 1, sigs, unv, sn, _, _, An, cn, by omega, ⟨rfl, rfl, by repeat (first | exact ks_nil _ | refine ks_cons (by first | rfl | exact congrArg (Value.int .i64) (Int.natCast_add i 1).symm | (rw [List.length_append]; rfl)) ?_)⟩, HS5.out, by omega, by omega, by omega, HRES.out⟩, by show lines.length - ((i : Int) + 1).toNat < lines.length - (i : Int).toNat; omega⟩
          · rw [Bool.eq_false_iff.2 (fun e => hin (hm.1 e))] at HHAS
            simp only [if_neg hin] at HRES
            clear hm
            go_wp2_with (first
              | (go_at_call 21; with_reducible refine HHAS.out.mono ?_; rintro e w5 ⟨rfl, hb5⟩; have HS5 := Lib.hid (HS4.out.step hb5); have HX5 := Lib.hid ((hb5.block _ (blk_lt HX4.out)).trans HX4.out); obtain ⟨c0, c1, c2, -, -, -⟩ := three HX5.out; obtain ⟨n0, n1, n2, m0, m1, m2⟩ := three HS5.out.bN; clear hb5)
              | (at_builtin; refine Kd.R_append k37 (w0 := w0) w0.heap.size rfl _ _ 25 37 _ 40 rfl Tryd.underlying25 info37' rfl (by decide) (by decide) (.slice AU unv.length cU) unv (⟨S nmL, (hh : Int), S b64L⟩ : S37) [.string (S nmL), .int .u32 (hh : Int), .string (S b64L)] (fun _ => True) (fun _ => False) rfl rfl (k37_mkM _ _ _ _) (fun _ h => h.elim) (fun _ _ => trivial) HS5.out.rU HS5.out.below HS5.out.below.size (by omega) ?_; intro v1 w6 hr6 hb6 hg6 hat6; obtain ⟨A6, c6, hv6⟩ := Kd.R_slice hr6; rw [List.length_append, List.length_singleton] at hv6; subst hv6; have HR6 := Lib.hid hr6; have HB6 := Lib.hid hb6; have HG6 := Lib.hid hg6; have HAT := Lib.hid hat6; have hbN6 := (hg6.block gN (blk_lt HS5.out.bN) (gR_ne HS5.out.rU HS5.out.bN (by decide))).trans HS5.out.bN; obtain ⟨-, -, q2, -, -, z2⟩ := three hbN6; clear hr6 hb6 hg6 hat6 hbN6 n0 n1 n2 m0 m1 m2)
              | fail)
            exact ⟨⟨i + 1, sigs, unv ++ [_], sn, _, _, An, cn, by omega, ⟨rfl, rfl, by repeat (first | exact ks_nil _ | refine ks_cons (by first | rfl | exact congrArg (Value.int .i64) (Int.natCast_add i 1).symm | (rw [List.length_append]; rfl)) ?_)⟩, HS5.out.growU HB6.out HG6.out HR6.out HAT.out, by omega, by rw [List.length_append, List.length_singleton]; omega, by omega, HRES.out⟩, by show lines.length - ((i : Int) + 1).toNat < lines.length - (i : Int).toNat; omega⟩
        · rw [e3] at HRES
          rw [e1, Nat.zero_add]
          have hj : j < ks.length := (List.getElem?_eq_some_iff.1 e2).1
          have hxj : ks[j] = x := (List.getElem?_eq_some_iff.1 e2).2
          have q1 : decide ((j : Int) < 0) = false := decide_eq_false (by omega)
          have hm := hasB_iff sn (S nmL) (hh : Int) ⟨#[]⟩
          clear n0 n1 n2 m0 m1 m2
          go_upto_region 21 with fail
          have HLU := Lib.hid (fun n hn => blk_lt (gR_lt HS4.out.rn (n := n) hn).2.choose_spec)
          have HS5 := Lib.hid (HS4.out.step ((Below.refl w4.heap.size w4).alloc (Nat.le_refl _) (.cells #[.string (S nmL), .int .u32 (hh : Int), .string ⟨#[]⟩] 37)))
          have HX5 := Lib.hid ((((Below.refl w4.heap.size w4).alloc (Nat.le_refl _) (.cells #[.string (S nmL), .int .u32 (hh : Int), .string ⟨#[]⟩] 37)).block _ (blk_lt HX4.out)).trans HX4.out)
          have HY5 := Lib.hid (heap_alloc_new w4 (.cells #[.string (S nmL), .int .u32 (hh : Int), .string ⟨#[]⟩] 37))
          generalize w4.alloc (.cells #[.string (S nmL), .int .u32 (hh : Int), .string ⟨#[]⟩] 37) = W5 at *
          generalize w4.heap.size = g19 at *
          have hhas := hasC sn (by omega) ⟨S nmL, (hh : Int), ⟨#[]⟩⟩ An cn W5 (Kd.R_reads' HS5.out.rn).2
          have HHAS := Lib.hid hhas
          clear hhas c0 c1 c2 HS4 HX4
          obtain ⟨d0, d1, d2, -, -, -⟩ := three HY5.out
          by_cases hin : (⟨S nmL, (hh : Int), ⟨#[]⟩⟩ : S37) ∈ sn
          · rw [hm.2 hin] at HHAS
            simp only [if_pos hin] at HRES
            clear hm
            go_wp2_with (go_at_call 21; with_reducible refine HHAS.out.mono ?_; rintro e w6 ⟨rfl, hb6⟩; have HS6 := Lib.hid (HS5.out.step hb6); clear hb6)
            exact ⟨⟨i + 1, sigs, unv, sn, _, _, An, cn, by omega, ⟨rfl, rfl, by repeat (first | exact ks_nil _ | refine ks_cons (by first | rfl | exact congrArg (Value.int .i64) (Int.natCast_add i 1).symm | (rw [List.length_append]; rfl)) ?_)⟩, HS6.out, by omega, by omega, by omega, HRES.out⟩, by show lines.length - ((i : Int) + 1).toNat < lines.length - (i : Int).toNat; omega⟩
          · rw [Bool.eq_false_iff.2 (fun e => hin (hm.1 e))] at HHAS
            simp only [if_neg hin] at HRES
            clear hm
            obtain ⟨ad2, A2, c2', A3, c3', rfl, x0, x1, x2, x3, l2, g2, l3, g3⟩ := at_T59 HH.out.hk (j : Int) (by omega) (by omega)
            rw [rd59 ks j hj, hxj, Int.toNat_natCast] at x0 x1 x2 x3
            rw [rd59 ks j hj, hxj] at l2 g2 l3 g3
            have hacc : ∀ W, Below w0.heap.size w0 W → Calls Tryd.prog 22 #[.agg #[.string (key59 x).f0, .int .u32 (key59 x).f1, .slice A2 (key59 x).f2.length c2', .slice A3 (key59 x).f3.length c3'], .string text, .string (S sgL)] W fun e w' => e = .returned (.bool (accS x.f2 x.f3 text (S sgL))) ∧ Below W.heap.size W w' := fun W hW =>
              spec_Accepts.calls (x.f2.length + 1) x.f0 x.f1 A2 c2' x.f2 A3 c3' x.f3 text (S sgL) _ W (Kd.C_below g2 hW) l2 (Kd.C_below g3 hW) l3 (acc_f x (HH.out.hkt x (List.mem_of_getElem? e2)) text (S sgL) _ (by omega))
            have HACC := Lib.hid hacc
            have j1 : (j : Int) < (ks.length : Int) := by omega
            have X0 := Lib.hid (And.intro x0 (And.intro x1 (And.intro x2 x3)))
            clear hacc x0 x1 x2 x3 l2 g2 l3 g3 hxj
            have hne14 : ∀ {n : Nat}, (Value.slice An sn.length cn).ownBlock = some n → n < g14 := fun h => HLT.out.2 _ h
            have hns14 : ∀ {n : Nat}, (Value.slice AS sigs.length cS).ownBlock = some n → n < g14 := fun h => HLT.out.1 _ h
            have HNE := Lib.hid (show some g14 ≠ (Value.slice An sn.length cn).ownBlock ∧ some g19 ≠ (Value.slice An sn.length cn).ownBlock from ⟨fun e => Nat.lt_irrefl _ (hne14 e.symm), fun e => Nat.lt_irrefl _ (HLU.out _ e.symm)⟩)
            clear hne14 hns14 HLT HLU
            cases ha : accS x.f2 x.f3 text (S sgL) with
            | true =>
              rw [ha] at HRES HACC
              simp only [if_true] at HRES
              go_wp2_with (first
                | (go_at_call 21; with_reducible refine HHAS.out.mono ?_; rintro e w6 ⟨rfl, hb6⟩; have HS6 := Lib.hid (HS5.out.step hb6); have HX6 := Lib.hid ((hb6.block _ (blk_lt HX5.out)).trans HX5.out); have HY6 := Lib.hid ((hb6.block _ (blk_lt HY5.out)).trans HY5.out); obtain ⟨d0, d1, d2, -, -, -⟩ := three HY6.out; clear hb6)
                | (at_builtin; refine Kd.R_append k37 (w0 := w0) w0.heap.size rfl _ _ 25 37 _ 40 rfl Tryd.underlying25 info37' rfl (by decide) (by decide) (.slice An sn.length cn) sn (⟨S nmL, (hh : Int), ⟨#[]⟩⟩ : S37) [.string (S nmL), .int .u32 (hh : Int), .string ⟨#[]⟩] (fun _ => True) (fun _ => False) rfl rfl (k37_mkM _ _ _ _) (fun _ h => h.elim) (fun _ _ => trivial) HS6.out.rn HS6.out.below HS6.out.below.size (by omega) ?_; intro v7 w7 hr7 hb7 hg7 hat7; obtain ⟨A7, c7, hv7⟩ := Kd.R_slice hr7; subst hv7; have HS7 := Lib.hid (HS6.out.grown hb7 hg7 hr7 hat7); have HX7 := Lib.hid ((hg7.block _ (blk_lt HX6.out) HNE.out.1).trans HX6.out); have HY7 := Lib.hid ((hg7.block _ (blk_lt HY6.out) HNE.out.2).trans HY6.out); obtain ⟨y0, y1, y2, y3⟩ := X0.out; replace y0 := pw_cell_below HS7.out.below y0; replace y1 := pw_cell_below HS7.out.below y1; replace y2 := pw_cell_below HS7.out.below y2; replace y3 := pw_cell_below HS7.out.below y3; clear hr7 hb7 hg7 hat7)
                | (go_at_call 22; with_reducible refine (HACC.out _ HS7.out.below).mono ?_; rintro e w8 ⟨rfl, hb8⟩; have HS8 := Lib.hid (HS7.out.step hb8); have HX8 := Lib.hid ((hb8.block _ (blk_lt HX7.out)).trans HX7.out); have HY8 := Lib.hid ((hb8.block _ (blk_lt HY7.out)).trans HY7.out); obtain ⟨c0, c1, c2, -, -, -⟩ := three HX8.out; obtain ⟨d0, d1, d2, -, -, -⟩ := three HY8.out; obtain ⟨n0, n1, n2, m0, m1, m2⟩ := three HS8.out.bN; obtain ⟨hs0, hs1, hs2, hf0, hf1, hf2⟩ := three (HH.out.blk HS8.out.below); clear hb8)
                | (at_builtin; refine Kd.R_append k37 (w0 := w0) w0.heap.size rfl _ _ 25 37 _ 40 rfl Tryd.underlying25 info37' rfl (by decide) (by decide) (.slice AS sigs.length cS) sigs (⟨S nmL, (hh : Int), S b64L⟩ : S37) [.string (S nmL), .int .u32 (hh : Int), .string (S b64L)] (fun _ => True) (fun _ => False) rfl rfl (k37_mkM _ _ _ _) (fun _ h => h.elim) (fun _ _ => trivial) HS8.out.rS HS8.out.below HS8.out.below.size (by omega) ?_; intro v9 w9 hr9 hb9 hg9 hat9; obtain ⟨A9, c9, hv9⟩ := Kd.R_slice hr9; rw [List.length_append, List.length_singleton] at hv9; subst hv9; have HR9 := Lib.hid hr9; have HB9 := Lib.hid hb9; have HG9 := Lib.hid hg9; have HAT9 := Lib.hid hat9; have hbN9 := (hg9.block gN (blk_lt HS8.out.bN) (gR_ne HS8.out.rS HS8.out.bN (by decide))).trans HS8.out.bN; obtain ⟨-, q2, -, -, z2, -⟩ := three hbN9; clear hr9 hb9 hg9 hat9 hbN9 n0 n1 n2 m0 m1 m2)
                | fail)
              exact ⟨⟨i + 1, sigs ++ [(⟨S nmL, (hh : Int), S b64L⟩ : S37)], unv, sn ++ [(⟨S nmL, (hh : Int), ⟨#[]⟩⟩ : S37)], _, _, A7, c7, by omega, ⟨rfl, rfl, by repeat (first | exact ks_nil _ | refine ks_cons (by first | rfl | exact congrArg (Value.int .i64) (Int.natCast_add i 1).symm | (rw [List.length_append]; rfl)) ?_)⟩, HS8.out.growS HB9.out HG9.out HR9.out HAT9.out, by rw [List.length_append, List.length_singleton]; omega, by omega, by rw [List.length_append, List.length_singleton]; omega, HRES.out⟩, by show lines.length - ((i : Int) + 1).toNat < lines.length - (i : Int).toNat; omega⟩
            | false =>
              rw [ha] at HRES HACC
              have HRE := Lib.hid (show ((⟨#[]⟩, [⟨S nmL, (hh : Int), ⟨#[]⟩⟩], [], 2, true) : Res) = res from HRES.out)
              go_upto_region 24 with (first
                | (go_at_call 21; with_reducible refine HHAS.out.mono ?_; rintro e w6 ⟨rfl, hb6⟩; have HS6 := Lib.hid (HS5.out.step hb6); have HX6 := Lib.hid ((hb6.block _ (blk_lt HX5.out)).trans HX5.out); have HY6 := Lib.hid ((hb6.block _ (blk_lt HY5.out)).trans HY5.out); obtain ⟨d0, d1, d2, -, -, -⟩ := three HY6.out; clear hb6)
                | (at_builtin; refine Kd.R_append k37 (w0 := w0) w0.heap.size rfl _ _ 25 37 _ 40 rfl Tryd.underlying25 info37' rfl (by decide) (by decide) (.slice An sn.length cn) sn (⟨S nmL, (hh : Int), ⟨#[]⟩⟩ : S37) [.string (S nmL), .int .u32 (hh : Int), .string ⟨#[]⟩] (fun _ => True) (fun _ => False) rfl rfl (k37_mkM _ _ _ _) (fun _ h => h.elim) (fun _ _ => trivial) HS6.out.rn HS6.out.below HS6.out.below.size (by omega) ?_; intro v7 w7 hr7 hb7 hg7 hat7; obtain ⟨A7, c7, hv7⟩ := Kd.R_slice hr7; subst hv7; have HS7 := Lib.hid (HS6.out.grown hb7 hg7 hr7 hat7); have HX7 := Lib.hid ((hg7.block _ (blk_lt HX6.out) HNE.out.1).trans HX6.out); have HY7 := Lib.hid ((hg7.block _ (blk_lt HY6.out) HNE.out.2).trans HY6.out); obtain ⟨y0, y1, y2, y3⟩ := X0.out; replace y0 := pw_cell_below HS7.out.below y0; replace y1 := pw_cell_below HS7.out.below y1; replace y2 := pw_cell_below HS7.out.below y2; replace y3 := pw_cell_below HS7.out.below y3; clear hr7 hb7 hg7 hat7)
                | (go_at_call 22; with_reducible refine (HACC.out _ HS7.out.below).mono ?_; rintro e w8 ⟨rfl, hb8⟩; have HS8 := Lib.hid (HS7.out.step hb8); have HX8 := Lib.hid ((hb8.block _ (blk_lt HX7.out)).trans HX7.out); have HY8 := Lib.hid ((hb8.block _ (blk_lt HY7.out)).trans HY7.out); obtain ⟨c0, c1, c2, -, -, -⟩ := three HX8.out; obtain ⟨d0, d1, d2, -, -, -⟩ := three HY8.out; obtain ⟨n0, n1, n2, m0, m1, m2⟩ := three HS8.out.bN; obtain ⟨hs0, hs1, hs2, hf0, hf1, hf2⟩ := three (HH.out.blk HS8.out.below); clear hb8)
                | fail)
              have hb4 := Lib.hid ((Below.heap_alloc w8 (.cells #[.string (S nmL), .int .u32 (hh : Int), .string ⟨#[]⟩] 37) _ (blk_lt (HH.out.blk HS8.out.below))).trans (HH.out.blk HS8.out.below))
              clear hs0 hs1 hs2 hf0 hf1 hf2 c0 c1 c2 n0 n1 n2 m0 m1 m2
              obtain ⟨hs0, hs1, hs2, hf0, hf1, hf2⟩ := three hb4.out
              go_wp2_with fail
              refine bodyPost_ret (results_ctt rfl _ _ w.heap.size 27 _ (0, 0) _ rfl (put3 hb4.out _ _ _) Tryd.underlying27 rfl (by kernel_rfl)) rfl ?_
              rw [← HRE.out]
              have hB8 := HH.out.hbw.trans (HS8.out.below.mono HH.out.hbw.size)
              exact ⟨_, _, rfl, gfar3 (one37 w8 _ (S nmL) (hh : Int) (blk_lt (HH.out.blk HS8.out.below))) (Nat.lt_succ_self _) _ _ _, Kd.R_nil _ _ _ _ _, belowT (hB8.alloc hB8.size _) _ _ _⟩
  · have h1 : decide ((i : Int) < (lines.length : Int)) = false := decide_eq_false (by omega)
    have h2 : decide (i < lines.length) = false := decide_eq_false hlt
    rw [List.drop_eq_nil_of_le (by omega), sopL] at HRES
    go_wp2_with fail
    exact HE.out _ _ ⟨sigs, unv, sn, _, _, _, ⟨rfl, rfl, by repeat (first | exact ks_nil _ | refine ks_cons rfl ?_)⟩, HS.out, HRES.out⟩
end Go.Proofs.YtkbegfihdpiacaaDoor.PX

namespace Go.Proofs.YtkbegfihdpiacaaDoor.PX
open Go.RowKit Nt Go.Lib Go.Maps Go.Proofs.YtkbegfihdpiacaaDoorW.PrintWords Go.Proofs.YtkbegfihdpiacaaDoorW.PrintLast
set_option linter.unusedVariables false
set_option linter.unusedSimpArgs false
set_option maxRecDepth 100000 in
set_option maxHeartbeats 4000000 in
theorem sopenC (ks : List S34) (l : List UInt8) (hl : l.length ≤ 2147483647) (hks : ks.length ≤ 2147483647) (hkt : ∀ x ∈ ks, x.f2.length ≤ 2147483647) (w : World) (A : Option Addr) (c : Nat) (hr : Kd.C k59 w A ks.length (ks.map key59)) (hc : ks.length ≤ c) :
    Calls Tryd.prog 8 #[.string (S l), .slice A ks.length c] w (SOPost w (sopM ks l)) := by
  have HR := Lib.hid hr
  have HC := Lib.hid hc
  have HKT := Lib.hid hkt
  have hsp := split_f l hl (l.length + l.length + 5) (by omega)
  have HSP := Lib.hid hsp
  have HLEN := Lib.hid (lnsD_len l)
  have hls := lnsD_S l
  generalize hres : sopM ks l = res
  have HRES := Lib.hid hres
  unfold sopM at HRES
  generalize lnsD l = lines at *
  generalize splitD l = sp at *
  obtain ⟨text, ls, ok⟩ := sp
  simp only at hls
  subst hls
  clear hr hc hkt hsp hres
  go_enter Tryd.func8, Tryd.ntmps8
  go_upto_region 2 with (go_at_call 17; with_reducible refine (spec_Split.calls _ (S l) text (lines.map S) ok _ HSP.out).mono ?_; rintro e w1 ⟨v1, rfl, hr1, hb1⟩; obtain ⟨AL, cL, rfl⟩ := Kd.R_slice hr1; have HR1 := Lib.hid hr1; have HB1 := Lib.hid hb1; clear hr1 hb1)
  have hbk : w1.heap[w.heap.size]? = some (.cells #[.string ⟨#[]⟩, .slice none 0 0, .slice none 0 0] 27 (0, 0)) := (HB1.out.block _ (by simp)).trans (heap_alloc_new w _)
  obtain ⟨hs0, hs1, hs2, hf0, hf1, hf2⟩ := three hbk
  have hB1 : Below w.heap.size w w1 := ((Below.refl _ _).alloc (Nat.le_refl _) _).trans (HB1.out.mono (by simp))
  have HB := Lib.hid hB1
  have HBK := Lib.hid hbk
  have hrd := (Kd.R_reads' HR1.out).2
  rw [List.length_map] at hrd
  have HRD := Lib.hid hrd
  clear hbk hB1 HB1 HR1 hrd HSP
  have hlen : (lines.map S).length = lines.length := List.length_map _
  by_cases h1 : 2000 < l.length
  · have c1 : decide ((2000 : Int) < ((S l).size : Int)) = true := by rw [S_sz]; exact decide_eq_true (by omega)
    have HRE := Lib.hid (show untold = res by rw [← HRES.out, if_pos h1])
    clear h1
    go_wp2_with fail
    refine bodyPost_ret (results_ctt rfl _ _ w.heap.size 27 _ (0, 0) _ rfl (put3 HBK.out _ _ _) Tryd.underlying27 rfl (by kernel_rfl)) rfl ?_
    rw [← HRE.out]
    exact ⟨_, _, rfl, Kd.R_nil _ _ _ _ _, Kd.R_nil _ _ _ _ _, belowT HB.out _ _ _⟩
  · have c1 : decide ((2000 : Int) < ((S l).size : Int)) = false := by rw [S_sz]; exact decide_eq_false (by omega)
    by_cases h2 : 100 < lines.length
    · have c2 : decide ((100 : Int) < (lines.length : Int)) = true := decide_eq_true (by omega)
      have HRE := Lib.hid (show untold = res by rw [← HRES.out, if_neg h1, if_pos h2])
      clear h1 h2
      go_wp2_with fail
      refine bodyPost_ret (results_ctt rfl _ _ w.heap.size 27 _ (0, 0) _ rfl (put3 HBK.out _ _ _) Tryd.underlying27 rfl (by kernel_rfl)) rfl ?_
      rw [← HRE.out]
      exact ⟨_, _, rfl, Kd.R_nil _ _ _ _ _, Kd.R_nil _ _ _ _ _, belowT HB.out _ _ _⟩
    · have c2 : decide ((100 : Int) < (lines.length : Int)) = false := decide_eq_false (by omega)
      have hpc : ∀ W, Calls Tryd.prog 18 #[.string (S l)] W fun e w' => e = .returned (.bool (plainD l)) ∧ Below W.heap.size W w' := fun W => spec_Plain.calls _ (S l) _ W (plain_f l hl (l.length + 1) (by omega))
      have HPC := Lib.hid hpc
      rw [if_neg h1, if_neg h2] at HRES
      have HN := Lib.hid (show lines.length ≤ 100 by omega)
      clear h1 h2 hpc
      cases hp : plainD l with
      | false =>
        rw [hp] at HPC HRES
        have HRE := Lib.hid (show malformed = res from HRES.out)
        go_wp2_with (go_at_call 18; with_reducible refine (HPC.out _).mono ?_; rintro e w2 ⟨rfl, hb2⟩; have HB2 := Lib.hid (HB.out.trans (hb2.mono HB.out.size)); have HBK2 := Lib.hid ((hb2.block _ (blk_lt HBK.out)).trans HBK.out); obtain ⟨ht0, ht1, ht2, he0, he1, he2⟩ := three HBK2.out; clear hb2)
        refine bodyPost_ret (results_ctt rfl _ _ w.heap.size 27 _ (0, 0) _ rfl (put3 HBK2.out _ _ _) Tryd.underlying27 rfl (by kernel_rfl)) rfl ?_
        rw [← HRE.out]
        exact ⟨_, _, rfl, Kd.R_nil _ _ _ _ _, Kd.R_nil _ _ _ _ _, belowT HB2.out _ _ _⟩
      | true =>
        rw [hp] at HPC HRES
        cases ok with
        | false =>
          have HRE := Lib.hid (show malformed = res from HRES.out)
          go_wp2_with (go_at_call 18; with_reducible refine (HPC.out _).mono ?_; rintro e w2 ⟨rfl, hb2⟩; have HB2 := Lib.hid (HB.out.trans (hb2.mono HB.out.size)); have HBK2 := Lib.hid ((hb2.block _ (blk_lt HBK.out)).trans HBK.out); obtain ⟨ht0, ht1, ht2, he0, he1, he2⟩ := three HBK2.out; clear hb2)
          refine bodyPost_ret (results_ctt rfl _ _ w.heap.size 27 _ (0, 0) _ rfl (put3 HBK2.out _ _ _) Tryd.underlying27 rfl (by kernel_rfl)) rfl ?_
          rw [← HRE.out]
          exact ⟨_, _, rfl, Kd.R_nil _ _ _ _ _, Kd.R_nil _ _ _ _ _, belowT HB2.out _ _ _⟩
        | true =>
          have HRE := Lib.hid (show sopL ks text lines [] [] [] = res from HRES.out)
          go_upto_block 0 with (go_at_call 18; with_reducible refine (HPC.out _).mono ?_; rintro e w2 ⟨rfl, hb2⟩; have HB2 := Lib.hid (HB.out.trans (hb2.mono HB.out.size)); have HBK2 := Lib.hid ((hb2.block _ (blk_lt HBK.out)).trans HBK.out); have HB1 := Lib.hid hb2; clear hb2)
          have hB2 := HB.out.trans (HB1.out.mono HB.out.size)
          refine sloop w w2 _ ks res lines A c text w2.heap.size AL cL
            { hk := Kd.C_below HR.out HB2.out
              hck := HC.out
              hL := Kd.C_below HRD.out.2 HB1.out
              b4 := HBK2.out
              hbw := HB2.out
              hks := hks
              hkt := HKT.out
              hn := HN.out
              hln := fun ln hm => Nat.le_trans (HLEN.out ln hm) hl } _ ?_ _ _ ?_ rfl
          · refine ⟨0, [], [], [], .slice none 0 0, .slice none 0 0, some ⟨w2.heap.size + 1, 0, none⟩, 0, Nat.zero_le _, ⟨rfl, rfl, by repeat (first | exact ks_nil _ | refine ks_cons rfl ?_)⟩, ?_, Nat.le_refl _, Nat.le_refl _, Nat.le_refl _, HRE.out⟩
            have hz : w2.heap.size + 1 = (w2.alloc (.cells #[.string text, .slice none 0 0, .slice none 0 0] 27)).heap.size := by simp
            exact
            { below := ((Below.refl _ _).alloc (Nat.le_refl _) _).alloc (by simp) _
              bN := (Below.heap_alloc _ _ _ (by simp)).trans (heap_alloc_new w2 _)
              rS := Kd.R_nil _ _ _ _ _
              rU := Kd.R_nil _ _ _ _ _
              rn := by rw [hz]; exact ⟨fun _ _ => trivial, OwnRow.lit (inner := []) _ w2.heap.size (Reps.none _ _) (by simp) (by simp)⟩
              su := .inl rfl
              sn' := .inl rfl
              un := .inl rfl
              geN := Nat.le_refl _ }
          · rintro a4 w4 ⟨sigs, unv, sn, vS, vU, vn, hF4, hS4, hres⟩
            obtain ⟨AS, cS, rfl⟩ := Kd.R_slice hS4.rS
            have HS4 := Lib.hid hS4
            have hb4 := Lib.hid ((hS4.below.block _ (blk_lt HBK2.out)).trans HBK2.out)
            have hB4 := Lib.hid (HB2.out.trans (hS4.below.mono HB2.out.size))
            obtain ⟨n0, n1, n2, -, -, -⟩ := three hS4.bN
            obtain ⟨AU, cU, rfl⟩ := Kd.R_slice hS4.rU
            obtain ⟨hs0, hs1, hs2, hf0, hf1, hf2⟩ := three hb4.out
            clear hS4
            obtain ⟨g4, rfl, hg⟩ := hF4.lit range120
            clear hF4
            simp only [List.forall_mem_cons] at hg
            obtain ⟨k4, k10, -⟩ := hg
            unfold lit'
            simp only [k4, k10]
            clear k4 k10
            cases sigs with
            | nil =>
              go_wp2_with fail
              refine bodyPost_ret (results_ctt rfl _ _ w.heap.size 27 _ (0, 0) _ rfl (put3 hb4.out _ _ _) Tryd.underlying27 rfl (by kernel_rfl)) rfl ?_
              rw [← hres]
              exact ⟨_, _, rfl, gfar3 HS4.out.rS (blk_lt HBK2.out) _ _ _, gfar3 HS4.out.rU (blk_lt HBK2.out) _ _ _, belowT hB4.out _ _ _⟩
            | cons x s =>
              have q1 : (((x :: s).length : Int) == 0) = false := beq_eq_false_iff_ne.2 (by simp; omega)
              go_wp2_with fail
              refine bodyPost_ret (results_ctt rfl _ _ w.heap.size 27 _ (0, 0) _ rfl (put3 hb4.out _ _ _) Tryd.underlying27 rfl (by kernel_rfl)) rfl ?_
              rw [← hres]
              exact ⟨_, _, rfl, gfar3 HS4.out.rS (blk_lt HBK2.out) _ _ _, gfar3 HS4.out.rU (blk_lt HBK2.out) _ _ _, belowT hB4.out _ _ _⟩
end Go.Proofs.YtkbegfihdpiacaaDoor.PX
