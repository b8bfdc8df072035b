/- Part 19 of the proof: what the theorem reaches of the texts Laid, RowM, CardM. -/
import Derived.Test.YtkbegfihdpiacaaDoorRows
import Derived.Lib.LaidU8
import Derived.Lib.LaidIn
import Derived.Stop.LaidErr
import Derived.ProofKit
import Derived.ChangeVars
import Derived.LaidLaws
import Derived.SizedLaws
import Derived.SliceStrings
import Derived.Carry
import Derived.Test.YtkbegfihdpiacaaDoorTie
import Derived.Test.YtkbegfihdpiacaaDoorCards
import Derived.SevenTiedAt
import Derived.Test.YtkbegfihdpiacaaDoorKP9
import Derived.Test.YtkbegfihdpiacaaDoorKM18

namespace Go.Proofs.YtkbegfihdpiacaaDoor.PX
open Go.ChangeShapes Go.WideShapes Go.ChangeAt Go.RowKit Go.Lib Go.Shelf
set_option linter.unusedVariables false
abbrev malN : String := "loop.example/pub-notesandsignatures/pub/sumdbnote.errMalformedNote"
abbrev misN : String := "loop.example/pub-notesandsignatures/pub/sumdbnote.errMismatchedVerifier"
theorem gFirst : Tryd.prog.globalNamed "unicode/utf8.first" = some 3 := by kernel_rfl
theorem gFirstT : (Tryd.prog.globals[3]?).map (·.type) = some 157 := by kernel_rfl
theorem gAcc : Tryd.prog.globalNamed "unicode/utf8.acceptRanges" = some 4 := by kernel_rfl
theorem gAccT : (Tryd.prog.globals[4]?).map (·.type) = some 160 := by kernel_rfl
theorem gMal : Tryd.prog.globalNamed malN = some 0 := by kernel_rfl
theorem gMalT : (Tryd.prog.globals[0]?).map (·.type) = some 62 := by kernel_rfl
theorem gMis : Tryd.prog.globalNamed misN = some 1 := by kernel_rfl
theorem gMisT : (Tryd.prog.globals[1]?).map (·.type) = some 62 := by kernel_rfl
theorem c8 : Tryd.prog.cellsOf 5 = 1 := by kernel_rfl
theorem c256 : Tryd.prog.cellsOf 157 = 256 := by kernel_rfl
theorem cAcc : Tryd.prog.cellsOf 159 = 2 := by kernel_rfl
theorem cStr : Tryd.prog.cellsOf 9 = 1 := by kernel_rfl
theorem cErr : Tryd.prog.cellsOf 211 = 1 := by kernel_rfl
theorem star : "*" ++ "errors.errorString" = "*errors.errorString" := by decide
theorem rowErr (u : TypeId) (h : Tryd.prog.typeName? 3 u = some "*errors.errorString") : u = 195 :=
  typeName_ptr_named (nm := "errors.errorString") (by rw [star]; kernel_rfl) (by kernel_rfl) (by decide) u (by rw [star]; exact h)
theorem accD : (Rows.laid_unicode_utf8_acceptRanges : DataW Unit) = Lib.acceptData := by kernel_rfl
theorem firstD : Rows.laid_unicode_utf8_first = Lib.firstData := by kernel_rfl
theorem whiteD : (Rows.laid_unicode_White_Space : DataW Unit) = Lib.whiteData := by kernel_rfl
/-- The decoder's two tables. -/
theorem tabs_of {w : World} (h3 : VarReads Tryd.prog w "unicode/utf8.first" Lib.firstData) (h4 : VarReads Tryd.prog w "unicode/utf8.acceptRanges" Lib.acceptData) : Utf8Tabs 3 4 w := by
  obtain ⟨g, t, cs, fuel, p, hg, hty, hvar, hd⟩ := h3
  obtain rfl := Option.some.inj (gFirst.symm.trans hg)
  obtain rfl := Option.some.inj (gFirstT.symm.trans hty)
  have hf := cells_of_tab Tryd.underlying157 Tryd.underlying5 c8 c256 hd
  obtain ⟨g', t', cs', fuel', p', hg', hty', hvar', hd'⟩ := h4
  obtain rfl := Option.some.inj (gAcc.symm.trans hg')
  obtain rfl := Option.some.inj (gAccT.symm.trans hty')
  refine ⟨fun c hc => ?_, fun i hi => ?_⟩
  · rw [World.var?_cell hg hvar c, ← Array.getElem?_toList, hf]
    simp [Lib.firstTab, hc]
  · obtain ⟨k, d, q, hdi, he⟩ := array_elem Tryd.underlying160 hd' i hi
    rw [List.getElem?_map, List.getElem?_range hi] at hdi
    obtain rfl := Option.some.inj hdi
    rw [cAcc] at he
    have hcs := ints_of_struct (zs := [(accLo i : Int), (accHi i : Int)]) Tryd.underlying159 (fun j f hj => by
      match j, hj with
      | 0, hj => obtain rfl := Option.some.inj hj; exact ⟨Tryd.underlying5, rfl, c8⟩
      | 1, hj => obtain rfl := Option.some.inj hj; exact ⟨Tryd.underlying5, rfl, c8⟩
      | j + 2, hj => simp at hj) (by rw [cAcc]; rfl) he
    have e0 := congrArg (·[0]?) hcs
    have e1 := congrArg (·[1]?) hcs
    simp only [List.getElem?_take, List.getElem?_drop] at e0 e1
    constructor
    · rw [World.var?_cell hg' hvar' (2 * i), ← Array.getElem?_toList]
      simpa [Nat.mul_comm] using e0
    · rw [World.var?_cell hg' hvar' (2 * i + 1), ← Array.getElem?_toList]
      simpa [Nat.mul_comm] using e1
theorem white_of {w : World} (h6 : VarReads Tryd.prog w "unicode.White_Space" Lib.whiteData) : WhiteTab 6 w :=
  whiteTab_of_reads Tryd.lays199 ⟨by kernel_rfl, by kernel_rfl, by kernel_rfl, by kernel_rfl, by kernel_rfl, by kernel_rfl, by kernel_rfl, by kernel_rfl⟩ h6
/-- The world in which the listed variables hold what their initialisers lay. -/
noncomputable abbrev N0 : Nat := (World.holding Tryd.prog default ⟨#[], #[], []⟩).heap.size
noncomputable def laidWorld (os : Os) : World :=
  let w0 := World.holding Tryd.prog os ⟨#[.cells (Lib.whiteT.map fun (z : Nat) => Value.int .u16 (z : Int)).toArray (Tryd.lays199_ren.t 198), .cells #[.slice (some ⟨N0, 0, none⟩) 7 7, .slice none 0 0, .int .i64 2] (Tryd.lays199_ren.t 196),
    .cells #[.string ⟨#[109, 97, 108, 102, 111, 114, 109, 101, 100, 32, 110, 111, 116, 101]⟩] 211,
    .cells #[.string ⟨#[118, 101, 114, 105, 102, 105, 101, 114, 32, 110, 97, 109, 101, 32, 111, 114, 32, 104, 97, 115, 104, 32, 100, 111, 101, 115, 110, 39, 116, 32, 109, 97, 116, 99, 104, 32, 115, 105, 103, 110, 97, 116, 117, 114, 101]⟩] 211], #[], []⟩
  let put (h : Array Obj) (g : Nat) (cs : Array Value) : Array Obj := h.modify g fun
    | .cells _ t frozen => .cells cs t frozen
    | o => o
  let h1 := put w0.heap 3 (Lib.firstTab.map fun z => Value.int .u8 z).toArray
  let h2 := put h1 4 ((List.range 16).flatMap fun i => [Value.int .u8 (Lib.accLo i), Value.int .u8 (Lib.accHi i)]).toArray
  let h3 := put h2 6 #[.pointer (some ⟨N0 + 1, 0, none⟩)]
  let h4 := put h3 0 #[.iface 195 (.pointer (some ⟨N0 + 2, 0, none⟩))]
  let h5 := put h4 1 #[.iface 195 (.pointer (some ⟨N0 + 3, 0, none⟩))]
  { w0 with heap := h5 }
theorem laid_met (os : Os) (args : Array Value) : laidMet Tryd.prog Rows.fnOpenKindRow.laid ((laidWorld os).forCall (fun _ _ => 0) ⟨#[], args, []⟩).memory :=
  (LaidIn.of_run [4, 6, N0 + 1, N0, 0, N0 + 2, 1, N0 + 3, 3] 10 (by kernel_rfl) (by kernel_rfl) (by kernel_rfl) (by kernel_rfl)).met
end Go.Proofs.YtkbegfihdpiacaaDoor.PX

namespace Go.Proofs.YtkbegfihdpiacaaDoor.PX
open Go.ChangeShapes Go.WideShapes Go.ChangeAt Go.RowKit Go.Lib Go.Shelf
open Go.ChangeMaps (open_string shut_string)
set_option linter.unusedVariables false
theorem own : ownKnob Tryd.prog.godebug = none := by kernel_rfl
theorem laidOut : laidOutB Tryd.prog = true := by kernel_rfl
/-- The two named variables, read as tokens. -/
theorem vars_read {H : Type} (enc : TypeId × Value → H) {W : World} {x0 x1 : Value} (h0 : W.var? Tryd.prog malN = some #[x0]) (h1 : W.var? Tryd.prog misN = some #[x1]) (i0 : IsIface x0) (i1 : IsIface x1) (sp : Nat → Bool) :
    DataW.TrodVars enc Tryd.prog W sp [malN, misN] [tok enc x0, tok enc x1] [.cell 0 0, .cell 1 0] :=
  ⟨_, _, #[x0], 1, [], [.cell 1 0], gMal, gMalT, h0, trod_held Tryd.underlying62 i0 0, ⟨_, _, #[x1], 1, [], [], gMis, gMisT, h1, trod_held Tryd.underlying62 i1 0, rfl, rfl⟩, rfl⟩
theorem var_lt {W : World} {n : String} {cs : Array Value} (h : W.var? Tryd.prog n = some cs) : ∃ g, Tryd.prog.globalNamed n = some g ∧ g < W.heap.size := by
  unfold World.var? at h
  cases hg : Tryd.prog.globalNamed n with
  | none => simp [hg] at h
  | some g =>
    refine ⟨g, rfl, ?_⟩
    simp only [hg, Option.bind_some] at h
    rcases Nat.lt_or_ge g W.heap.size with h' | h'
    · exact h'
    · simp [Array.getElem?_eq_none h'] at h
theorem var_below {W W' : World} {n : String} {cs : Array Value} (h : W.var? Tryd.prog n = some cs) (hb : Below W.heap.size W W') : W'.var? Tryd.prog n = some cs := by
  obtain ⟨g, hg, hlt⟩ := var_lt h
  unfold World.var? at h ⊢
  simp only [hg, Option.bind_some] at h ⊢
  rw [hb.block g hlt]
  exact h
set_option maxRecDepth 100000 in
theorem fnMoreKeys_lifted (os : Os) (started : os.Started) (H : Type) (enc : TypeId × Value → H) :
    ReturnsInHanded {} Tryd.checked os 3 .any (fun w args => (Rows.fnMoreKeysSpec.pre enc Tryd.prog Tryd.f3 [] false w args ∧ laidMet Tryd.prog Rows.fnMoreKeysRow.laid w) ∧ sizedMet enc Tryd.prog Tryd.f3 (OpenSpec.ofChange Rows.fnMoreKeysSpec) false w args)
      (Rows.fnMoreKeysSpec.post enc Tryd.prog Tryd.f3 false true false false) := by
  refine returnsInHanded_of_change_and (C := Tryd.checked) (X := fun w _ => laidMet Tryd.prog Rows.fnMoreKeysRow.laid w) (fun _ _ _ hh h => h.of_heap hh) own started (by kernel_rfl) Tryd.func3
    (ChangeSpec.witness_shaped (enc := enc) (C := Tryd.checked) (os := os) (X := fun w _ => laidMet Tryd.prog Rows.fnMoreKeysRow.laid w) false (laidWorld os) #[.string ⟨#[]⟩, .slice none 0 0, .string ⟨#[]⟩, .int .u32 0] 8 rfl (World.shaped_of_RefB (by kernel_rfl) (by kernel_rfl)) (by kernel_rfl) (by kernel_rfl) (by kernel_rfl) (laid_met os _)) ?_
  intro W base args ds gs before hval0 hW _ _ hL _
  have hval : ∀ (j : Nat) t v, Tryd.f3.params[j]? = some t → args[j]? = some v → Value.okWide Tryd.prog W .any base t v := hval0
  have hW' := hW
  obtain ⟨p, q, hA0, hV0, rfl, hfz, hnd⟩ := hW
  have hA : DataW.TrodAll enc Tryd.prog W 0 (fun _ => true) true Tryd.f3.params.toList args.toList ds p := hA0
  have hV : DataW.TrodVars enc Tryd.prog W (fun _ => true) [malN, misN] gs q := hV0
  rw [Tryd.params3] at hA hval
  obtain ⟨v0, v1, v2, v3, d0, d1, d2, d3, p0, p1, p2, p3, rfl, rfl, rfl, h0, h1, h2, h3⟩ := trodAll_four hA
  obtain ⟨s, rfl, rfl, rfl, ws⟩ := open_string Tryd.underlying9 (hval 0 9 v0 rfl rfl) h0
  obtain ⟨nm, rfl, rfl, rfl, wn⟩ := open_string Tryd.underlying9 (hval 2 9 v2 rfl rfl) h2
  obtain ⟨hh, rfl, rfl, rfl, wh⟩ := open_int Tryd.underlying23 (hval 3 23 v3 rfl rfl) h3
  obtain ⟨a, len, cap, rfl⟩ := okWide_slice Tryd.underlying22 (hval 1 22 v1 rfl rfl)
  have k1 := h1
  have lt1 : ∀ x ∈ p1, x.block < W.heap.size := by obtain ⟨m, hm⟩ := k1; exact DataW.trod_lt m _ _ _ hm
  obtain ⟨m1, hm1⟩ := h1
  obtain ⟨A, c, ks, hcs, hle, hC, hwf⟩ := keys_C hm1
  have hva : (Value.slice a len cap).cells.toList = [.slice a len cap] := rfl
  rw [hva] at hcs
  injection hcs with hcs _
  injection hcs with e1 e2 e3
  subst e1; subst e2; subst e3
  obtain ⟨a0, sa, hv0, _, _, _⟩ := laid_sentinel hL.tail.tail gMal gMalT Tryd.underlying62 rowErr Tryd.underlying195 Tryd.underlying211 rfl rfl Tryd.underlying9 cErr cStr
  obtain ⟨b0, sb, hv1, _, _, _⟩ := laid_sentinel hL.tail.tail.tail gMis gMisT Tryd.underlying62 rowErr Tryd.underlying195 Tryd.underlying211 rfl rfl Tryd.underlying9 cErr cStr
  obtain ⟨rfl, rfl⟩ := hV.unique (vars_read enc hv0 hv1 trivial trivial _)
  clear hA0 hV0 hval0
  have hg0 : W.cell? ⟨0, 0, none⟩ = some (.iface 195 (.pointer (some a0))) := by simpa using World.var?_cell gMal hv0 0
  have hU := tabs_of (firstD ▸ Lib.laidMet.reads hL (.tail _ (.tail _ (.tail _ (.tail _ (.head _)))))) (accD ▸ Lib.laidMet.reads hL (.head _))
  have hWh := white_of (whiteD ▸ Lib.laidMet.reads hL (.tail _ (.head _)))
  refine (fnMoreKeys_any W s.data.toList a cap ks _ nm hh wh ⟨hU, hWh, hg0, ⟨_, rfl⟩, hC, hle, hwf⟩).mono fun e W' he => ?_
  obtain ⟨rfl, bel⟩ := he
  have e1 : Rows.fnMoreKeysSpec.fn H ([.lit (.string s.data.toList), d1, .lit (.string nm.data.toList), .lit (.int .u32 hh)] ++ [tok enc (.iface 195 (.pointer (some a0))), tok enc (.iface 195 (.pointer (some b0)))]) = { results := [.lit (.bool true)], args := [.lit (.string s.data.toList), d1, .lit (.string nm.data.toList), .lit (.int .u32 hh)], vars := [tok enc (.iface 195 (.pointer (some a0))), tok enc (.iface 195 (.pointer (some b0)))] } := rfl
  refine ⟨_, rfl, _, _, _, [], [] ++ (p1 ++ ([] ++ [])), [.cell 0 0, .cell 1 0], hW', ?_, ?_, ?_, bel.frame _, fun h => by cases h⟩
  · rw [e1]; exact trodAll_mk1 (shut_bool Tryd.underlying4 true)
  · rw [e1]; exact trodAll_mk4 (shut_string Tryd.underlying9 ws) (Below.trod laidOut (by kernel_rfl) (of_decide_eq_true (by kernel_rfl)) k1 bel lt1) (shut_string Tryd.underlying9 wn) (shut_int Tryd.underlying23 wh)
  · rw [e1]; exact vars_read enc (var_below hv0 bel) (var_below hv1 bel) trivial trivial _
theorem fnMoreKeys_holds : Rows.FnMoreKeysSaid :=
  OpenClaim.holds_of_wide 3 Tryd.f3 rfl rfl rfl rfl rfl rfl rfl ⟨rfl, rfl, rfl, rfl, rfl⟩ rfl rfl rfl rfl rfl (by kernel_rfl) Tryd.func3 (by kernel_rfl)
    (of_decide_eq_true (by kernel_rfl)) (by unfold Func.isWrapper; first | (rw [if_neg (of_decide_eq_false (by kernel_rfl))]; exact ⟨rfl, rfl⟩) | (rw [if_pos (of_decide_eq_true (by kernel_rfl))]; kernel_rfl))
    (fun os started H enc _ => fnMoreKeys_lifted os started H enc)
end Go.Proofs.YtkbegfihdpiacaaDoor.PX

namespace Go.Proofs.YtkbegfihdpiacaaDoor
open Go PX
theorem fnMoreKeys_card : Rows.FnMoreKeysCardSaid :=
  Claim7.holds_tied_plain_at .later [] [.data, .listed, .sentinel, .sentinel, .pinned] true (true, "c66d015329552041d251c45491c86520836d9611402dc5f8f4561b1516259514") true
    fnMoreKeys_holds (fun _ h => by cases h) (by kernel_rfl) (fun _ h => by cases h) fnMoreKeys_row_tie rfl ⟨rfl, rfl⟩ (by kernel_rfl) rfl
    (fun f fn hf hfn => by
      obtain rfl : f = 3 := (Option.some.inj ((show Tryd.prog.funcNamed "loop.example/pub-notesandsignatures/laws.FnMoreKeys" = some 3 by kernel_rfl).symm.trans hf)).symm
      obtain rfl : fn = Tryd.f3 := (Option.some.inj (Tryd.func3.symm.trans hfn)).symm
      exact ⟨by kernel_rfl, fun j t ht => by
        rw [Tryd.params3] at ht
        have h3 : t = 9 ∨ t = 22 ∨ t = 23 := by
          rcases j with _ | _ | _ | _ | j
          · exact .inl (by simpa using ht.symm)
          · exact .inr (.inl (by simpa using ht.symm))
          · exact .inl (by simpa using ht.symm)
          · exact .inr (.inr (by simpa using ht.symm))
          · simp at ht
        rcases h3 with rfl | rfl | rfl
        · exact (show Tryd.prog.wantsStandIn 9 = false by kernel_rfl)
        · exact (show Tryd.prog.wantsStandIn 22 = false by kernel_rfl)
        · exact (show Tryd.prog.wantsStandIn 23 = false by kernel_rfl)⟩)
    (by kernel_rfl)
end Go.Proofs.YtkbegfihdpiacaaDoor
