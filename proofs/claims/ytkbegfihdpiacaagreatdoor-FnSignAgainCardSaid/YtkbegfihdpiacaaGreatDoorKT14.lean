/- Part 14 of the proof: what the theorem reaches of the texts KR17. -/
import Derived.Deep.RegionHeld3
import Derived.Deep.RegionWith
import Derived.Test.YtkbegfihdpiacaaGreatDoorKT12
import Derived.Test.YtkbegfihdpiacaaGreatDoorKT13
set_option linter.unusedVariables false
set_option linter.unusedSimpArgs false
namespace Go.Proofs.YtkbegfihdpiacaaGreatDoor.PX
open Go.RowKit Nt Go.Lib Go.Maps Go.Proofs.YtkbegfihdpiacaaGreatDoorW.PrintWords Go.Proofs.YtkbegfihdpiacaaGreatDoorW.PrintLast
def resD (t : ByteArray) : ORes → ByteArray × List S49 × List S49 × Int × Bool
 | .bad => (⟨#[]⟩, [], [], 1, true)
 | .inv nm h => (⟨#[]⟩, [⟨nm, h, ⟨#[]⟩⟩], [], 2, true)
 | .ok [] u => (t, [], u.map sig37, 3, true)
 | .ok (x :: s) u => (t, (x :: s).map sig37, u.map sig37, 0, true)
def Seen37 (sn : List S49) (seen : List (ByteArray × Int)) : Prop := ∀ nm h, (⟨nm, h, ⟨#[]⟩⟩ : S49) ∈ sn ↔ (nm, h) ∈ seen
theorem sig37_mem (u : List S122) (x : S122) : sig37 x ∈ u.map sig37 ↔ x ∈ u := by
 rw [List.mem_map]
 constructor
 ·rintro ⟨y, hy, e⟩
  have : y = x := by
   cases x; cases y; unfold sig37 at e; injection e with e1 e2 e3; subst e1; subst e2; subst e3; rfl
  exact this ▸ hy
 ·intro h; exact ⟨x, h, rfl⟩
abbrev curL (l : List UInt8) : S49 := ⟨S (lineD l).1, ((lineD l).2.1 : Int), S (lineD l).2.2.1⟩
abbrev keyL (l : List UInt8) : S49 := ⟨S (lineD l).1, ((lineD l).2.1 : Int), ⟨#[]⟩⟩
abbrev Res : Type := ByteArray × List S49 × List S49 × Int × Bool
abbrev untold : Res := (⟨#[]⟩, [], [], 1, false)
abbrev malformed : Res := (⟨#[]⟩, [], [], 1, true)
open Classical in
noncomputable def sopL (ks : List S56) (text : ByteArray) : List (List UInt8) → List S49 → List S49 → List S49 → Res
 | [], _, sigs, unv => if sigs = [] then (text, [], unv, 3, true) else (text, sigs, unv, 0, true)
 | l :: ls, sn, sigs, unv =>
  if (lineD l).2.2.2.2.2 = false then untold else if (lineD l).2.2.2.2.1 = false then malformed
  else match findS ks (S (lineD l).1) ((lineD l).2.1 : Int) with
   | none => if curL l ∈ unv then sopL ks text ls sn sigs unv else sopL ks text ls sn sigs (unv ++ [curL l])
   | some x => if keyL l ∈ sn then sopL ks text ls sn sigs unv
    else if accS x.f2 x.f3 text (S (lineD l).2.2.2.1) = true then sopL ks text ls (sn ++ [keyL l]) (sigs ++ [curL l]) unv
    else (⟨#[]⟩, [keyL l], [], 2, true)
theorem sopL_open (ks : List S56) (text : ByteArray) : ∀ (ls : List (List UInt8)) (seen : List (ByteArray × Int)) (sn : List S49) (sigs unv : List S122), Seen37 sn seen → (sopL ks text ls sn (sigs.map sig37) (unv.map sig37)).2.2.2.2 = true →
  sopL ks text ls sn (sigs.map sig37) (unv.map sig37) = resD text (openL ks text ls seen sigs unv)
 | [], seen, sn, sigs, unv, hs, h => by
  rw [sopL, openL]
  cases sigs with
  | nil => rfl
  | cons x s => rfl
 | l :: ls, seen, sn, sigs, unv, hs, h => by
  rw [sopL] at h ⊢
  rw [openL]
  split at h
  ·cases h
  ·rename_i ht
   rw [if_neg ht]
   split at h
   ·rename_i hf; rw [if_pos hf, if_pos hf]; rfl
   ·rename_i hf
    rw [if_neg hf, if_neg hf]
    cases e : findS ks (S (lineD l).1) ((lineD l).2.1 : Int) with
    | none =>
     rw [e] at h
     simp only at h ⊢
     have hm : curL l ∈ unv.map sig37 ↔ (⟨S (lineD l).1, ((lineD l).2.1 : Int), S (lineD l).2.2.1⟩ : S122) ∈ unv := sig37_mem unv ⟨S (lineD l).1, ((lineD l).2.1 : Int), S (lineD l).2.2.1⟩
     have hap : unv.map sig37 ++ [curL l] = (unv ++ [(⟨S (lineD l).1, ((lineD l).2.1 : Int), S (lineD l).2.2.1⟩ : S122)]).map sig37 := by rw [List.map_append]; rfl
     by_cases hin : (⟨S (lineD l).1, ((lineD l).2.1 : Int), S (lineD l).2.2.1⟩ : S122) ∈ unv
     ·rw [if_pos (hm.2 hin)] at h ⊢
      rw [if_pos hin]
      exact sopL_open ks text ls seen sn sigs unv hs h
     ·rw [if_neg (fun e => hin (hm.1 e)), hap] at h ⊢
      rw [if_neg hin]
      exact sopL_open ks text ls seen sn sigs _ hs h
    | some x =>
     rw [e] at h
     simp only at h ⊢
     have hm : keyL l ∈ sn ↔ (S (lineD l).1, ((lineD l).2.1 : Int)) ∈ seen := hs _ _
     by_cases hin : (S (lineD l).1, ((lineD l).2.1 : Int)) ∈ seen
     ·rw [if_pos (hm.2 hin)] at h ⊢
      rw [if_pos hin]
      exact sopL_open ks text ls seen sn sigs unv hs h
     ·rw [if_neg (fun e => hin (hm.1 e))] at h ⊢
      rw [if_neg hin]
      by_cases ha : accS x.f2 x.f3 text (S (lineD l).2.2.2.1) = true
      ·have hap : sigs.map sig37 ++ [curL l] = (sigs ++ [(⟨S (lineD l).1, ((lineD l).2.1 : Int), S (lineD l).2.2.1⟩ : S122)]).map sig37 := by rw [List.map_append]; rfl
       rw [if_pos ha, hap] at h ⊢
       rw [if_pos ha]
       refine sopL_open ks text ls _ _ _ unv ?_ h
       intro nm g
       rw [List.mem_append, List.mem_singleton, hs nm g, List.mem_cons]
       constructor
       ·rintro (h | h)
        ·exact .inr h
        ·injection h with a b _
         subst a; subst b
         exact .inl rfl
       ·rintro (h | h)
        ·injection h with a b
         subst a; subst b
         exact .inr rfl
        ·exact .inl h
      ·rw [if_neg ha, if_neg ha]; rfl
def lnsD (l : List UInt8) : List (List UInt8) := (splitD l).2.1.map (·.data.toList)
theorem lnsD_S (l : List UInt8) : (lnsD l).map S = (splitD l).2.1 := by
 unfold lnsD
 rw [List.map_map]
 conv => rhs; rw [← List.map_id (splitD l).2.1]
 exact List.map_congr_left fun x _ => S_data x
theorem lnsD_map (ls : List (List UInt8)) : (ls.map S).map (·.data.toList) = ls := by
 rw [List.map_map]
 conv => rhs; rw [← List.map_id ls]
 exact List.map_congr_left fun x _ => rfl
noncomputable def sopM (ks : List S56) (l : List UInt8) : Res :=
 if 2000 < l.length then untold else if 100 < (lnsD l).length then untold
 else if plainD l = true then if (splitD l).2.2 = true then sopL ks (splitD l).1 (lnsD l) [] [] [] else malformed else malformed
theorem line_len : ∀ (n : Nat) (l : List UInt8) (ln : List UInt8), ln ∈ linesF n l → ln.length ≤ l.length
 | 0, l, ln, h => by cases h
 | n + 1, l, ln, h => by
  rw [linesF] at h
  by_cases hl : l = []
  ·rw [if_pos hl] at h; cases h
  ·rw [if_neg hl] at h
   rcases List.mem_cons.1 h with rfl | h
   ·rw [List.length_take]; omega
   ·have := line_len n _ ln h
    rw [List.length_drop] at this
    omega
theorem lnsD_len (l : List UInt8) : ∀ ln ∈ lnsD l, ln.length ≤ l.length := by
 intro ln h
 unfold lnsD splitD at h
 split at h
 ·cases h
 ·rename_i i hi
  split at h
  ·cases h
  ·split at h
   ·rw [lnsD_map] at h
    have := line_len _ _ ln h
    rw [List.length_drop] at this
    omega
   ·cases h
theorem sopM_open (ks : List S56) (l : List UInt8) (h : (sopM ks l).2.2.2.2 = true) : sopM ks l = resD (openM ks l).1 (openM ks l).2 ∧ l.length ≤ 2000 ∧ ∀ i, lastN l l.length = some i → l[l.length - 1]? = some 10 → (linesD (l.drop (i + 2))).length ≤ 100 := by
 unfold sopM at h ⊢
 split at h
 ·cases h
 ·rename_i h1
  rw [if_neg h1]
  split at h
  ·cases h
  ·rename_i h2
   rw [if_neg h2]
   have hcnt : ∀ i, lastN l l.length = some i → l[l.length - 1]? = some 10 → (linesD (l.drop (i + 2))).length ≤ 100 := by
    intro i hi h10
    by_cases hd : l.drop (i + 2) = []
    ·rw [hd]; simp [linesD_nil]
    ·have : (lnsD l).length = (linesD (l.drop (i + 2))).length := by
      unfold lnsD splitD; rw [hi]; simp only; rw [if_neg hd, if_pos h10]; simp
     omega
   refine ⟨?_, by omega, hcnt⟩
   unfold openM
   split at h
   ·rename_i hp
    rw [if_pos hp, if_pos hp]
    unfold splitD lnsD splitD at h ⊢
    cases hlast : lastN l l.length with
    | none => rw [hlast] at h; rfl
    | some i =>
     rw [hlast] at h
     simp only at h ⊢
     by_cases hd : l.drop (i + 2) = []
     ·rw [if_pos hd, if_pos hd]; rfl
     ·rw [if_neg hd] at h ⊢
      rw [if_neg hd]
      by_cases h10 : l[l.length - 1]? = some 10
      ·rw [if_pos h10] at h ⊢
       rw [if_pos h10]
       simp only [if_true] at h ⊢
       rw [lnsD_map] at h ⊢
       exact sopL_open ks _ _ [] [] [] [] (fun nm h => by simp) h
      ·rw [if_neg h10, if_neg h10]; rfl
   ·rename_i hp
    rw [if_neg hp, if_neg hp]
    rfl
section
variable {α : Type} {k : Kd α} {e : TypeId} {w w' : World} {B : Nat} {v : Value} {l : List α}
theorem gR_lt (h : k.R e w B (fun _ => True) v l) {n : Nat} (hn : v.ownBlock = some n) : B ≤ n ∧ ∃ cells, w.heap[n]? = some (.cells cells e (0, 0)) := by
 obtain ⟨inner, ho⟩ := Kd.R_own h
 exact ⟨own_base ho n hn, own_typed ho n hn⟩
theorem gR_other (h : k.R e w B (fun _ => True) v l) {row : Option Nat} (hne : v.ownBlock = none ∨ v.ownBlock ≠ row) (hM : ∀ {ok ok' : Nat → Prop} {x : α} {c : List Value}, k.M w B ok x c → k.M w B ok' x c) (hg : w.grownBy w' row) : k.R e w' B (fun _ => True) v l := by
 have h1 : k.R e w B (fun n => v.ownBlock = some n) v l := by
  obtain ⟨h0, inner, ho, hr⟩ := h
  exact ⟨fun k hk => hk, inner, ho, hr.imp_ fun _ _ hp => hM hp⟩
 exact Kd.R_mono (Kd.R_grown h1 hg fun n hn e => by
  rcases hne with hne | hne
  ·rw [hne] at hn; cases hn
  ·exact hne (hn.trans e)) fun _ _ => trivial
theorem gR_kept (h : k.R e w B (fun _ => True) v l) (hE : k.E = []) {g : Nat} (hg : ∀ cells, w.heap[g]? ≠ some (.cells cells e (0, 0))) (hb : ∀ n, n < w.heap.size → n ≠ g → w'.heap[n]? = w.heap[n]?) : k.R e w' B (fun _ => True) v l := by
 have h1 : k.R e w B (fun n => n ≠ g) v l := Kd.R_mono (Kd.R_bound h) fun n hn => by
  obtain ⟨_, _, _, q, hq, cells, hc⟩ := hn
  rw [hE] at hq
  obtain rfl : q = e := by simpa using hq
  rintro rfl
  exact hg cells hc
 exact Kd.R_mono (Kd.R_step h1 fun n hn hlt => hb n hlt hn) fun _ _ => trivial
theorem gR_ne (h : k.R e w B (fun _ => True) v l) {g : Nat} {cells : Array Value} {t : TypeId} (hg : w.heap[g]? = some (.cells cells t (0, 0))) (ht : t ≠ e) : some g ≠ v.ownBlock := by
 intro he
 obtain ⟨_, c, hc⟩ := gR_lt h he.symm
 exact ht (not_both hg hc)
theorem gR_apart {v1 u : Value} {β : Type} {q : Kd β} {m : List β} (hu : q.R e w B (fun _ => True) u m) (hne : v.ownBlock = none ∨ v.ownBlock ≠ u.ownBlock) (hat : v1.ownBlock = v.ownBlock ∨ ∃ b, v1.ownBlock = some b ∧ w.heap.size ≤ b) : v1.ownBlock = none ∨ v1.ownBlock ≠ u.ownBlock := by
 rcases hat with e1 | ⟨b, hb, hle⟩
 ·rw [e1]; exact hne
 ·right
  intro e1
  rw [hb] at e1
  obtain ⟨_, c, hc⟩ := gR_lt hu e1.symm
  have := blk_lt hc
  omega
end
theorem ne_symm' {a b : Option Nat} (h : a = none ∨ a ≠ b) : b = none ∨ b ≠ a := by
 rcases h with h | h
 ·cases b with
  | none => exact .inl rfl
  | some x => right; rw [h]; simp
 ·exact .inr fun e => h e.symm
theorem gfar3 {α : Type} {k : Kd α} {w : World} {N B e : Nat} {v : Value} {xs : List α} (h : k.R e w B (fun _ => True) v xs) (hN : N < B) (u0 u1 u2 : Value) :
  k.R e (((w.setCell ⟨N, 0, none⟩ u0).setCell ⟨N, 1, none⟩ u1).setCell ⟨N, 2, none⟩ u2) N (fun _ => True) v xs :=
 Kd.R_lower (Kd.R_mono (Kd.R_far (p := ⟨N, 2, none⟩) (Kd.R_far (p := ⟨N, 1, none⟩) (Kd.R_far (p := ⟨N, 0, none⟩) (Kd.R_bound h) (fun k hk => by have := hk.2.1; show k ≠ N; omega) u0) (fun k hk => by have := hk.2.1; show k ≠ N; omega) u1) (fun k hk => by have := hk.2.1; show k ≠ N; omega) u2) (fun _ _ => trivial)) (by omega)
structure SSt (w0 w : World) (gN : Nat) (text : ByteArray) (vS vU vn : Value) (sigs unv sn : List S49) : Prop where
 below : Below w0.heap.size w0 w
 bN : w.heap[gN]? = some (.cells #[.string text, vS, vU] 30 (0, 0))
 rS : Kd.R k49 49 w w0.heap.size (fun _ => True) vS sigs
 rU : Kd.R k49 49 w w0.heap.size (fun _ => True) vU unv
 rn : Kd.R k49 49 w w0.heap.size (fun _ => True) vn sn
 su : vS.ownBlock = none ∨ vS.ownBlock ≠ vU.ownBlock
 sn' : vS.ownBlock = none ∨ vS.ownBlock ≠ vn.ownBlock
 un : vU.ownBlock = none ∨ vU.ownBlock ≠ vn.ownBlock
 geN : w0.heap.size ≤ gN
section
variable {w0 w w' : World} {gN : Nat} {text : ByteArray} {vS vU vn v1 : Value} {sigs unv sn l' : List S49}
theorem SSt.step (h : SSt w0 w gN text vS vU vn sigs unv sn) (hb : Below w.heap.size w w') : SSt w0 w' gN text vS vU vn sigs unv sn :=
 {h with below := h.below.trans (hb.mono h.below.size), bN := (hb.block _ (blk_lt h.bN)).trans h.bN, rS := Kd.R_below h.rS hb, rU := Kd.R_below h.rU hb, rn := Kd.R_below h.rn hb }
theorem SSt.grown (h : SSt w0 w gN text vS vU vn sigs unv sn) (hb : Below w0.heap.size w0 w') (hg : w.grownBy w' vn.ownBlock) (hr : Kd.R k49 49 w' w0.heap.size (fun _ => True) v1 l') (hat : v1.ownBlock = vn.ownBlock ∨ ∃ b, v1.ownBlock = some b ∧ w.heap.size ≤ b) :
  SSt w0 w' gN text vS vU v1 sigs unv l' :=
 {h with below := hb, bN := (hg.block _ (blk_lt h.bN) (gR_ne h.rn h.bN (by decide))).trans h.bN, rS := gR_other h.rS h.sn' (fun h => h) hg, rU := gR_other h.rU h.un (fun h => h) hg, rn := hr, sn' := ne_symm' (gR_apart h.rS (ne_symm' h.sn') hat), un := ne_symm' (gR_apart h.rU (ne_symm' h.un) hat) }
theorem SSt.growU (h : SSt w0 w gN text vS vU vn sigs unv sn) (hb : Below w0.heap.size w0 w') (hg : w.grownBy w' vU.ownBlock) (hr : Kd.R k49 49 w' w0.heap.size (fun _ => True) v1 l') (hat : v1.ownBlock = vU.ownBlock ∨ ∃ b, v1.ownBlock = some b ∧ w.heap.size ≤ b) :
  SSt w0 (w'.setCell ⟨gN, 2, none⟩ v1) gN text vS v1 vn sigs l' sn := by
 have bN : w'.heap[gN]? = _ := (hg.block _ (blk_lt h.bN) (gR_ne h.rU h.bN (by decide))).trans h.bN
 have hset : ∀ k, k < w'.heap.size → k ≠ gN → (w'.setCell ⟨gN, 2, none⟩ v1).heap[k]? = w'.heap[k]? := fun k _ hk => Below.heap_setCell w' ⟨gN, 2, none⟩ v1 k hk
 have hno : ∀ cells, w'.heap[gN]? ≠ some (.cells cells 49 (0, 0)) := fun cells e => absurd (not_both bN e) (by decide)
 exact { h with below := hb.setCell h.geN _, bN := blk_put bN 2 _ rfl, rS := gR_kept (gR_other h.rS h.su (fun h => h) hg) rfl hno hset, rU := gR_kept hr rfl hno hset, rn := gR_kept (gR_other h.rn (ne_symm' h.un) (fun h => h) hg) rfl hno hset, su := ne_symm' (gR_apart h.rS (ne_symm' h.su) hat), un := gR_apart h.rn h.un hat }
theorem SSt.growS (h : SSt w0 w gN text vS vU vn sigs unv sn) (hb : Below w0.heap.size w0 w') (hg : w.grownBy w' vS.ownBlock) (hr : Kd.R k49 49 w' w0.heap.size (fun _ => True) v1 l') (hat : v1.ownBlock = vS.ownBlock ∨ ∃ b, v1.ownBlock = some b ∧ w.heap.size ≤ b) :
  SSt w0 (w'.setCell ⟨gN, 1, none⟩ v1) gN text v1 vU vn l' unv sn := by
 have bN : w'.heap[gN]? = _ := (hg.block _ (blk_lt h.bN) (gR_ne h.rS h.bN (by decide))).trans h.bN
 have hset : ∀ k, k < w'.heap.size → k ≠ gN → (w'.setCell ⟨gN, 1, none⟩ v1).heap[k]? = w'.heap[k]? := fun k _ hk => Below.heap_setCell w' ⟨gN, 1, none⟩ v1 k hk
 have hno : ∀ cells, w'.heap[gN]? ≠ some (.cells cells 49 (0, 0)) := fun cells e => absurd (not_both bN e) (by decide)
 exact { h with below := hb.setCell h.geN _, bN := blk_put bN 1 _ rfl, rU := gR_kept (gR_other h.rU (ne_symm' h.su) (fun h => h) hg) rfl hno hset, rS := gR_kept hr rfl hno hset, rn := gR_kept (gR_other h.rn (ne_symm' h.sn') (fun h => h) hg) rfl hno hset, su := gR_apart h.rU h.su hat, sn' := gR_apart h.rn h.sn' hat }
end
def FrN (n : Nat) (ks : List (Nat × Value)) (a : Act) : Prop := a.defers = [] ∧ a.tmps.size = n ∧ ∀ p ∈ ks, a.tmps.getD p.1 undef = p.2
theorem FrN.lit {n : Nat} {lt : (Nat → Value) → Array Value} (hr : ∀ g, (List.range n).map g = (lt g).toList) {ks : List (Nat × Value)} {a : Act} (h : FrN n ks a) : ∃ g : Nat → Value, a = ⟨lt g, []⟩ ∧ ∀ p ∈ ks, g p.1 = p.2 := by
 obtain ⟨h1, h2, h3⟩ := h
 refine ⟨fun i => a.tmps.getD i undef, ?_, h3⟩
 obtain ⟨tmps, defers⟩ := a
 simp only at h1 h2
 subst h1
 have e : tmps.toList = (lt fun i => tmps.getD i undef).toList := by
  rw [← hr]
  refine List.ext_getElem (by simp [h2]) fun i hi hi' => ?_
  have : i < tmps.size := by simpa using hi
  simp [Array.getD, this]
 have e2 := Array.toList_inj.1 e
 rw [← e2]
abbrev Fr' := FrN 120
set_option maxRecDepth 100000 in
def lit' (g : Nat → Value) : Array Value := #[g 0, g 1, g 2, g 3, g 4, g 5, g 6, g 7, g 8, g 9, g 10, g 11, g 12, g 13, g 14, g 15, g 16, g 17, g 18, g 19, g 20, g 21, g 22, g 23, g 24, g 25, g 26, g 27, g 28, g 29, g 30, g 31, g 32, g 33, g 34, g 35, g 36, g 37, g 38, g 39, g 40, g 41, g 42, g 43, g 44, g 45, g 46, g 47, g 48, g 49, g 50, g 51, g 52, g 53, g 54, g 55, g 56, g 57, g 58, g 59, g 60, g 61, g 62, g 63, g 64, g 65, g 66, g 67, g 68, g 69, g 70, g 71, g 72, g 73, g 74, g 75, g 76, g 77, g 78, g 79, g 80, g 81, g 82, g 83, g 84, g 85, g 86, g 87, g 88, g 89, g 90, g 91, g 92, g 93, g 94, g 95, g 96, g 97, g 98, g 99, g 100, g 101, g 102, g 103, g 104, g 105, g 106, g 107, g 108, g 109, g 110, g 111, g 112, g 113, g 114, g 115, g 116, g 117, g 118, g 119]
set_option maxRecDepth 100000 in
theorem range120 (g : Nat → Value) : (List.range 120).map g = (lit' g).toList := by rfl
def SOPost (w : World) (r : Res) (e : Ending) (w' : World) : Prop :=
 ∃ v1 v2 : Value, e = .returned (.tuple #[.agg #[.string r.1, v1, v2], .int .i64 r.2.2.2.1, .bool r.2.2.2.2]) ∧ Kd.R k49 49 w' w.heap.size (fun _ => True) v1 r.2.1 ∧ Kd.R k49 49 w' w.heap.size (fun _ => True) v2 r.2.2.1 ∧ Below w.heap.size w w'
noncomputable def sBlk (n : Nat) : Code := (Tryz.f6.body.bind (blkNo n)).getD .skip
abbrev FrS (A : Option Addr) (nk ck g4 : Nat) (text : ByteArray) (gN : Nat) (An : Option Addr) (nn cn : Nat) (AL : Option Addr) (nL cL : Nat) (i : Int) : List (Nat × Value) :=
 [(1, .slice A nk ck), (4, .pointer (some ⟨g4, 0, none⟩)), (7, .string text), (10, .pointer (some ⟨gN, 0, none⟩)), (11, .slice An nn cn), (46, .slice AL nL cL), (47, .int .i64 (nL : Int)), (48, .int .i64 i)]
def SI (w0 : World) (ks : List S56) (res : Res) (lines : List (List UInt8)) (A : Option Addr) (ck g4 : Nat) (text : ByteArray) (gN : Nat) (AL : Option Addr) (cL : Nat) (a : Act) (w : World) : Prop :=
 ∃ (i : Nat) (sigs unv sn : List S49) (vS vU : Value) (An : Option Addr) (cn : Nat), i ≤ lines.length ∧ Fr' (FrS A ks.length ck g4 text gN An sn.length cn AL lines.length cL (i : Int)) a ∧ SSt w0 w gN text vS vU (.slice An sn.length cn) sigs unv sn ∧
  sigs.length ≤ i ∧ unv.length ≤ i ∧ sn.length ≤ i ∧ sopL ks text (lines.drop i) sn sigs unv = res
def Smu (L : Nat) (a : Act) (_ : World) : Nat := L - (intOf (a.tmps.getD 48 undef)).toNat
def SEnd (w0 : World) (res : Res) (text : ByteArray) (g4 gN : Nat) (a : Act) (w : World) : Prop :=
 ∃ (sigs unv sn : List S49) (vS vU vn : Value), Fr' [(4, .pointer (some ⟨g4, 0, none⟩)), (10, .pointer (some ⟨gN, 0, none⟩))] a ∧ SSt w0 w gN text vS vU vn sigs unv sn ∧ (if sigs = [] then (text, [], unv, 3, true) else (text, sigs, unv, 0, true)) = res
theorem info37' : (Tryz.prog.info? 49).map (fun i => (i.zero, i.size, i.bytes)) = some (some (.agg #[(.string ⟨#[]⟩), (.int .u32 0), (.string ⟨#[]⟩)]), k49.sz, 40) := by kernel_rfl
structure SG (w w0 : World) (ks : List S56) (A : Option Addr) (ck : Nat) (lines : List (List UInt8)) (AL : Option Addr) (cL : Nat) : Prop where
 hk : Kd.C k66 w0 A ks.length (ks.map key59)
 hck : ks.length ≤ ck
 hL : Kd.string.C w0 AL lines.length (lines.map S)
 b4 : w0.heap[w.heap.size]? = some (.cells #[.string ⟨#[]⟩, .slice none 0 0, .slice none 0 0] 30 (0, 0))
 hbw : Below w.heap.size w w0
 hks : ks.length ≤ 2147483647
 hkt : ∀ x ∈ ks, x.f2.length ≤ 2147483647
 hn : lines.length ≤ 100
 hln : ∀ ln ∈ lines, ln.length ≤ 2147483647
section
variable {w w0 W : World} {ks : List S56} {A : Option Addr} {ck : Nat} {lines : List (List UInt8)} {AL : Option Addr} {cL : Nat}
theorem SG.blk (h : SG w w0 ks A ck lines AL cL) (hb : Below w0.heap.size w0 W) : W.heap[w.heap.size]? = some (.cells #[.string ⟨#[]⟩, .slice none 0 0, .slice none 0 0] 30 (0, 0)) := (hb.block _ (blk_lt h.b4)).trans h.b4
theorem SG.none (h : SG w w0 ks A ck lines AL cL) (hb : Below w0.heap.size w0 W) (n : Int) (b : Bool) : SOPost w (⟨#[]⟩, [], [], n, b) (.returned (.tuple #[.agg #[.string ⟨#[]⟩, .slice none 0 0, .slice none 0 0], .int .i64 n, .bool b])) (((W.setCell ⟨w.heap.size, 0, none⟩ (.string ⟨#[]⟩)).setCell ⟨w.heap.size, 1, none⟩ (.slice none 0 0)).setCell ⟨w.heap.size, 2, none⟩ (.slice none 0 0)) :=
 ⟨_, _, rfl, Kd.R_nil _ _ _ _ _, Kd.R_nil _ _ _ _ _, belowT (h.hbw.trans (hb.mono h.hbw.size)) _ _ _⟩
theorem SG.line (h : SG w w0 ks A ck lines AL cL) (l : List UInt8) (hl : l ∈ lines) : ∀ W, Calls Tryz.prog 19 #[.string (S l)] W fun e w' => e = .returned (.tuple #[.agg #[.string (S (lineD l).1), .int .u32 ((lineD l).2.1 : Int), .string (S (lineD l).2.2.1)], .string (S (lineD l).2.2.2.1), .bool (lineD l).2.2.2.2.1, .bool (lineD l).2.2.2.2.2]) ∧ Below W.heap.size W w' := fun W =>
 spec_Line.calls (S l) _ _ _ _ _ _ W (by
  unfold spec_Line.f
  rw [if_pos (by rw [S_sz]; exact h.hln _ hl)]
  rfl)
theorem SG.find (h : SG w w0 ks A ck lines AL cL) (nm : ByteArray) (g : Int) : ∀ W, Below w0.heap.size w0 W → Calls Tryz.prog 20 #[.slice A ks.length ck, .string nm, .int .u32 g] W fun e w' => e = .returned (.int .i64 (findI nm g ks 0)) ∧ Below W.heap.size W w' := fun W hW => by
 have h2 := spec_Find.calls (ks.length + 1) A ck (ks.map key59) nm g (findI nm g ks 0) W (by rw [List.length_map]; exact Kd.C_below h.hk hW) (by rw [List.length_map]; exact h.hck) (find_f ks (Nat.le_trans h.hks (by omega)) _ _ _ (by omega))
 rw [List.length_map] at h2
 exact h2
end
theorem hasC (l : List S49) (hk : l.length ≤ 2147483647) (x : S49) (A : Option Addr) (c : Nat) (W : World) (h : l.length ≤ c ∧ Kd.C k49 W A l.length l) :
  Calls Tryz.prog 21 #[.slice A l.length c, .agg #[.string x.f0, .int .u32 x.f1, .string x.f2]] W fun e w' => e = .returned (.bool (hasB l x.f0 x.f1 x.f2)) ∧ Below W.heap.size W w' :=
 spec_has.calls (l.length + 1) A c l x.f0 x.f1 x.f2 _ W h.2 h.1 (has_f l hk _ _ _ _ (by omega))
theorem one37 (w : World) (N : Nat) (nm : ByteArray) (h : Int) (hN : N < w.heap.size) : Kd.R k49 49 (w.alloc (.cells #[.string nm, .int .u32 h, .string ⟨#[]⟩] 49)) (N + 1) (fun _ => True) (.slice (some ⟨w.heap.size, 0, none⟩) 1 1) [⟨nm, h, ⟨#[]⟩⟩] := by
 refine ⟨fun _ _ => trivial, OwnRow.lit (inner := [.string nm, .int .u32 h, .string ⟨#[]⟩]) w (N + 1) ?_ hN (by simp)⟩
 have hr := Reps.snoc (ps := ([] : List S49)) (cs := []) (c := [.string nm, .int .u32 h, .string ⟨#[]⟩]) (p := ⟨nm, h, ⟨#[]⟩⟩) (Reps.none (k49.M (w.alloc (.cells #[.string nm, .int .u32 h, .string ⟨#[]⟩] 49)) (N + 1) (fun k => True ∧ some k ≠ (Value.slice (some ⟨w.heap.size, 0, none⟩) 1 1).ownBlock)) k49.sz) ?_ rfl
 ·exact hr
 ·exact k49_mkM _ _ _ _
set_option maxRecDepth 100000 in
set_option maxHeartbeats 4000000 in
theorem sloop (w w0 W0 : World) (ks : List S56) (res : Res) (lines : List (List UInt8)) (A : Option Addr) (ck : Nat) (text : ByteArray) (gN : Nat) (AL : Option Addr) (cL : Nat) (H : SG w w0 ks A ck lines AL cL)
  (a : Act) (hI : SI w0 ks res lines A ck w.heap.size text gN AL cL a W0) (K : Act → World → Prop) (Q : Exit → Act → World → Prop) (hE : ∀ a' w', SEnd w0 res text w.heap.size gN a' w' → K a' w') (hQ : Q = bodyPost Tryz.prog Tryz.f6 (SOPost w res)) :
  (sBlk 0).wp Tryz.prog (Exit.then K Q) a W0 := by
 subst hQ
 conv => arg 2; whnf
 have HH := Lib.hid H
 have HE := Lib.hid hE
 clear H hE
 refine wp_block ?_
 refine wp_loop (SI w0 ks res lines A ck w.heap.size text gN AL cL) (Smu lines.length) hI ?_
 clear hI
 rintro a wr ⟨i, sigs, unv, sn, vS, vU, An, cn, hi, hF, hS, hl1, hl2, hl3, hres⟩
 obtain ⟨AS, cS, rfl⟩ := Kd.R_slice hS.rS
 obtain ⟨AU, cU, rfl⟩ := Kd.R_slice hS.rU
 have HS := Lib.hid hS
 have HRES := Lib.hid hres
 have hn := HH.out.hn
 clear hS hres
 obtain ⟨g, rfl, hg⟩ := hF.lit range120
 clear hF
 simp only [List.forall_mem_cons] at hg
 obtain ⟨k1, k4, k7, k10, k11, k46, k47, k48, -⟩ := hg
 unfold lit'
 simp only [k1, k4, k7, k10, k11, k46, k47, k48]
 clear k1 k4 k7 k10 k11 k46 k47 k48
 by_cases hlt : i < lines.length
 ·have h1 : decide ((i : Int) < (lines.length : Int)) = true := decide_eq_true (by omega)
  have h2 : decide (i < lines.length) = true := decide_eq_true hlt
  obtain ⟨ad, rfl, hx⟩ := Kd.at_string HH.out.hL (i : Int) (by omega) (by omega)
  rw [show rdOf ByteArray.empty (lines.map S) (i : Int) = S lines[i] by unfold rdOf; simp [List.getElem?_eq_getElem hlt], Int.toNat_natCast] at hx
  replace hx := pw_cell_below HS.out.below hx
  have hline := HH.out.line lines[i] (List.getElem_mem hlt)
  rw [List.drop_eq_getElem_cons hlt, sopL] at HRES
  have hfind := HH.out.find (S (lineD lines[i]).1) ((lineD lines[i]).2.1 : Int)
  have hcur : curL lines[i] = ⟨S (lineD lines[i]).1, ((lineD lines[i]).2.1 : Int), S (lineD lines[i]).2.2.1⟩ := rfl
  have hkey : keyL lines[i] = ⟨S (lineD lines[i]).1, ((lineD lines[i]).2.1 : Int), ⟨#[]⟩⟩ := rfl
  rw [hcur, hkey] at HRES
  clear hcur hkey
  generalize hD : lineD lines[i] = D at *
  obtain ⟨nmL, hh, b64L, sgL, fine, told⟩ := D
  simp only at hline HRES hfind
  have HLINE := Lib.hid hline
  have HFIND := Lib.hid hfind
  clear hline hfind
  go_upto_region 12 with (go_at_call 19; with_reducible refine (HLINE.out _).mono ?_; rintro e w3 ⟨rfl, hb3⟩; have HLT := Lib.hid (And.intro (fun n hn => blk_lt (gR_lt (HS.out.step hb3).rS (n := n) hn).2.choose_spec) (fun n hn => blk_lt (gR_lt (HS.out.step hb3).rn (n := n) hn).2.choose_spec)); have HS3 := Lib.hid ((HS.out.step hb3).step ((Below.refl w3.heap.size w3).alloc (Nat.le_refl _) (.cells #[.string (S nmL), .int .u32 (hh : Int), .string (S b64L)] 49))); have HX3 := Lib.hid (heap_alloc_new w3 (.cells #[.string (S nmL), .int .u32 (hh : Int), .string (S b64L)] 49)); clear hb3)
  generalize w3.alloc (.cells #[.string (S nmL), .int .u32 (hh : Int), .string (S b64L)] 49) = W3 at *
  generalize w3.heap.size = g14 at *
  clear HS hx
  cases told with
  | false =>
   have HRE := Lib.hid (show untold = res from HRES.out)
   obtain ⟨hs0, hs1, hs2, hf0, hf1, hf2⟩ := three (HH.out.blk HS3.out.below)
   go_wp2_with fail
   refine bodyPost_ret (results_ctt rfl _ _ w.heap.size 30 _ (0, 0) _ rfl (put3 (HH.out.blk HS3.out.below) _ _ _) Tryz.underlying30 rfl (by kernel_rfl)) rfl ?_
   rw [← HRE.out]
   exact HH.out.none HS3.out.below _ _
  | true =>
   cases fine with
   | false =>
    have HRE := Lib.hid (show malformed = res from HRES.out)
    obtain ⟨hs0, hs1, hs2, hf0, hf1, hf2⟩ := three (HH.out.blk HS3.out.below)
    go_wp2_with fail
    refine bodyPost_ret (results_ctt rfl _ _ w.heap.size 30 _ (0, 0) _ rfl (put3 (HH.out.blk HS3.out.below) _ _ _) Tryz.underlying30 rfl (by kernel_rfl)) rfl ?_
    rw [← HRE.out]
    exact HH.out.none HS3.out.below _ _
   | true =>
    rw [if_neg (by decide), if_neg (by decide)] at HRES
    obtain ⟨c0, c1, c2, -, -, -⟩ := three HX3.out
    go_upto_region 17 with (go_at_call 20; with_reducible refine (HFIND.out _ HS3.out.below).mono ?_; rintro e w4 ⟨rfl, hb4⟩; have HS4 := Lib.hid (HS3.out.step hb4); have HX4 := Lib.hid ((hb4.block _ (blk_lt HX3.out)).trans HX3.out); clear hb4)
    clear c0 c1 c2 HX3 HS3 HFIND HLINE
    obtain ⟨c0, c1, c2, -, -, -⟩ := three HX4.out
    obtain ⟨n0, n1, n2, m0, m1, m2⟩ := three HS4.out.bN
    rcases findI_spec (S nmL) (hh : Int) ks 0 with ⟨e1, e2⟩ | ⟨j, x, e1, e2, e3⟩
    ·rw [e2] at HRES
     rw [e1]
     have hm := hasB_iff unv (S nmL) (hh : Int) (S b64L)
     have hhas := hasC unv (by omega) ⟨S nmL, (hh : Int), S b64L⟩ AU cU w4 (Kd.R_reads' HS4.out.rU).2
     have HHAS := Lib.hid hhas
     clear hhas
     by_cases hin : (⟨S nmL, (hh : Int), S b64L⟩ : S49) ∈ unv
     ·rw [hm.2 hin] at HHAS
      simp only [if_pos hin] at HRES
      clear hm
      go_wp2_with (go_at_call 21; with_reducible refine HHAS.out.mono ?_; rintro e w5 ⟨rfl, hb5⟩; have HS5 := Lib.hid (HS4.out.step hb5); clear hb5)
      exact ⟨⟨i + 1, sigs, unv, sn, _, _, An, cn, by omega, ⟨rfl, rfl, by repeat (first | exact ks_nil _ | refine ks_cons (by first | rfl | exact congrArg (Value.int .i64) (Int.natCast_add i 1).symm | (rw [List.length_append]; rfl)) ?_)⟩, HS5.out, by omega, by omega, by omega, HRES.out⟩, by show lines.length - ((i : Int) + 1).toNat < lines.length - (i : Int).toNat; omega⟩
     ·rw [Bool.eq_false_iff.2 (fun e => hin (hm.1 e))] at HHAS
      simp only [if_neg hin] at HRES
      clear hm
      go_wp2_with (first
       | (go_at_call 21; with_reducible refine HHAS.out.mono ?_; rintro e w5 ⟨rfl, hb5⟩; have HS5 := Lib.hid (HS4.out.step hb5); have HX5 := Lib.hid ((hb5.block _ (blk_lt HX4.out)).trans HX4.out); obtain ⟨c0, c1, c2, -, -, -⟩ := three HX5.out; obtain ⟨n0, n1, n2, m0, m1, m2⟩ := three HS5.out.bN; clear hb5)
       | (at_builtin; refine Kd.R_append k49 (w0 := w0) w0.heap.size rfl _ _ 28 49 _ 40 rfl Tryz.underlying28 info37' rfl (by decide) (by decide) (.slice AU unv.length cU) unv (⟨S nmL, (hh : Int), S b64L⟩ : S49) [.string (S nmL), .int .u32 (hh : Int), .string (S b64L)] (fun _ => True) (fun _ => False) rfl rfl (k49_mkM _ _ _ _) (fun _ h => h.elim) (fun _ _ => trivial) HS5.out.rU HS5.out.below HS5.out.below.size (by omega) ?_; intro v1 w6 hr6 hb6 hg6 hat6; obtain ⟨A6, c6, hv6⟩ := Kd.R_slice hr6; rw [List.length_append, List.length_singleton] at hv6; subst hv6; have HR6 := Lib.hid hr6; have HB6 := Lib.hid hb6; have HG6 := Lib.hid hg6; have HAT := Lib.hid hat6; have hbN6 := (hg6.block gN (blk_lt HS5.out.bN) (gR_ne HS5.out.rU HS5.out.bN (by decide))).trans HS5.out.bN; obtain ⟨-, -, q2, -, -, z2⟩ := three hbN6; clear hr6 hb6 hg6 hat6 hbN6 n0 n1 n2 m0 m1 m2)
       | fail)
      exact ⟨⟨i + 1, sigs, unv ++ [_], sn, _, _, An, cn, by omega, ⟨rfl, rfl, by repeat (first | exact ks_nil _ | refine ks_cons (by first | rfl | exact congrArg (Value.int .i64) (Int.natCast_add i 1).symm | (rw [List.length_append]; rfl)) ?_)⟩, HS5.out.growU HB6.out HG6.out HR6.out HAT.out, by omega, by rw [List.length_append, List.length_singleton]; omega, by omega, HRES.out⟩, by show lines.length - ((i : Int) + 1).toNat < lines.length - (i : Int).toNat; omega⟩
    ·rw [e3] at HRES
     rw [e1, Nat.zero_add]
     have hj : j < ks.length := (List.getElem?_eq_some_iff.1 e2).1
     have hxj : ks[j] = x := (List.getElem?_eq_some_iff.1 e2).2
     have q1 : decide ((j : Int) < 0) = false := decide_eq_false (by omega)
     have hm := hasB_iff sn (S nmL) (hh : Int) ⟨#[]⟩
     clear n0 n1 n2 m0 m1 m2
     go_upto_region 21 with fail
     have HLU := Lib.hid (fun n hn => blk_lt (gR_lt HS4.out.rn (n := n) hn).2.choose_spec)
     have HS5 := Lib.hid (HS4.out.step ((Below.refl w4.heap.size w4).alloc (Nat.le_refl _) (.cells #[.string (S nmL), .int .u32 (hh : Int), .string ⟨#[]⟩] 49)))
     have HX5 := Lib.hid ((((Below.refl w4.heap.size w4).alloc (Nat.le_refl _) (.cells #[.string (S nmL), .int .u32 (hh : Int), .string ⟨#[]⟩] 49)).block _ (blk_lt HX4.out)).trans HX4.out)
     have HY5 := Lib.hid (heap_alloc_new w4 (.cells #[.string (S nmL), .int .u32 (hh : Int), .string ⟨#[]⟩] 49))
     generalize w4.alloc (.cells #[.string (S nmL), .int .u32 (hh : Int), .string ⟨#[]⟩] 49) = W5 at *
     generalize w4.heap.size = g19 at *
     have hhas := hasC sn (by omega) ⟨S nmL, (hh : Int), ⟨#[]⟩⟩ An cn W5 (Kd.R_reads' HS5.out.rn).2
     have HHAS := Lib.hid hhas
     clear hhas c0 c1 c2 HS4 HX4
     obtain ⟨d0, d1, d2, -, -, -⟩ := three HY5.out
     by_cases hin : (⟨S nmL, (hh : Int), ⟨#[]⟩⟩ : S49) ∈ sn
     ·rw [hm.2 hin] at HHAS
      simp only [if_pos hin] at HRES
      clear hm
      go_wp2_with (go_at_call 21; with_reducible refine HHAS.out.mono ?_; rintro e w6 ⟨rfl, hb6⟩; have HS6 := Lib.hid (HS5.out.step hb6); clear hb6)
      exact ⟨⟨i + 1, sigs, unv, sn, _, _, An, cn, by omega, ⟨rfl, rfl, by repeat (first | exact ks_nil _ | refine ks_cons (by first | rfl | exact congrArg (Value.int .i64) (Int.natCast_add i 1).symm | (rw [List.length_append]; rfl)) ?_)⟩, HS6.out, by omega, by omega, by omega, HRES.out⟩, by show lines.length - ((i : Int) + 1).toNat < lines.length - (i : Int).toNat; omega⟩
     ·rw [Bool.eq_false_iff.2 (fun e => hin (hm.1 e))] at HHAS
      simp only [if_neg hin] at HRES
      clear hm
      obtain ⟨ad2, A2, c2', A3, c3', rfl, x0, x1, x2, x3, l2, g2, l3, g3⟩ := at_T66 HH.out.hk (j : Int) (by omega) (by omega)
      rw [rd59 ks j hj, hxj, Int.toNat_natCast] at x0 x1 x2 x3
      rw [rd59 ks j hj, hxj] at l2 g2 l3 g3
      have hacc : ∀ W, Below w0.heap.size w0 W → Calls Tryz.prog 22 #[.agg #[.string (key59 x).f0, .int .u32 (key59 x).f1, .slice A2 (key59 x).f2.length c2', .slice A3 (key59 x).f3.length c3'], .string text, .string (S sgL)] W fun e w' => e = .returned (.bool (accS x.f2 x.f3 text (S sgL))) ∧ Below W.heap.size W w' := fun W hW =>
       spec_Accepts.calls (x.f2.length + 1) x.f0 x.f1 A2 c2' x.f2 A3 c3' x.f3 text (S sgL) _ W (Kd.C_below g2 hW) l2 (Kd.C_below g3 hW) l3 (acc_f x (HH.out.hkt x (List.mem_of_getElem? e2)) text (S sgL) _ (by omega))
      have HACC := Lib.hid hacc
      have j1 : (j : Int) < (ks.length : Int) := by omega
      have X0 := Lib.hid (And.intro x0 (And.intro x1 (And.intro x2 x3)))
      clear hacc x0 x1 x2 x3 l2 g2 l3 g3 hxj
      have hne14 : ∀ {n : Nat}, (Value.slice An sn.length cn).ownBlock = some n → n < g14 := fun h => HLT.out.2 _ h
      have hns14 : ∀ {n : Nat}, (Value.slice AS sigs.length cS).ownBlock = some n → n < g14 := fun h => HLT.out.1 _ h
      have HNE := Lib.hid (show some g14 ≠ (Value.slice An sn.length cn).ownBlock ∧ some g19 ≠ (Value.slice An sn.length cn).ownBlock from ⟨fun e => Nat.lt_irrefl _ (hne14 e.symm), fun e => Nat.lt_irrefl _ (HLU.out _ e.symm)⟩)
      clear hne14 hns14 HLT HLU
      cases ha : accS x.f2 x.f3 text (S sgL) with
      | true =>
       rw [ha] at HRES HACC
       simp only [if_true] at HRES
       go_wp2_with (first
        | (go_at_call 21; with_reducible refine HHAS.out.mono ?_; rintro e w6 ⟨rfl, hb6⟩; have HS6 := Lib.hid (HS5.out.step hb6); have HX6 := Lib.hid ((hb6.block _ (blk_lt HX5.out)).trans HX5.out); have HY6 := Lib.hid ((hb6.block _ (blk_lt HY5.out)).trans HY5.out); obtain ⟨d0, d1, d2, -, -, -⟩ := three HY6.out; clear hb6)
        | (at_builtin; refine Kd.R_append k49 (w0 := w0) w0.heap.size rfl _ _ 28 49 _ 40 rfl Tryz.underlying28 info37' rfl (by decide) (by decide) (.slice An sn.length cn) sn (⟨S nmL, (hh : Int), ⟨#[]⟩⟩ : S49) [.string (S nmL), .int .u32 (hh : Int), .string ⟨#[]⟩] (fun _ => True) (fun _ => False) rfl rfl (k49_mkM _ _ _ _) (fun _ h => h.elim) (fun _ _ => trivial) HS6.out.rn HS6.out.below HS6.out.below.size (by omega) ?_; intro v7 w7 hr7 hb7 hg7 hat7; obtain ⟨A7, c7, hv7⟩ := Kd.R_slice hr7; subst hv7; have HS7 := Lib.hid (HS6.out.grown hb7 hg7 hr7 hat7); have HX7 := Lib.hid ((hg7.block _ (blk_lt HX6.out) HNE.out.1).trans HX6.out); have HY7 := Lib.hid ((hg7.block _ (blk_lt HY6.out) HNE.out.2).trans HY6.out); obtain ⟨y0, y1, y2, y3⟩ := X0.out; replace y0 := pw_cell_below HS7.out.below y0; replace y1 := pw_cell_below HS7.out.below y1; replace y2 := pw_cell_below HS7.out.below y2; replace y3 := pw_cell_below HS7.out.below y3; clear hr7 hb7 hg7 hat7)
        | (go_at_call 22; with_reducible refine (HACC.out _ HS7.out.below).mono ?_; rintro e w8 ⟨rfl, hb8⟩; have HS8 := Lib.hid (HS7.out.step hb8); have HX8 := Lib.hid ((hb8.block _ (blk_lt HX7.out)).trans HX7.out); have HY8 := Lib.hid ((hb8.block _ (blk_lt HY7.out)).trans HY7.out); obtain ⟨c0, c1, c2, -, -, -⟩ := three HX8.out; obtain ⟨d0, d1, d2, -, -, -⟩ := three HY8.out; obtain ⟨n0, n1, n2, m0, m1, m2⟩ := three HS8.out.bN; obtain ⟨hs0, hs1, hs2, hf0, hf1, hf2⟩ := three (HH.out.blk HS8.out.below); clear hb8)
        | (at_builtin; refine Kd.R_append k49 (w0 := w0) w0.heap.size rfl _ _ 28 49 _ 40 rfl Tryz.underlying28 info37' rfl (by decide) (by decide) (.slice AS sigs.length cS) sigs (⟨S nmL, (hh : Int), S b64L⟩ : S49) [.string (S nmL), .int .u32 (hh : Int), .string (S b64L)] (fun _ => True) (fun _ => False) rfl rfl (k49_mkM _ _ _ _) (fun _ h => h.elim) (fun _ _ => trivial) HS8.out.rS HS8.out.below HS8.out.below.size (by omega) ?_; intro v9 w9 hr9 hb9 hg9 hat9; obtain ⟨A9, c9, hv9⟩ := Kd.R_slice hr9; rw [List.length_append, List.length_singleton] at hv9; subst hv9; have HR9 := Lib.hid hr9; have HB9 := Lib.hid hb9; have HG9 := Lib.hid hg9; have HAT9 := Lib.hid hat9; have hbN9 := (hg9.block gN (blk_lt HS8.out.bN) (gR_ne HS8.out.rS HS8.out.bN (by decide))).trans HS8.out.bN; obtain ⟨-, q2, -, -, z2, -⟩ := three hbN9; clear hr9 hb9 hg9 hat9 hbN9 n0 n1 n2 m0 m1 m2)
        | fail)
       exact ⟨⟨i + 1, sigs ++ [(⟨S nmL, (hh : Int), S b64L⟩ : S49)], unv, sn ++ [(⟨S nmL, (hh : Int), ⟨#[]⟩⟩ : S49)], _, _, A7, c7, by omega, ⟨rfl, rfl, by repeat (first | exact ks_nil _ | refine ks_cons (by first | rfl | exact congrArg (Value.int .i64) (Int.natCast_add i 1).symm | (rw [List.length_append]; rfl)) ?_)⟩, HS8.out.growS HB9.out HG9.out HR9.out HAT9.out, by rw [List.length_append, List.length_singleton]; omega, by omega, by rw [List.length_append, List.length_singleton]; omega, HRES.out⟩, by show lines.length - ((i : Int) + 1).toNat < lines.length - (i : Int).toNat; omega⟩
      | false =>
       rw [ha] at HRES HACC
       have HRE := Lib.hid (show ((⟨#[]⟩, [⟨S nmL, (hh : Int), ⟨#[]⟩⟩], [], 2, true) : Res) = res from HRES.out)
       go_upto_region 24 with (first
        | (go_at_call 21; with_reducible refine HHAS.out.mono ?_; rintro e w6 ⟨rfl, hb6⟩; have HS6 := Lib.hid (HS5.out.step hb6); have HX6 := Lib.hid ((hb6.block _ (blk_lt HX5.out)).trans HX5.out); have HY6 := Lib.hid ((hb6.block _ (blk_lt HY5.out)).trans HY5.out); obtain ⟨d0, d1, d2, -, -, -⟩ := three HY6.out; clear hb6)
        | (at_builtin; refine Kd.R_append k49 (w0 := w0) w0.heap.size rfl _ _ 28 49 _ 40 rfl Tryz.underlying28 info37' rfl (by decide) (by decide) (.slice An sn.length cn) sn (⟨S nmL, (hh : Int), ⟨#[]⟩⟩ : S49) [.string (S nmL), .int .u32 (hh : Int), .string ⟨#[]⟩] (fun _ => True) (fun _ => False) rfl rfl (k49_mkM _ _ _ _) (fun _ h => h.elim) (fun _ _ => trivial) HS6.out.rn HS6.out.below HS6.out.below.size (by omega) ?_; intro v7 w7 hr7 hb7 hg7 hat7; obtain ⟨A7, c7, hv7⟩ := Kd.R_slice hr7; subst hv7; have HS7 := Lib.hid (HS6.out.grown hb7 hg7 hr7 hat7); have HX7 := Lib.hid ((hg7.block _ (blk_lt HX6.out) HNE.out.1).trans HX6.out); have HY7 := Lib.hid ((hg7.block _ (blk_lt HY6.out) HNE.out.2).trans HY6.out); obtain ⟨y0, y1, y2, y3⟩ := X0.out; replace y0 := pw_cell_below HS7.out.below y0; replace y1 := pw_cell_below HS7.out.below y1; replace y2 := pw_cell_below HS7.out.below y2; replace y3 := pw_cell_below HS7.out.below y3; clear hr7 hb7 hg7 hat7)
        | (go_at_call 22; with_reducible refine (HACC.out _ HS7.out.below).mono ?_; rintro e w8 ⟨rfl, hb8⟩; have HS8 := Lib.hid (HS7.out.step hb8); have HX8 := Lib.hid ((hb8.block _ (blk_lt HX7.out)).trans HX7.out); have HY8 := Lib.hid ((hb8.block _ (blk_lt HY7.out)).trans HY7.out); obtain ⟨c0, c1, c2, -, -, -⟩ := three HX8.out; obtain ⟨d0, d1, d2, -, -, -⟩ := three HY8.out; obtain ⟨n0, n1, n2, m0, m1, m2⟩ := three HS8.out.bN; obtain ⟨hs0, hs1, hs2, hf0, hf1, hf2⟩ := three (HH.out.blk HS8.out.below); clear hb8)
        | fail)
       have hb4 := Lib.hid ((Below.heap_alloc w8 (.cells #[.string (S nmL), .int .u32 (hh : Int), .string ⟨#[]⟩] 49) _ (blk_lt (HH.out.blk HS8.out.below))).trans (HH.out.blk HS8.out.below))
       clear hs0 hs1 hs2 hf0 hf1 hf2 c0 c1 c2 n0 n1 n2 m0 m1 m2
       obtain ⟨hs0, hs1, hs2, hf0, hf1, hf2⟩ := three hb4.out
       go_wp2_with fail
       refine bodyPost_ret (results_ctt rfl _ _ w.heap.size 30 _ (0, 0) _ rfl (put3 hb4.out _ _ _) Tryz.underlying30 rfl (by kernel_rfl)) rfl ?_
       rw [← HRE.out]
       have hB8 := HH.out.hbw.trans (HS8.out.below.mono HH.out.hbw.size)
       exact ⟨_, _, rfl, gfar3 (one37 w8 _ (S nmL) (hh : Int) (blk_lt (HH.out.blk HS8.out.below))) (Nat.lt_succ_self _) _ _ _, Kd.R_nil _ _ _ _ _, belowT (hB8.alloc hB8.size _) _ _ _⟩
 ·have h1 : decide ((i : Int) < (lines.length : Int)) = false := decide_eq_false (by omega)
  have h2 : decide (i < lines.length) = false := decide_eq_false hlt
  rw [List.drop_eq_nil_of_le (by omega), sopL] at HRES
  go_wp2_with fail
  exact HE.out _ _ ⟨sigs, unv, sn, _, _, _, ⟨rfl, rfl, by repeat (first | exact ks_nil _ | refine ks_cons rfl ?_)⟩, HS.out, HRES.out⟩
set_option maxRecDepth 100000 in
set_option maxHeartbeats 4000000 in
theorem sopenC (ks : List S56) (l : List UInt8) (hl : l.length ≤ 2147483647) (hks : ks.length ≤ 2147483647) (hkt : ∀ x ∈ ks, x.f2.length ≤ 2147483647) (w : World) (A : Option Addr) (c : Nat) (hr : Kd.C k66 w A ks.length (ks.map key59)) (hc : ks.length ≤ c) :
  Calls Tryz.prog 6 #[.string (S l), .slice A ks.length c] w (SOPost w (sopM ks l)) := by
 have HR := Lib.hid hr
 have HC := Lib.hid hc
 have HKT := Lib.hid hkt
 have hsp := split_f l hl (l.length + l.length + 5) (by omega)
 have HSP := Lib.hid hsp
 have HLEN := Lib.hid (lnsD_len l)
 have hls := lnsD_S l
 generalize hres : sopM ks l = res
 have HRES := Lib.hid hres
 unfold sopM at HRES
 generalize lnsD l = lines at *
 generalize splitD l = sp at *
 obtain ⟨text, ls, ok⟩ := sp
 simp only at hls
 subst hls
 clear hr hc hkt hsp hres
 go_enter Tryz.func6, Tryz.ntmps6
 go_upto_region 2 with (go_at_call 17; with_reducible refine (spec_Split.calls _ (S l) text (lines.map S) ok _ HSP.out).mono ?_; rintro e w1 ⟨v1, rfl, hr1, hb1⟩; obtain ⟨AL, cL, rfl⟩ := Kd.R_slice hr1; have HR1 := Lib.hid hr1; have HB1 := Lib.hid hb1; clear hr1 hb1)
 have hbk : w1.heap[w.heap.size]? = some (.cells #[.string ⟨#[]⟩, .slice none 0 0, .slice none 0 0] 30 (0, 0)) := (HB1.out.block _ (by simp)).trans (heap_alloc_new w _)
 obtain ⟨hs0, hs1, hs2, hf0, hf1, hf2⟩ := three hbk
 have hB1 : Below w.heap.size w w1 := ((Below.refl _ _).alloc (Nat.le_refl _) _).trans (HB1.out.mono (by simp))
 have HB := Lib.hid hB1
 have HBK := Lib.hid hbk
 have hrd := (Kd.R_reads' HR1.out).2
 rw [List.length_map] at hrd
 have HRD := Lib.hid hrd
 clear hbk hB1 HB1 HR1 hrd HSP
 have hlen : (lines.map S).length = lines.length := List.length_map _
 by_cases h1 : 2000 < l.length
 ·have c1 : decide ((2000 : Int) < ((S l).size : Int)) = true := by rw [S_sz]; exact decide_eq_true (by omega)
  have HRE := Lib.hid (show untold = res by rw [← HRES.out, if_pos h1])
  clear h1
  go_wp2_with fail
  refine bodyPost_ret (results_ctt rfl _ _ w.heap.size 30 _ (0, 0) _ rfl (put3 HBK.out _ _ _) Tryz.underlying30 rfl (by kernel_rfl)) rfl ?_
  rw [← HRE.out]
  exact ⟨_, _, rfl, Kd.R_nil _ _ _ _ _, Kd.R_nil _ _ _ _ _, belowT HB.out _ _ _⟩
 ·have c1 : decide ((2000 : Int) < ((S l).size : Int)) = false := by rw [S_sz]; exact decide_eq_false (by omega)
  by_cases h2 : 100 < lines.length
  ·have c2 : decide ((100 : Int) < (lines.length : Int)) = true := decide_eq_true (by omega)
   have HRE := Lib.hid (show untold = res by rw [← HRES.out, if_neg h1, if_pos h2])
   clear h1 h2
   go_wp2_with fail
   refine bodyPost_ret (results_ctt rfl _ _ w.heap.size 30 _ (0, 0) _ rfl (put3 HBK.out _ _ _) Tryz.underlying30 rfl (by kernel_rfl)) rfl ?_
   rw [← HRE.out]
   exact ⟨_, _, rfl, Kd.R_nil _ _ _ _ _, Kd.R_nil _ _ _ _ _, belowT HB.out _ _ _⟩
  ·have c2 : decide ((100 : Int) < (lines.length : Int)) = false := decide_eq_false (by omega)
   have hpc : ∀ W, Calls Tryz.prog 18 #[.string (S l)] W fun e w' => e = .returned (.bool (plainD l)) ∧ Below W.heap.size W w' := fun W => spec_Plain.calls _ (S l) _ W (plain_f l hl (l.length + 1) (by omega))
   have HPC := Lib.hid hpc
   rw [if_neg h1, if_neg h2] at HRES
   have HN := Lib.hid (show lines.length ≤ 100 by omega)
   clear h1 h2 hpc
   cases hp : plainD l with
   | false =>
    rw [hp] at HPC HRES
    have HRE := Lib.hid (show malformed = res from HRES.out)
    go_wp2_with (go_at_call 18; with_reducible refine (HPC.out _).mono ?_; rintro e w2 ⟨rfl, hb2⟩; have HB2 := Lib.hid (HB.out.trans (hb2.mono HB.out.size)); have HBK2 := Lib.hid ((hb2.block _ (blk_lt HBK.out)).trans HBK.out); obtain ⟨ht0, ht1, ht2, he0, he1, he2⟩ := three HBK2.out; clear hb2)
    refine bodyPost_ret (results_ctt rfl _ _ w.heap.size 30 _ (0, 0) _ rfl (put3 HBK2.out _ _ _) Tryz.underlying30 rfl (by kernel_rfl)) rfl ?_
    rw [← HRE.out]
    exact ⟨_, _, rfl, Kd.R_nil _ _ _ _ _, Kd.R_nil _ _ _ _ _, belowT HB2.out _ _ _⟩
   | true =>
    rw [hp] at HPC HRES
    cases ok with
    | false =>
     have HRE := Lib.hid (show malformed = res from HRES.out)
     go_wp2_with (go_at_call 18; with_reducible refine (HPC.out _).mono ?_; rintro e w2 ⟨rfl, hb2⟩; have HB2 := Lib.hid (HB.out.trans (hb2.mono HB.out.size)); have HBK2 := Lib.hid ((hb2.block _ (blk_lt HBK.out)).trans HBK.out); obtain ⟨ht0, ht1, ht2, he0, he1, he2⟩ := three HBK2.out; clear hb2)
     refine bodyPost_ret (results_ctt rfl _ _ w.heap.size 30 _ (0, 0) _ rfl (put3 HBK2.out _ _ _) Tryz.underlying30 rfl (by kernel_rfl)) rfl ?_
     rw [← HRE.out]
     exact ⟨_, _, rfl, Kd.R_nil _ _ _ _ _, Kd.R_nil _ _ _ _ _, belowT HB2.out _ _ _⟩
    | true =>
     have HRE := Lib.hid (show sopL ks text lines [] [] [] = res from HRES.out)
     go_upto_block 0 with (go_at_call 18; with_reducible refine (HPC.out _).mono ?_; rintro e w2 ⟨rfl, hb2⟩; have HB2 := Lib.hid (HB.out.trans (hb2.mono HB.out.size)); have HBK2 := Lib.hid ((hb2.block _ (blk_lt HBK.out)).trans HBK.out); have HB1 := Lib.hid hb2; clear hb2)
     have hB2 := HB.out.trans (HB1.out.mono HB.out.size)
     refine sloop w w2 _ ks res lines A c text w2.heap.size AL cL
      {hk := Kd.C_below HR.out HB2.out
       hck := HC.out
       hL := Kd.C_below HRD.out.2 HB1.out
       b4 := HBK2.out
       hbw := HB2.out
       hks := hks
       hkt := HKT.out
       hn := HN.out
       hln := fun ln hm => Nat.le_trans (HLEN.out ln hm) hl } _ ?_ _ _ ?_ rfl
     ·refine ⟨0, [], [], [], .slice none 0 0, .slice none 0 0, some ⟨w2.heap.size + 1, 0, none⟩, 0, Nat.zero_le _, ⟨rfl, rfl, by repeat (first | exact ks_nil _ | refine ks_cons rfl ?_)⟩, ?_, Nat.le_refl _, Nat.le_refl _, Nat.le_refl _, HRE.out⟩
      have hz : w2.heap.size + 1 = (w2.alloc (.cells #[.string text, .slice none 0 0, .slice none 0 0] 30)).heap.size := by simp
      exact
      {below := ((Below.refl _ _).alloc (Nat.le_refl _) _).alloc (by simp) _
       bN := (Below.heap_alloc _ _ _ (by simp)).trans (heap_alloc_new w2 _)
       rS := Kd.R_nil _ _ _ _ _
       rU := Kd.R_nil _ _ _ _ _
       rn := by rw [hz]; exact ⟨fun _ _ => trivial, OwnRow.lit (inner := []) _ w2.heap.size (Reps.none _ _) (by simp) (by simp)⟩
       su := .inl rfl
       sn' := .inl rfl
       un := .inl rfl
       geN := Nat.le_refl _ }
     ·rintro a4 w4 ⟨sigs, unv, sn, vS, vU, vn, hF4, hS4, hres⟩
      obtain ⟨AS, cS, rfl⟩ := Kd.R_slice hS4.rS
      have HS4 := Lib.hid hS4
      have hb4 := Lib.hid ((hS4.below.block _ (blk_lt HBK2.out)).trans HBK2.out)
      have hB4 := Lib.hid (HB2.out.trans (hS4.below.mono HB2.out.size))
      obtain ⟨n0, n1, n2, -, -, -⟩ := three hS4.bN
      obtain ⟨AU, cU, rfl⟩ := Kd.R_slice hS4.rU
      obtain ⟨hs0, hs1, hs2, hf0, hf1, hf2⟩ := three hb4.out
      clear hS4
      obtain ⟨g4, rfl, hg⟩ := hF4.lit range120
      clear hF4
      simp only [List.forall_mem_cons] at hg
      obtain ⟨k4, k10, -⟩ := hg
      unfold lit'
      simp only [k4, k10]
      clear k4 k10
      cases sigs with
      | nil =>
       go_wp2_with fail
       refine bodyPost_ret (results_ctt rfl _ _ w.heap.size 30 _ (0, 0) _ rfl (put3 hb4.out _ _ _) Tryz.underlying30 rfl (by kernel_rfl)) rfl ?_
       rw [← hres]
       exact ⟨_, _, rfl, gfar3 HS4.out.rS (blk_lt HBK2.out) _ _ _, gfar3 HS4.out.rU (blk_lt HBK2.out) _ _ _, belowT hB4.out _ _ _⟩
      | cons x s =>
       have q1 : (((x :: s).length : Int) == 0) = false := beq_eq_false_iff_ne.2 (by simp; omega)
       go_wp2_with fail
       refine bodyPost_ret (results_ctt rfl _ _ w.heap.size 30 _ (0, 0) _ rfl (put3 hb4.out _ _ _) Tryz.underlying30 rfl (by kernel_rfl)) rfl ?_
       rw [← hres]
       exact ⟨_, _, rfl, gfar3 HS4.out.rS (blk_lt HBK2.out) _ _ _, gfar3 HS4.out.rU (blk_lt HBK2.out) _ _ _, belowT hB4.out _ _ _⟩
def GoodK (ks : List S56) : Prop := Apart ks ∧ ks.length ≤ 8 ∧ ∀ x ∈ ks, x.f2.length ≤ 8 ∧ x.f3.length = x.f2.length
def goodB (ks : List S56) : Nat → Nat → Bool
 | 0, _ => decide ((ks.length : Int) ≤ 8)
 | n + 1, i => match ks[i]? with
  | none => decide ((ks.length : Int) ≤ 8)
  | some x => if 0 ≤ findI x.f0 x.f1 (ks.take i) 0 then false else if (8 : Int) < (x.f2.length : Int) then false else if x.f3.length = x.f2.length then goodB ks n (i + 1) else false
theorem goodB_spec (ks : List S56) : ∀ (n i : Nat), n = ks.length - i → goodB ks n i = true → ks.length ≤ 8 ∧ ∀ j (x : S56), i ≤ j → ks[j]? = some x → findS (ks.take j) x.f0 x.f1 = none ∧ x.f2.length ≤ 8 ∧ x.f3.length = x.f2.length
 | 0, i, hn, h => by
  rw [goodB] at h
  have := of_decide_eq_true h
  refine ⟨by omega, fun j x hij hx => ?_⟩
  have := (List.getElem?_eq_some_iff.1 hx).1
  omega
 | n + 1, i, hn, h => by
  have hlt : i < ks.length := by omega
  rw [goodB, List.getElem?_eq_getElem hlt] at h
  simp only at h
  split at h
  ·cases h
  ·rename_i h1
   split at h
   ·cases h
   ·rename_i h2
    split at h
    ·rename_i h3
     obtain ⟨h8, hs⟩ := goodB_spec ks n (i + 1) (by omega) h
     refine ⟨h8, fun j x hij hx => ?_⟩
     by_cases hji : j = i
     ·subst hji
      obtain rfl : ks[j] = x := (List.getElem?_eq_some_iff.1 hx).2
      rcases findI_spec ks[j].f0 ks[j].f1 (ks.take j) 0 with ⟨_, e2⟩ | ⟨m, y, e1, _⟩
      ·exact ⟨e2, by omega, h3⟩
      ·rw [e1] at h1; omega
     ·exact hs j x (by omega) hx
    ·cases h
theorem nx {P : Program} {ops : Array Oper} {Q : Exit → Act → World → Prop} {md : Region.Mode} {S : World → Prop} {ds : List Nat} {fuel : Nat} {l : Array Bool} {a : Act} {w : World} {oi : Oper} {v : Value} (i n : Nat) (hc : takeB md ops ds l (l.setIfInBounds i true) i = true) (hi : ops[i]? = some oi) (hN : oi.dst = some n)
  (hQ : ∀ c a w, Q (.panic c) (a.put oi.dst v) w → Q (.panic c) a w) (hy : YieldsIf P ops S oi v a) (hS : S w) {a' : Act} (ha : a.put (some n) v = a') (h : wpAnyLast P md ops Q S ds fuel (l.setIfInBounds i true) a' w) : wpAnyLast P md ops Q S ds (fuel + 1) l a w :=
 take_ _ hi hN hc hQ hy hS ha h
theorem goodB_step (ks : List S56) (k : Nat) (h : k < ks.length) : goodB ks (ks.length - k) k = if 0 ≤ findI ks[k].f0 ks[k].f1 (ks.take k) 0 then false else if (8 : Int) < (ks[k].f2.length : Int) then false else if ks[k].f3.length = ks[k].f2.length then goodB ks (ks.length - (k + 1)) (k + 1) else false := by
 rw [show ks.length - k = (ks.length - (k + 1)) + 1 by omega, goodB, List.getElem?_eq_getElem h]
theorem bs4 {w W : World} {g : Nat} {x0 x1 x2 x3 : Value} (hb : Below w.heap.size w W) (h0 : w.cell? ⟨g, 0, none⟩ = some x0) (h1 : w.cell? ⟨g, 1, none⟩ = some x1) (h2 : w.cell? ⟨g, 2, none⟩ = some x2) (h3 : w.cell? ⟨g, 3, none⟩ = some x3) :
  Below w.heap.size w W ∧ W.cell? ⟨g, 0, none⟩ = some x0 ∧ W.cell? ⟨g, 1, none⟩ = some x1 ∧ W.cell? ⟨g, 2, none⟩ = some x2 ∧ W.cell? ⟨g, 3, none⟩ = some x3 := ⟨hb, pw_cell_below hb h0, pw_cell_below hb h1, pw_cell_below hb h2, pw_cell_below hb h3⟩
theorem takeC {W : World} {A : Option Addr} {ks : List S56} {k : Nat} (h : Kd.C k66 W A ks.length (ks.map key59)) (hk : k ≤ ks.length) : Kd.C k66 W A ((ks.take k).map key59).length ((ks.take k).map key59) := by
 have h' : Kd.C k66 W A (ks.map key59).length (ks.map key59) := by rw [List.length_map]; exact h
 have h1 := Kd.C_take (m := k) h' (by rw [List.length_map]; exact hk)
 rw [← List.map_take] at h1
 exact h1
theorem goodB_good (ks : List S56) (h : goodB ks ks.length 0 = true) : GoodK ks := by
 obtain ⟨h8, hs⟩ := goodB_spec ks _ 0 (by omega) h
 refine ⟨fun i j x y hij hx hy => ?_, h8, fun x hx => ?_⟩
 ·rintro ⟨e1, e2⟩
  have := (hs j y (Nat.zero_le _) hy).1
  unfold findS at this
  rw [List.find?_eq_none] at this
  exact this x (List.mem_of_getElem? (by rw [List.getElem?_take_of_lt hij]; exact hx)) (by simp [e1, e2])
 ·obtain ⟨j, hj⟩ := List.getElem?_of_mem hx
  exact (hs j x (Nat.zero_le _) hj).2
set_option maxRecDepth 100000 in
set_option maxHeartbeats 4000000 in
theorem goodC (ks : List S56) (hk : ks.length ≤ 3000000000) (w : World) (A : Option Addr) (c : Nat) (hr : Kd.C k66 w A ks.length (ks.map key59)) (hc : ks.length ≤ c) :
  Calls Tryz.prog 8 #[.slice A ks.length c] w fun e w' => e = .returned (.bool (goodB ks ks.length 0)) ∧ Below w.heap.size w w' := by
 have HR := Lib.hid hr
 have HC := Lib.hid hc
 clear hr
 generalize hres : goodB ks ks.length 0 = res
 have HRES := Lib.hid hres
 clear hres
 go_enter Tryz.func8, Tryz.ntmps8
 go_wp2
 go_loopw [7] (fun v wr => ∃ (k : Nat), k ≤ ks.length ∧ v = .int .i64 k ∧ goodB ks (ks.length - k) k = res ∧ Below w.heap.size w wr) (fun v _ => ks.length - (intOf v).toNat)
 case atStart => exact ⟨0, Nat.zero_le _, rfl, HRES.out, Below.refl _ _⟩
 case round =>
  obtain ⟨k, hk', rfl, hgo, hB⟩ := hrel
  have HGO := Lib.hid hgo
  have HB := Lib.hid hB
  clear hgo hB
  by_cases hlt : k < ks.length
  ·have hki : (k : Int) < (ks.length : Int) := by omega
   obtain ⟨ad, A2, c2, A3, c3, rfl, x0, x1, x2, x3, l2, g2, l3, g3⟩ := at_T66 HR.out (k : Int) (by omega) hki
   rw [rd59 ks k hlt] at x0 x1 x2 x3
   rw [Int.toNat_natCast] at x0 x1 x2 x3
   replace x0 := pw_cell_below HB.out x0
   replace x1 := pw_cell_below HB.out x1
   replace x2 := pw_cell_below HB.out x2
   replace x3 := pw_cell_below HB.out x3
   clear l2 g2 l3 g3
   have hgo := goodB_step ks k hlt
   rw [HGO.out] at hgo
   generalize ks[k] = x at *
   obtain ⟨i5, hi5, -, -, -⟩ := info_parts info66
   have hcut := cut_to (P := Tryz.prog) 33 66 .i64 Tryz.underlying33 hi5 (some ad) ks.length c (k : Int) (by omega) (by omega) HC.out
   rw [Int.toNat_natCast] at hcut
   have htk : ((ks.take k).map key59).length = k := by rw [List.length_map, List.length_take]; omega
   have hfc : ∀ W, Below w.heap.size w W → Calls Tryz.prog 20 #[.slice (some ad) k c, .string (key59 x).f0, .int .u32 (key59 x).f1] W fun e w' => e = .returned (.int .i64 (findI x.f0 x.f1 (ks.take k) 0)) ∧ Below W.heap.size W w' := fun W hW => by
    have h1 := takeC (k := k) (Kd.C_below HR.out hW) (by omega)
    have h2 := spec_Find.calls (k + 1) (some ad) c ((ks.take k).map key59) x.f0 x.f1 (findI x.f0 x.f1 (ks.take k) 0) W h1 (by rw [htk]; have := HC.out; omega) (find_f (ks.take k) (by rw [List.length_take]; omega) _ _ _ (by rw [List.length_take]; omega))
    rw [htk] at h2
    exact h2
   have HFC := Lib.hid hfc
   clear hfc htk hi5
   generalize findI x.f0 x.f1 (ks.take k) 0 = F at *
   have HGOX := Lib.hid hgo
   clear hgo
   have q0 : (k : Int) ≤ (ks.length : Int) := by omega
   go_upto_region 4 with fail
   have hB2 := HB.out.alloc HB.out.size (.cells #[.string (key59 x).f0, .int .u32 (key59 x).f1, .slice A2 (key59 x).f2.length c2, .slice A3 (key59 x).f3.length c3] 66)
   have hbk := heap_alloc_new wr (.cells #[.string (key59 x).f0, .int .u32 (key59 x).f1, .slice A2 (key59 x).f2.length c2, .slice A3 (key59 x).f3.length c3] 66)
   have d0 := (blk_cell hbk 0).trans rfl
   have d1 := (blk_cell hbk 1).trans rfl
   have d2 := (blk_cell hbk 2).trans rfl
   have d3 := (blk_cell hbk 3).trans rfl
   clear hbk x0 x1 x2 x3
   generalize wr.alloc (.cells #[.string (key59 x).f0, .int .u32 (key59 x).f1, .slice A2 (key59 x).f2.length c2, .slice A3 (key59 x).f3.length c3] 66) = W2 at *
   generalize wr.heap.size = gx at *
   have HB2 := Lib.hid hB2
   clear hB2
   refine start_ (n := 24) (S := fun W => W.cell? ⟨gx, 0, none⟩ = some (.string (key59 x).f0) ∧ W.cell? ⟨gx, 1, none⟩ = some (.int .u32 (key59 x).f1) ∧ W.cell? ⟨gx, 2, none⟩ = some (.slice A2 (key59 x).f2.length c2) ∧ W.cell? ⟨gx, 3, none⟩ = some (.slice A3 (key59 x).f3.length c3)) (ds := []) (Array.replicate 24 false) (by kernel_rfl) rfl rfl ⟨d0, d1, d2, d3⟩ (fun hHeld => ?_)
   refine nx 0 12 (by kernel_rfl) rfl rfl (fun _ _ _ h => h) (by first | exact Or.inl ⟨by rfl, by rintro w' ⟨s0, s1, s2, s3⟩; go_simp; with_reducible rfl⟩ | exact Or.inr ⟨by rfl, rfl⟩) hHeld (by simp only [Act.put, List.setIfInBounds_toArray, List.set_cons_zero, List.set_cons_succ]; rfl) ?_
   refine nx 1 13 (by kernel_rfl) rfl rfl (fun _ _ _ h => h) (by first | exact Or.inl ⟨by rfl, by rintro w' ⟨s0, s1, s2, s3⟩; go_simp; with_reducible rfl⟩ | exact Or.inr ⟨by rfl, rfl⟩) hHeld (by simp only [Act.put, List.setIfInBounds_toArray, List.set_cons_zero, List.set_cons_succ]; rfl) ?_
   refine nx 2 14 (by kernel_rfl) rfl rfl (fun _ _ _ h => h) (by first | exact Or.inl ⟨by rfl, by rintro w' ⟨s0, s1, s2, s3⟩; go_simp; with_reducible rfl⟩ | exact Or.inr ⟨by rfl, rfl⟩) hHeld (by simp only [Act.put, List.setIfInBounds_toArray, List.set_cons_zero, List.set_cons_succ]; rfl) ?_
   refine nx 3 15 (by kernel_rfl) rfl rfl (fun _ _ _ h => h) (by first | exact Or.inl ⟨by rfl, by rintro w' ⟨s0, s1, s2, s3⟩; go_simp; with_reducible rfl⟩ | exact Or.inr ⟨by rfl, rfl⟩) hHeld (by simp only [Act.put, List.setIfInBounds_toArray, List.set_cons_zero, List.set_cons_succ]; rfl) ?_
   refine nx 4 16 (by kernel_rfl) rfl rfl (fun _ _ _ h => h) (by first | exact Or.inl ⟨by rfl, by rintro w' ⟨s0, s1, s2, s3⟩; go_simp; with_reducible rfl⟩ | exact Or.inr ⟨by rfl, rfl⟩) hHeld (by simp only [Act.put, List.setIfInBounds_toArray, List.set_cons_zero, List.set_cons_succ]; rfl) ?_
   refine nx 5 17 (by kernel_rfl) rfl rfl (fun _ _ _ h => h) (by first | exact Or.inl ⟨by rfl, by rintro w' ⟨s0, s1, s2, s3⟩; go_simp; with_reducible rfl⟩ | exact Or.inr ⟨by rfl, rfl⟩) hHeld (by simp only [Act.put, List.setIfInBounds_toArray, List.set_cons_zero, List.set_cons_succ]; rfl) ?_
   refine nx 6 18 (by kernel_rfl) rfl rfl (fun _ _ _ h => h) (by first | exact Or.inl ⟨by rfl, by rintro w' ⟨s0, s1, s2, s3⟩; go_simp; with_reducible rfl⟩ | exact Or.inr ⟨by rfl, rfl⟩) hHeld (by simp only [Act.put, List.setIfInBounds_toArray, List.set_cons_zero, List.set_cons_succ]; rfl) ?_
   refine one_ (i := 7) (N := some 19) #[true, true, true, true, true, true, true, true, false, false, false, false, false, false, false, false, false, false, false, false, false, false, false, false] rfl rfl (by kernel_rfl) (by decide) (fun K hK => ?_)
   refine goes_ Tryz.func20 (by kernel_rfl) rfl #[.slice (some ad) k c, .string (key59 x).f0, .int .u32 (key59 x).f1] (by rfl) rfl rfl (by (try simp only [List.map_toArray, List.map_cons, List.map_nil]); rfl) ?_
   refine (HFC.out _ (below_drew1 HB2.out)).mono ?_
   rintro e w5 ⟨rfl, hb5⟩
   refine ⟨_, rfl, ?_⟩
   obtain ⟨hb6, e0, e1, e2, e3⟩ := bs4 ((below_drew1 (Below.refl W2.heap.size W2)).trans (hb5.mono (below_drew1 (Below.refl W2.heap.size W2)).size)) d0 d1 d2 d3
   refine hK.out _ _ ⟨e0, e1, e2, e3⟩ (fun hHeld => ?_)
   clear hK K hb5 d0 d1 d2 d3
   refine norm_ (by show Act.put _ (some 19) _ = _; simp only [Act.put, List.setIfInBounds_toArray, List.set_cons_zero, List.set_cons_succ]; rfl) ?_
   have hW5 := HB2.out.trans (hb6.mono HB2.out.size)
   have HW5 := Lib.hid hW5
   clear hW5 hb6
   have key : (∃ b1 b2 b3 : Bool, decide (0 ≤ F) = b1 ∧ decide (8 < ((key59 x).f2.length : Int)) = b2 ∧ ((((key59 x).f3.length : Int) != ((key59 x).f2.length : Int)) = b3) ∧ res = if b1 = true then false else if b2 = true then false else if b3 = true then false else goodB ks (ks.length - (k + 1)) (k + 1)) := by
    refine ⟨_, _, _, rfl, rfl, rfl, ?_⟩
    rw [HGOX.out]
    show _ = if decide (0 ≤ F) = true then false else if decide (8 < (x.f2.length : Int)) = true then false else if ((x.f3.length : Int) != (x.f2.length : Int)) = true then false else _
    by_cases g1 : 0 ≤ F
    ·simp only [if_pos g1, decide_eq_true g1, if_true]
    ·by_cases g2 : (8 : Int) < (x.f2.length : Int)
     ·simp only [if_neg g1, if_pos g2, decide_eq_false g1, decide_eq_true g2, if_true, Bool.false_eq_true, if_false]
     ·by_cases g3 : x.f3.length = x.f2.length
      ·have e3 : ((x.f3.length : Int) != (x.f2.length : Int)) = false := by rw [g3]; simp
       simp only [if_neg g1, if_neg g2, if_pos g3, decide_eq_false g1, decide_eq_false g2, e3, Bool.false_eq_true, if_false]
      ·have e3 : ((x.f3.length : Int) != (x.f2.length : Int)) = true := bne_iff_ne.2 (by omega)
       simp only [if_neg g1, if_neg g2, if_neg g3, decide_eq_false g1, decide_eq_false g2, e3, Bool.false_eq_true, if_false, if_true]
   obtain ⟨b1, b2, b3, t1, t2, t3, hgo⟩ := key
   have HGO2 := Lib.hid hgo
   clear hgo
   cases b1 <;> cases b2 <;> cases b3 <;> (
    refine nx 8 20 (by kernel_rfl) rfl rfl (fun _ _ _ h => h) (by first | exact Or.inl ⟨by rfl, by rintro w' ⟨s0, s1, s2, s3⟩; go_simp; with_reducible rfl⟩ | exact Or.inr ⟨by rfl, rfl⟩) hHeld (by simp only [Act.put, List.setIfInBounds_toArray, List.set_cons_zero, List.set_cons_succ]; rfl) ?_
    refine nx 9 21 (by kernel_rfl) rfl rfl (fun _ _ _ h => h) (by first | exact Or.inl ⟨by rfl, by rintro w' ⟨s0, s1, s2, s3⟩; go_simp; with_reducible rfl⟩ | exact Or.inr ⟨by rfl, rfl⟩) hHeld (by simp only [Act.put, List.setIfInBounds_toArray, List.set_cons_zero, List.set_cons_succ]; rfl) ?_
    refine nx 10 22 (by kernel_rfl) rfl rfl (fun _ _ _ h => h) (by first | exact Or.inl ⟨by rfl, by rintro w' ⟨s0, s1, s2, s3⟩; go_simp; with_reducible rfl⟩ | exact Or.inr ⟨by rfl, rfl⟩) hHeld (by simp only [Act.put, List.setIfInBounds_toArray, List.set_cons_zero, List.set_cons_succ]; rfl) ?_
    refine nx 11 23 (by kernel_rfl) rfl rfl (fun _ _ _ h => h) (by first | exact Or.inl ⟨by rfl, by rintro w' ⟨s0, s1, s2, s3⟩; go_simp; with_reducible rfl⟩ | exact Or.inr ⟨by rfl, rfl⟩) hHeld (by simp only [Act.put, List.setIfInBounds_toArray, List.set_cons_zero, List.set_cons_succ]; rfl) ?_
    refine nx 12 24 (by kernel_rfl) rfl rfl (fun _ _ _ h => h) (by first | exact Or.inl ⟨by rfl, by rintro w' ⟨s0, s1, s2, s3⟩; go_simp; with_reducible rfl⟩ | exact Or.inr ⟨by rfl, rfl⟩) hHeld (by simp only [Act.put, List.setIfInBounds_toArray, List.set_cons_zero, List.set_cons_succ]; rfl) ?_
    refine nx 13 25 (by kernel_rfl) rfl rfl (fun _ _ _ h => h) (by first | exact Or.inl ⟨by rfl, by rintro w' ⟨s0, s1, s2, s3⟩; go_simp; with_reducible rfl⟩ | exact Or.inr ⟨by rfl, rfl⟩) hHeld (by simp only [Act.put, List.setIfInBounds_toArray, List.set_cons_zero, List.set_cons_succ]; rfl) ?_
    refine nx 14 26 (by kernel_rfl) rfl rfl (fun _ _ _ h => h) (by first | exact Or.inl ⟨by rfl, by rintro w' ⟨s0, s1, s2, s3⟩; go_simp; with_reducible rfl⟩ | exact Or.inr ⟨by rfl, rfl⟩) hHeld (by simp only [Act.put, List.setIfInBounds_toArray, List.set_cons_zero, List.set_cons_succ]; rfl) ?_
    refine nx 15 27 (by kernel_rfl) rfl rfl (fun _ _ _ h => h) (by first | exact Or.inl ⟨by rfl, by rintro w' ⟨s0, s1, s2, s3⟩; go_simp; with_reducible rfl⟩ | exact Or.inr ⟨by rfl, rfl⟩) hHeld (by simp only [Act.put, List.setIfInBounds_toArray, List.set_cons_zero, List.set_cons_succ]; rfl) ?_
    refine nx 16 28 (by kernel_rfl) rfl rfl (fun _ _ _ h => h) (by first | exact Or.inl ⟨by rfl, by rintro w' ⟨s0, s1, s2, s3⟩; go_simp; with_reducible rfl⟩ | exact Or.inr ⟨by rfl, rfl⟩) hHeld (by simp only [Act.put, List.setIfInBounds_toArray, List.set_cons_zero, List.set_cons_succ]; rfl) ?_
    refine nx 17 29 (by kernel_rfl) rfl rfl (fun _ _ _ h => h) (by first | exact Or.inl ⟨by rfl, by rintro w' ⟨s0, s1, s2, s3⟩; go_simp; with_reducible rfl⟩ | exact Or.inr ⟨by rfl, rfl⟩) hHeld (by simp only [Act.put, List.setIfInBounds_toArray, List.set_cons_zero, List.set_cons_succ]; rfl) ?_
    refine nx 18 30 (by kernel_rfl) rfl rfl (fun _ _ _ h => h) (by first | exact Or.inl ⟨by rfl, by rintro w' ⟨s0, s1, s2, s3⟩; go_simp; with_reducible rfl⟩ | exact Or.inr ⟨by rfl, rfl⟩) hHeld (by simp only [Act.put, List.setIfInBounds_toArray, List.set_cons_zero, List.set_cons_succ]; rfl) ?_
    refine nx 19 31 (by kernel_rfl) rfl rfl (fun _ _ _ h => h) (by first | exact Or.inl ⟨by rfl, by rintro w' ⟨s0, s1, s2, s3⟩; go_simp; with_reducible rfl⟩ | exact Or.inr ⟨by rfl, rfl⟩) hHeld (by simp only [Act.put, List.setIfInBounds_toArray, List.set_cons_zero, List.set_cons_succ]; rfl) ?_
    refine nx 20 32 (by kernel_rfl) rfl rfl (fun _ _ _ h => h) (by first | exact Or.inl ⟨by rfl, by rintro w' ⟨s0, s1, s2, s3⟩; go_simp; with_reducible rfl⟩ | exact Or.inr ⟨by rfl, rfl⟩) hHeld (by simp only [Act.put, List.setIfInBounds_toArray, List.set_cons_zero, List.set_cons_succ]; rfl) ?_
    refine nx 21 33 (by kernel_rfl) rfl rfl (fun _ _ _ h => h) (by first | exact Or.inl ⟨by rfl, by rintro w' ⟨s0, s1, s2, s3⟩; go_simp; with_reducible rfl⟩ | exact Or.inr ⟨by rfl, rfl⟩) hHeld (by simp only [Act.put, List.setIfInBounds_toArray, List.set_cons_zero, List.set_cons_succ]; rfl) ?_
    refine nx 22 34 (by kernel_rfl) rfl rfl (fun _ _ _ h => h) (by first | exact Or.inl ⟨by rfl, by rintro w' ⟨s0, s1, s2, s3⟩; go_simp; with_reducible rfl⟩ | exact Or.inr ⟨by rfl, rfl⟩) hHeld (by simp only [Act.put, List.setIfInBounds_toArray, List.set_cons_zero, List.set_cons_succ]; rfl) ?_
    refine nx 23 35 (by kernel_rfl) rfl rfl (fun _ _ _ h => h) (by first | exact Or.inl ⟨by rfl, by rintro w' ⟨s0, s1, s2, s3⟩; go_simp; with_reducible rfl⟩ | exact Or.inr ⟨by rfl, rfl⟩) hHeld (by simp only [Act.put, List.setIfInBounds_toArray, List.set_cons_zero, List.set_cons_succ]; rfl) ?_
    refine done_ (by kernel_rfl) ?_
    go_wp2_with fail
    first
     | (go_ret; exact ⟨by rw [HGO2.out]; rfl, HW5.out⟩)
     | exact ⟨⟨k + 1, by omega, congrArg (Value.int .i64) (Int.natCast_add k 1).symm, by rw [HGO2.out]; rfl, HW5.out⟩, by show ks.length - ((k : Int) + 1).toNat < ks.length - (k : Int).toNat; omega⟩)
  ·obtain rfl : k = ks.length := by omega
   have hg := HGO.out
   rw [Nat.sub_self, goodB] at hg
   have HG := Lib.hid hg
   clear hg
   go_wp2_with fail
   go_ret
   exact ⟨by rw [← HG.out]; simp, HB.out⟩
theorem rd34 (ks : List S56) (i : Nat) (h : i < ks.length) : rd_T56 ks (i : Int) = ks[i] := by
 unfold rd_T56; simp [List.getElem?_eq_getElem h]
theorem keys_l0 (ks : List S56) (hk : ks.length ≤ 3000000000) : ∀ (k i : Nat) (acc : List S66), i ≤ ks.length → acc.length ≤ i → ks.length - i < k → laws_keys.l0 k acc ks (ks.length : Int) (i : Int) = some (acc ++ (ks.drop i).map key59)
 | 0, i, acc, _, _, hf => by omega
 | k + 1, i, acc, hi, ha, hf => by
  unfold laws_keys.l0
  by_cases hlt : i < ks.length
  ·rw [if_pos (by omega), if_pos (by omega), if_pos (by omega), if_pos (by omega), w1 i (by omega), keys_l0 ks hk k (i + 1) _ (by omega) (by simp; omega) (by omega), List.drop_eq_getElem_cons hlt, List.map_cons, List.append_assoc, rd34 ks i hlt]
   rfl
  ·rw [if_neg (by omega), List.drop_eq_nil_of_le (by omega)]
   simp
theorem keys_f (ks : List S56) (hk : ks.length ≤ 3000000000) (k : Nat) (hf : ks.length < k) : laws_keys.f k ks = some (ks.map key59) := by
 have := keys_l0 ks hk k 0 [] (Nat.zero_le _) (Nat.le_refl _) (by omega)
 unfold laws_keys.f
 simpa using this
def FitK (ks : List S56) : Prop := ks.length ≤ 2147483647 ∧ ∀ x ∈ ks, x.f0.size ≤ 2147483647 ∧ x.f2.length ≤ 2147483647 ∧ x.f3.length ≤ 2147483647
theorem fits3_l0 (l : List ByteArray) (hk : l.length ≤ 2147483647) : ∀ (k i : Nat), i ≤ l.length → l.length - i < k → ∃ b, laws_zzFits3.l0 k l (l.length : Int) (i : Int) = some b
 | 0, i, _, hf => by omega
 | k + 1, i, hi, hf => by
  unfold laws_zzFits3.l0
  by_cases hlt : i < l.length
  ·rw [if_pos (by omega), if_pos (by omega), if_pos (by omega), w1 i (by omega)]
   split
   ·exact ⟨_, rfl⟩
   ·exact fits3_l0 l hk k (i + 1) (by omega) (by omega)
  ·rw [if_neg (by omega)]; exact ⟨_, rfl⟩
theorem fits3_f (l : List ByteArray) (k : Nat) (hf : 2147483647 < k) : ∃ b, laws_zzFits3.f k l = some b ∧ (b = true → l.length ≤ 2147483647) := by
 unfold laws_zzFits3.f
 by_cases h : (l.length : Int) > 2147483647
 ·rw [if_pos h]; exact ⟨_, rfl, fun h => by cases h⟩
 ·rw [if_neg h]
  obtain ⟨b, hb⟩ := fits3_l0 l (by omega) k 0 (Nat.zero_le _) (by omega)
  exact ⟨b, hb, fun _ => by omega⟩
theorem fits2_f (x : S56) (k : Nat) (hf : 2147483647 < k) : ∃ b, laws_zzFits2.f k x.f0 x.f1 x.f2 x.f3 = some b ∧ (b = true → x.f0.size ≤ 2147483647 ∧ x.f2.length ≤ 2147483647 ∧ x.f3.length ≤ 2147483647) := by
 unfold laws_zzFits2.f
 by_cases h : (x.f0.size : Int) > 2147483647
 ·rw [if_pos h]; exact ⟨_, rfl, fun h => by cases h⟩
 ·rw [if_neg h]
  obtain ⟨b2, e2, h2⟩ := fits3_f x.f2 k hf
  obtain ⟨b3, e3, h3⟩ := fits3_f x.f3 k hf
  rw [e2, e3]
  simp only [Option.bind_some]
  cases b2 with
  | false => exact ⟨_, rfl, fun h => by cases h⟩
  | true =>
   cases b3 with
   | false => exact ⟨_, rfl, fun h => by cases h⟩
   | true => exact ⟨_, rfl, fun _ => ⟨by omega, h2 rfl, h3 rfl⟩⟩
theorem fits1_l0 (ks : List S56) (hk : ks.length ≤ 2147483647) : ∀ (k i : Nat), i ≤ ks.length → (ks.length - i) + 2147483648 < k → ∃ b, laws_zzFits1.l0 k ks (ks.length : Int) (i : Int) = some b ∧ (b = true → ∀ j x, i ≤ j → ks[j]? = some x → x.f0.size ≤ 2147483647 ∧ x.f2.length ≤ 2147483647 ∧ x.f3.length ≤ 2147483647)
 | 0, i, _, hf => by omega
 | k + 1, i, hi, hf => by
  unfold laws_zzFits1.l0
  by_cases hlt : i < ks.length
  ·obtain ⟨b2, e2, h2⟩ := fits2_f ks[i] k (by omega)
   rw [if_pos (by omega), if_pos (by omega), if_pos (by omega), w1 i (by omega), rd34 ks i hlt, e2]
   simp only [Option.bind_some]
   cases b2 with
   | false => exact ⟨_, rfl, fun h => by cases h⟩
   | true =>
    rw [if_pos (show true = true from rfl)]
    obtain ⟨b, hb, hb2⟩ := fits1_l0 ks hk k (i + 1) (by omega) (by omega)
    refine ⟨b, hb, fun h j x hij hx => ?_⟩
    by_cases hji : j = i
    ·subst hji
     have : ks[j] = x := (List.getElem?_eq_some_iff.1 hx).2
     rw [this] at h2
     exact h2 rfl
    ·exact hb2 h j x (by omega) hx
  ·rw [if_neg (by omega)]
   refine ⟨_, rfl, fun h j x hij hx => ?_⟩
   have := (List.getElem?_eq_some_iff.1 hx).1
   omega
theorem fits1_f (ks : List S56) (k : Nat) (hf : 4294967296 < k) : ∃ b, laws_zzFits1.f k ks = some b ∧ (b = true → FitK ks) := by
 unfold laws_zzFits1.f
 by_cases h : (ks.length : Int) > 2147483647
 ·rw [if_pos h]; exact ⟨_, rfl, fun h => by cases h⟩
 ·rw [if_neg h]
  obtain ⟨b, hb, hb2⟩ := fits1_l0 ks (by omega) k 0 (Nat.zero_le _) (by omega)
  refine ⟨b, hb, fun h => ⟨by omega, fun x hx => ?_⟩⟩
  obtain ⟨j, hj⟩ := List.getElem?_of_mem hx
  exact hb2 h j x (Nat.zero_le _) hj
theorem openL_len (ks : List S56) (text : ByteArray) : ∀ (lines : List (List UInt8)) (seen : List (ByteArray × Int)) (sigs unv s u : List S122), openL ks text lines seen sigs unv = .ok s u → s.length ≤ sigs.length + lines.length ∧ u.length ≤ unv.length + lines.length
 | [], seen, sigs, unv, s, u, h => by
  rw [openL] at h
  injection h with a b
  subst a; subst b
  exact ⟨by simp, by simp⟩
 | l :: ls, seen, sigs, unv, s, u, h => by
  rw [openL] at h
  have hl : (l :: ls).length = ls.length + 1 := rfl
  split at h
  ·cases h
  ·split at h
   ·split at h
    ·have := openL_len ks text ls _ _ _ _ _ h; omega
    ·have := openL_len ks text ls _ _ _ _ _ h; simp at this; omega
   ·split at h
    ·have := openL_len ks text ls _ _ _ _ _ h; omega
    ·split at h
     ·have := openL_len ks text ls _ _ _ _ _ h; simp at this; omega
     ·cases h
theorem openM_len (ks : List S56) (l : List UInt8) (hcnt : ∀ i, lastN l l.length = some i → l[l.length - 1]? = some 10 → (linesD (l.drop (i + 2))).length ≤ 100) (s u : List S122) (h : (openM ks l).2 = .ok s u) : s.length ≤ 1000000 ∧ u.length ≤ 1000000 := by
 unfold openM at h
 split at h
 ·split at h
  ·cases h
  ·rename_i i hi
   split at h
   ·cases h
   ·split at h
    ·rename_i h10
     have h1 := openL_len ks _ _ _ _ _ _ _ h
     have h2 := hcnt i hi h10
     simp at h1
     omega
    ·cases h
 ·cases h
theorem out_res (t : ByteArray) (o : ORes) : (outM t o).2.2.2 = (resD t o).2.2.2.1 ∧ (outM t o).1 = (resD t o).1 ∧ (outM t o).2.1.map (fun x : S82 => (⟨x.f0, x.f1, x.f2⟩ : S49)) = (resD t o).2.1 ∧ (outM t o).2.2.1.map (fun x : S82 => (⟨x.f0, x.f1, x.f2⟩ : S49)) = (resD t o).2.2.1 := by
 cases o with
 | bad => exact ⟨rfl, rfl, rfl, rfl⟩
 | inv nm h => exact ⟨rfl, rfl, rfl, rfl⟩
 | ok s u =>
  cases s with
  | nil => exact ⟨rfl, rfl, rfl, by unfold outM resD; simp [sig75, sig37]⟩
  | cons x s => exact ⟨rfl, rfl, by unfold outM resD; simp [sig75, sig37], by unfold outM resD; simp [sig75, sig37]⟩
structure LW (w : World) (A0 : Option Addr) (c0 : Nat) (ks : List S56) (eM : Value) : Prop where
 hU : Utf8Tabs 3 4 w
 hW : WhiteTab 6 w
 hE : w.cell? ⟨0, 0, none⟩ = some eM
 heM : ∃ pE, eM = .iface 197 (.pointer pE)
 hk : Kd.C k56 w A0 ks.length ks
 hc : ks.length ≤ c0
 wf : ∀ x ∈ ks, (Lit.int .u32 x.f1).wf = true
theorem LW.below {w W : World} {A0 : Option Addr} {c0 : Nat} {ks : List S56} {eM : Value} (h : LW w A0 c0 ks eM) (hb : Below w.heap.size w W) : LW W A0 c0 ks eM :=
 {hU := Utf8Tabs.below' h.hU hb
  hW := WhiteTab.below' h.hW hb
  hE := pw_cell_below hb h.hE
  heM := h.heM
  hk := Kd.C_below h.hk hb
  hc := h.hc
  wf := h.wf }
theorem k56_heap : Kd.Heap k56 := Kd.heap_iso _ (Kd.heap_pair Kd.heap_string (Kd.heap_pair (Kd.heap_int _) (Kd.heap_pair (Kd.heap_slice _ Kd.heap_string) (Kd.heap_slice _ Kd.heap_string))))
theorem LW.fits {w : World} {A0 : Option Addr} {c0 : Nat} {ks : List S56} {eM : Value} (h : LW w A0 c0 ks eM) :
  ∃ b, (b = true → FitK ks) ∧ ∀ W, Below w.heap.size w W → Calls Tryz.prog 4 #[.slice A0 ks.length c0] W fun e w' => e = .returned (.bool b) ∧ Below W.heap.size W w' := by
 obtain ⟨b, hb, hb2⟩ := fits1_f ks 5000000000 (by decide)
 exact ⟨b, hb2, fun W hW => laws_zzFits1.calls _ A0 c0 ks b W (h.below hW).hk h.hc hb⟩
theorem LW.keys {w : World} {A0 : Option Addr} {c0 : Nat} {ks : List S56} {eM : Value} (h : LW w A0 c0 ks eM) (hf : ks.length ≤ 3000000000) :
  Calls Tryz.prog 7 #[.slice A0 ks.length c0] w fun e w' => ∃ A c, e = .returned (.slice A ks.length c) ∧ ks.length ≤ c ∧ Kd.C k66 w' A ks.length (ks.map key59) ∧ Below w.heap.size w w' := by
 refine (laws_keys.calls 5000000000 (fun k => k < w.heap.size) A0 c0 ks (ks.map key59) w (Kd.V_mk h.hc (Kd.C_F k56_heap h.hk)) (keys_f ks hf _ (by omega))).mono ?_
 rintro e w' ⟨v, rfl, hn, hb⟩
 obtain ⟨A, c, rfl, hle, hc⟩ := Kd.N_reads hn
 rw [List.length_map] at hle hc ⊢
 exact ⟨A, c, rfl, hle, hc, hb⟩
theorem LW.good {ks : List S56} (hf : ks.length ≤ 3000000000) :
  ∃ b, (b = true → GoodK ks) ∧ ∀ W A c, Kd.C k66 W A ks.length (ks.map key59) → ks.length ≤ c → Calls Tryz.prog 8 #[.slice A ks.length c] W fun e w' => e = .returned (.bool b) ∧ Below W.heap.size W w' :=
 ⟨goodB ks ks.length 0, goodB_good ks, fun W A c hC hc => goodC ks hf W A c hC hc⟩
theorem LW.sopen {ks : List S56} (hf : FitK ks) (l : List UInt8) (hl : l.length ≤ 2147483647) :
  ∃ r1 r2 r3 r4 r5, (r5 = true → ((r1, r2, r3, r4, r5) : ByteArray × List S49 × List S49 × Int × Bool) = resD (openM ks l).1 (openM ks l).2 ∧ ∀ i, lastN l l.length = some i → l[l.length - 1]? = some 10 → (linesD (l.drop (i + 2))).length ≤ 100) ∧
   ∀ W A c, Kd.C k66 W A ks.length (ks.map key59) → ks.length ≤ c → Calls Tryz.prog 6 #[.string (S l), .slice A ks.length c] W fun e w' => ∃ v1 v2 : Value, e = .returned (.tuple #[.agg #[.string r1, v1, v2], .int .i64 r4, .bool r5]) ∧
    Kd.R k49 49 w' W.heap.size (fun _ => True) v1 r2 ∧ Kd.R k49 49 w' W.heap.size (fun _ => True) v2 r3 ∧ Below W.heap.size W w' :=
 ⟨(sopM ks l).1, (sopM ks l).2.1, (sopM ks l).2.2.1, (sopM ks l).2.2.2.1, (sopM ks l).2.2.2.2, fun h => ⟨(sopM_open ks l h).1, (sopM_open ks l h).2.2⟩, fun W A c hC hc => sopenC ks l hl hf.1 (fun x hx => (hf.2 x hx).2.1) W A c hC hc⟩
theorem LW.iopen {w : World} {A0 : Option Addr} {c0 : Nat} {ks : List S56} {eM : Value} (h : LW w A0 c0 ks eM) (hf : FitK ks) (hg : GoodK ks) (l : List UInt8) (hl : l.length ≤ 2147483647) (hcnt : ∀ i, lastN l l.length = some i → l[l.length - 1]? = some 10 → (linesD (l.drop (i + 2))).length ≤ 100) :
  Calls Tryz.prog 11 #[.string (S l), .slice A0 ks.length c0] w (IOPost w (outM (openM ks l).1 (openM ks l).2)) :=
 PX.iopen w l A0 c0 ks eM h.hU h.hW h.hE h.heM h.hk h.hc hf.1 hg.1 (fun x hx => ⟨(hf.2 x hx).1, h.wf x hx⟩) (fun x hx => ⟨(hf.2 x hx).2.1, (hf.2 x hx).2.2⟩) hl hcnt (openM_len ks l hcnt)
end Go.Proofs.YtkbegfihdpiacaaGreatDoor.PX
