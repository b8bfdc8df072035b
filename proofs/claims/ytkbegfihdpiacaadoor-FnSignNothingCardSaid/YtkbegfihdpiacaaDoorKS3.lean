/- Part 3 of the proof: what the theorem reaches of the texts MapR, B64. -/
import Derived.Maps.Keyed
import Derived.Maps.Own
import Derived.Maps.OwnOps
import Derived.Maps.OwnSet
import Derived.Below

namespace Nt
open Go Go.RowKit Go.Maps Go.MapKept Go.ChangeMaps
set_option linter.unusedVariables false
set_option linter.unusedSimpArgs false
/-- Block b is a map; f tells what it holds at each key. -/
def MapR (P : Program) (k : TypeId) (w : World) (b : Nat) (f : Value → Option Value) : Prop :=
  ∃ es clock, w.heap[b]? = some (.map es clock) ∧ Stamped es clock ∧ (∀ e ∈ es.toList, ∃ l, keyOf P k e.key = some l) ∧ ∀ x v, f x = some v ↔ ∃ e ∈ es.toList, e.key = x ∧ e.val = v
/-- The same, and the entry born at c is that of a key. -/
def MapE (P : Program) (k : TypeId) (w : World) (b : Nat) (f : Value → Option Value) (key : Value) (c : Nat) : Prop :=
  ∃ es clock, w.heap[b]? = some (.map es clock) ∧ Stamped es clock ∧ (∀ e ∈ es.toList, ∃ l, keyOf P k e.key = some l) ∧ (∀ x v, f x = some v ↔ ∃ e ∈ es.toList, e.key = x ∧ e.val = v) ∧ ∃ e ∈ es.toList, e.key = key ∧ e.born = c
open Classical in
/-- A function changed at one place. -/
noncomputable def upd (f : Value → Option Value) (x v : Value) : Value → Option Value := fun y => if y = x then some v else f y
theorem upd_same (f : Value → Option Value) (x v : Value) : upd f x v x = some v := if_pos rfl
theorem upd_other (f : Value → Option Value) {x y : Value} (v : Value) (h : y ≠ x) : upd f x v y = f y := if_neg h
theorem upd_twice (f : Value → Option Value) (x u v : Value) : upd (upd f x u) x v = upd f x v := by
  funext y
  by_cases h : y = x
  · subst h; rw [upd_same, upd_same]
  · rw [upd_other _ _ h, upd_other _ _ h, upd_other _ _ h]
section
variable {P : Program} {k e t : TypeId} {w : World} {b : Nat} {f : Value → Option Value}
theorem MapR.lt (h : MapR P k w b f) : b < w.heap.size := by
  obtain ⟨es, clock, hb, _⟩ := h
  exact (Array.getElem?_eq_some_iff.1 hb).1
theorem MapE.lt {key : Value} {c : Nat} (h : MapE P k w b f key c) : b < w.heap.size := by
  obtain ⟨es, clock, hb, _⟩ := h
  exact (Array.getElem?_eq_some_iff.1 hb).1
theorem MapR.keep {w' : World} (h : MapR P k w b f) (hb : w'.heap[b]? = w.heap[b]?) : MapR P k w' b f := by
  obtain ⟨es, clock, h1, h2⟩ := h
  exact ⟨es, clock, hb.trans h1, h2⟩
theorem MapE.keep {w' : World} {key : Value} {c : Nat} (h : MapE P k w b f key c) (hb : w'.heap[b]? = w.heap[b]?) : MapE P k w' b f key c := by
  obtain ⟨es, clock, h1, h2⟩ := h
  exact ⟨es, clock, hb.trans h1, h2⟩
theorem MapR.below {w' : World} (h : MapR P k w b f) (hb : Below w.heap.size w w') : MapR P k w' b f := h.keep (hb.block b h.lt)
theorem MapE.below {w' : World} {key : Value} {c : Nat} (h : MapE P k w b f key c) (hb : Below w.heap.size w w') : MapE P k w' b f key c := h.keep (hb.block b h.lt)
theorem MapE.map {key : Value} {c : Nat} (h : MapE P k w b f key c) : MapR P k w b f := by
  obtain ⟨es, clock, h1, h2, h3, h4, _⟩ := h
  exact ⟨es, clock, h1, h2, h3, h4⟩
theorem MapR.made (P : Program) (k : TypeId) (w : World) : MapR P k (w.alloc (.map #[] 0)) w.heap.size (fun _ => none) :=
  ⟨#[], 0, (MapKept.heap_alloc w _).1, stamped_empty 0, by simp, by simp⟩
theorem nodup_idx {α β : Type} (g : α → β) {l : List α} (h : (l.map g).Nodup) {i j : Nat} (hi : i < l.length) (hj : j < l.length) (he : g l[i] = g l[j]) : i = j := by
  have hp := List.pairwise_iff_getElem.1 (List.pairwise_map.1 h)
  rcases Nat.lt_trichotomy i j with hlt | rfl | hlt
  · exact absurd he (hp i j hi hj hlt)
  · rfl
  · exact absurd he.symm (hp j i hj hi hlt)
/-- A look-up. -/
theorem MapR.look (h : MapR P k w b f) (K : Keyed P k) (ht : P.underlying t = some (.map k e)) {z : Value} (hz : (zeroValue e).run P w = .ok z w) {key : Value} {kl : Lit} (hkey : keyOf P k key = some kl) (ok : Bool) :
    (Instr.lookup t (.map (some b)) key ok).run P w = .ok (if ok then .tuple #[(f key).getD z, .bool (f key).isSome] else (f key).getD z) w := by
  obtain ⟨es, clock, hb, hS, hk, hf⟩ := h
  rcases K.find w hkey es.toList hk with ⟨h1, h2⟩ | ⟨j, e0, h1, h2, h3⟩
  · have hn : f key = none := by
      cases hv : f key with
      | none => rfl
      | some v => obtain ⟨x, hx, hxk, _⟩ := (hf key v).1 hv; exact absurd hxk (h2 x hx)
    rw [hn]
    simp [Instr.lookup, run_underlying ht, MapKept.run_getObj_map hb, K.check w _ hkey, h1, hz, Result.andThen]
  · have hn : f key = some e0.val := (hf key e0.val).2 ⟨e0, List.mem_of_getElem? h2, h3, rfl⟩
    rw [hn]
    simp [Instr.lookup, run_underlying ht, MapKept.run_getObj_map hb, K.check w _ hkey, h1, hz, Result.andThen]
theorem setBlock_grown (w : World) (b : Nat) (o : Obj) : w.grownBy (setBlock w b o) (some b) :=
  ⟨rfl, rfl, rfl, by simp [setBlock], fun i _ hi => by
    have : i ≠ b := fun e => hi (by rw [e])
    simp [setBlock, Array.getElem?_setIfInBounds, Ne.symm this]⟩
/-- A store. -/
theorem MapR.store (h : MapR P k w b f) (K : Keyed P k) (ht : P.underlying t = some (.map k e)) {key val : Value} {kl : Lit} (hkey : keyOf P k key = some kl) :
    ∃ w', (Instr.mapUpdate t (.map (some b)) key val).run P w = .ok () w' ∧ MapR P k w' b (upd f key val) ∧ w.grownBy w' (some b) := by
  obtain ⟨es, clock, hb, hS, hk, hf⟩ := h
  rcases K.find w hkey es.toList hk with ⟨h1, h2⟩ | ⟨j, e0, h1, h2, h3⟩
  · refine ⟨setBlock w b (.map (es.push ⟨key, val, clock⟩) (clock + 1)), ?_, ⟨_, _, heap_setBlock_same hb _, stamped_push hS h2, ?_, ?_⟩, setBlock_grown w b _⟩
    · simp [Instr.mapUpdate, run_underlying ht, MapKept.run_getObj_map hb, K.check w false hkey, h1, MapKept.run_setObj_map _ hb, Result.andThen, setBlock]
    · intro x hx
      simp only [Array.toList_push, List.mem_append, List.mem_singleton] at hx
      rcases hx with hx | rfl
      · exact hk x hx
      · exact ⟨kl, hkey⟩
    · intro x v
      simp only [Array.toList_push, List.mem_append, List.mem_singleton]
      by_cases hxk : x = key
      · subst hxk
        rw [upd_same]
        constructor
        · intro hv; cases hv; exact ⟨_, .inr rfl, rfl, rfl⟩
        · rintro ⟨y, hy | rfl, hyk, rfl⟩
          · exact absurd hyk (h2 y hy)
          · rfl
      · rw [upd_other _ _ hxk, hf]
        constructor
        · rintro ⟨y, hy, h3, h4⟩; exact ⟨y, .inl hy, h3, h4⟩
        · rintro ⟨y, hy | rfl, hyk, hyv⟩
          · exact ⟨y, hy, hyk, hyv⟩
          · exact absurd hyk.symm hxk
  · have hj : es[j]? = some e0 := by simpa using h2
    have hm0 : e0 ∈ es.toList := List.mem_of_getElem? h2
    have hjl : j < es.toList.length := (List.getElem?_eq_some_iff.1 h2).1
    have hjs : j < es.size := by simpa using hjl
    have hje : es[j] = e0 := (Array.getElem?_eq_some_iff.1 hj).2
    have hlist : (es.modify j (fun e' => { e' with key := key, val := val })).toList = es.toList.set j { e0 with key := key, val := val } := by rw [Array.toList_modify, modify_eq_set _ _ _ _ h2]
    have hmem : ∀ x, x ∈ es.toList.set j { e0 with key := key, val := val } ↔ x = { e0 with key := key, val := val } ∨ (x ∈ es.toList ∧ x.key ≠ key) := by
      intro x
      constructor
      · intro hx
        obtain ⟨i, hi, rfl⟩ := List.getElem_of_mem hx
        rw [List.length_set] at hi
        by_cases hij : i = j
        · subst hij; left; simp
        · right
          rw [List.getElem_set_ne (Ne.symm hij)]
          refine ⟨List.getElem_mem _, fun hk' => hij ?_⟩
          have hn : es.toList.Pairwise (fun x y => x.key ≠ y.key) := ((stamped_iff es clock).1 hS).2.2
          have e0' : es.toList[j] = e0 := (List.getElem?_eq_some_iff.1 h2).2
          rcases Nat.lt_trichotomy i j with hlt | rfl | hlt
          · exact absurd (by rw [hk', e0', h3]) (List.pairwise_iff_getElem.1 hn i j hi hjl hlt)
          · rfl
          · exact absurd (by rw [hk', e0', h3]) (List.pairwise_iff_getElem.1 hn j i hjl hi hlt)
      · rintro (rfl | ⟨hx, hne⟩)
        · exact List.mem_set hjl _
        · obtain ⟨i, hi, rfl⟩ := List.getElem_of_mem hx
          have hij : j ≠ i := fun e => hne (by subst e; rw [(List.getElem?_eq_some_iff.1 h2).2]; exact h3)
          have := List.getElem_set_ne (l := es.toList) hij (a := { e0 with key := key, val := val }) (by rw [List.length_set]; exact hi)
          rw [← this]; exact List.getElem_mem _
    refine ⟨setBlock w b (.map (es.modify j fun e' => { e' with key := key, val := val }) clock), ?_, ⟨_, _, heap_setBlock_same hb _, ?_, ?_, ?_⟩, setBlock_grown w b _⟩
    · simp [Instr.mapUpdate, run_underlying ht, MapKept.run_getObj_map hb, K.check w false hkey, h1, hj, h3, K.stays w hkey, MapKept.run_setObj_map _ hb, Result.andThen, setBlock]
    · obtain ⟨s1, s2, s3⟩ := hS
      refine ⟨?_, ?_, ?_⟩
      · intro x hx
        rw [hlist, hmem] at hx
        rcases hx with rfl | ⟨hx, _⟩
        · exact s1 e0 hm0
        · exact s1 x hx
      · rw [hlist, List.map_set]
        have : es.toList.map (·.born) = (es.toList.map (·.born)).set j e0.born := by
          refine (List.ext_getElem? fun i => ?_)
          rw [List.getElem?_set]
          by_cases hij : j = i
          · subst hij; simp [h2, hjs, hj, hje]
          · simp [hij]
        show ((es.toList.map (·.born)).set j e0.born).Nodup
        rw [← this]; exact s2
      · rw [hlist, List.map_set]
        have : es.toList.map (·.key) = (es.toList.map (·.key)).set j key := by
          refine (List.ext_getElem? fun i => ?_)
          rw [List.getElem?_set]
          by_cases hij : j = i
          · subst hij; simp [h2, hjs, hj, h3, hje]
          · simp [hij]
        show ((es.toList.map (·.key)).set j key).Nodup
        rw [← this]; exact s3
    · intro x hx
      rw [hlist, hmem] at hx
      rcases hx with rfl | ⟨hx, _⟩
      · exact ⟨kl, hkey⟩
      · exact hk x hx
    · intro x v
      rw [hlist]
      by_cases hxk : x = key
      · subst hxk
        rw [upd_same]
        constructor
        · intro hv; cases hv; exact ⟨_, (hmem _).2 (.inl rfl), rfl, rfl⟩
        · rintro ⟨y, hy, hyk, rfl⟩
          rcases (hmem y).1 hy with rfl | ⟨_, hne⟩
          · rfl
          · exact absurd hyk hne
      · rw [upd_other _ _ hxk, hf]
        constructor
        · rintro ⟨y, hy, h4, h5⟩; exact ⟨y, (hmem y).2 (.inr ⟨hy, by rw [h4]; exact hxk⟩), h4, h5⟩
        · rintro ⟨y, hy, hyk, hyv⟩
          rcases (hmem y).1 hy with rfl | ⟨hy, _⟩
          · exact absurd hyk.symm hxk
          · exact ⟨y, hy, hyk, hyv⟩
/-- The entry for an append at a key that is not there. -/
theorem MapR.entry (h : MapR P k w b f) (K : Keyed P k) (ht : P.underlying t = some (.map k e)) {z : Value} (hz : (zeroValue e).run P w = .ok z w) {key : Value} {kl : Lit} (hkey : keyOf P k key = some kl) (hn : f key = none) :
    ∃ (w' : World) (c : Nat), (Instr.mapEntry t (.map (some b)) key).run P w = .ok (.tuple #[z, goInt c]) w' ∧ MapE P k w' b (upd f key z) key c ∧ w.grownBy w' (some b) := by
  obtain ⟨es, clock, hb, hS, hk, hf⟩ := h
  rcases K.find w hkey es.toList hk with ⟨h1, h2⟩ | ⟨j, e0, h1, h2, h3⟩
  · refine ⟨setBlock w b (.map (es.push ⟨key, z, clock⟩) (clock + 1)), clock, ?_, ⟨_, _, heap_setBlock_same hb _, stamped_push hS h2, ?_, ?_, ?_⟩, setBlock_grown w b _⟩
    · simp [Instr.mapEntry, run_underlying ht, MapKept.run_getObj_map hb, K.check w false hkey, h1, hz, MapKept.run_setObj_map _ hb, Result.andThen, setBlock]
    · intro x hx
      simp only [Array.toList_push, List.mem_append, List.mem_singleton] at hx
      rcases hx with hx | rfl
      · exact hk x hx
      · exact ⟨kl, hkey⟩
    · intro x v
      simp only [Array.toList_push, List.mem_append, List.mem_singleton]
      by_cases hxk : x = key
      · subst hxk
        rw [upd_same]
        constructor
        · intro hv; cases hv; exact ⟨_, .inr rfl, rfl, rfl⟩
        · rintro ⟨y, hy | rfl, hyk, rfl⟩
          · exact absurd hyk (h2 y hy)
          · rfl
      · rw [upd_other _ _ hxk, hf]
        constructor
        · rintro ⟨y, hy, h3, h4⟩; exact ⟨y, .inl hy, h3, h4⟩
        · rintro ⟨y, hy | rfl, hyk, hyv⟩
          · exact ⟨y, hy, hyk, hyv⟩
          · exact absurd hyk.symm hxk
    · exact ⟨⟨key, z, clock⟩, by simp, rfl, rfl⟩
  · have := (hf key e0.val).2 ⟨e0, List.mem_of_getElem? h2, h3, rfl⟩
    rw [hn] at this; cases this
/-- The store back into the entry. -/
theorem MapE.back {key : Value} {c : Nat} (h : MapE P k w b f key c) (val : Value) :
    ∃ w', (Instr.entryStore t (.map (some b)) (goInt c) val).run P w = .ok () w' ∧ MapR P k w' b (upd f key val) ∧ w.grownBy w' (some b) := by
  obtain ⟨es, clock, hb, hS, hk, hf, e0, he0, hek, hec⟩ := h
  obtain ⟨s1, s2, s3⟩ := hS
  obtain ⟨j, hj, rfl⟩ := List.getElem_of_mem he0
  have hjs : j < es.size := by simpa using hj
  have hb1 : ∀ i (hi : i < es.size), ((es[i].born : Int) == (c : Int)) = decide (i = j) := by
    intro i hi
    rw [Bool.eq_iff_iff]
    simp only [beq_iff_eq, decide_eq_true_eq]
    constructor
    · intro he
      have he' : es[i].born = c := by omega
      have hii : i < es.toList.length := by simpa using hi
      rw [← hec] at he'
      exact nodup_idx (fun (x : MapEntry) => x.born) s2 hii hj (by simpa using he')
    · rintro rfl
      have : es[i].born = c := by simpa using hec
      rw [this]
  have hidx : es.findIdx? (fun e => (e.born : Int) == (c : Int)) = some j := by
    rw [Array.findIdx?_eq_some_iff_getElem]
    refine ⟨hjs, by rw [hb1 j hjs]; simp, fun i hi => ?_⟩
    rw [hb1 i (by omega)]
    simp; omega
  have h2 : es.toList[j]? = some es.toList[j] := List.getElem?_eq_getElem hj
  have hlist : (es.modify j (fun e' => { e' with val := val })).toList = es.toList.set j { es.toList[j] with val := val } := by rw [Array.toList_modify, modify_eq_set _ _ _ _ h2]
  have hkeys : (es.toList.set j { es.toList[j] with val := val }).map (·.key) = es.toList.map (·.key) := by
    rw [List.map_set]
    refine (List.ext_getElem? fun i => ?_)
    rw [List.getElem?_set]
    by_cases hij : j = i
    · subst hij; simp [hjs]
    · simp [hij]
  have hborn : (es.toList.set j { es.toList[j] with val := val }).map (·.born) = es.toList.map (·.born) := by
    rw [List.map_set]
    refine (List.ext_getElem? fun i => ?_)
    rw [List.getElem?_set]
    by_cases hij : j = i
    · subst hij; simp [hjs]
    · simp [hij]
  have hmem : ∀ x, x ∈ es.toList.set j { es.toList[j] with val := val } ↔ x = { es.toList[j] with val := val } ∨ (x ∈ es.toList ∧ x.key ≠ key) := by
    intro x
    constructor
    · intro hx
      obtain ⟨i, hi, rfl⟩ := List.getElem_of_mem hx
      rw [List.length_set] at hi
      by_cases hij : i = j
      · subst hij; left; simp
      · right
        rw [List.getElem_set_ne (Ne.symm hij)]
        refine ⟨List.getElem_mem _, fun hk' => hij ?_⟩
        exact nodup_idx (fun (x : MapEntry) => x.key) s3 hi hj (by rw [hk', hek])
    · rintro (rfl | ⟨hx, hne⟩)
      · exact List.mem_set hj _
      · obtain ⟨i, hi, rfl⟩ := List.getElem_of_mem hx
        have hij : j ≠ i := fun e => hne (by subst e; exact hek)
        have := List.getElem_set_ne (l := es.toList) hij (a := { es.toList[j] with val := val }) (by rw [List.length_set]; exact hi)
        rw [← this]; exact List.getElem_mem _
  refine ⟨setBlock w b (.map (es.modify j fun e' => { e' with val := val }) clock), ?_, ⟨_, _, heap_setBlock_same hb _, ⟨?_, ?_, ?_⟩, ?_, ?_⟩, setBlock_grown w b _⟩
  · simp [Instr.entryStore, MapKept.run_getObj_map hb, asInt, asIntOf, goInt, hidx, MapKept.run_setObj_map _ hb, Result.andThen, setBlock]
  · intro x hx
    rw [hlist, hmem] at hx
    rcases hx with rfl | ⟨hx, _⟩
    · exact s1 es.toList[j] he0
    · exact s1 x hx
  · rw [hlist, hborn]; exact s2
  · rw [hlist, hkeys]; exact s3
  · intro x hx
    rw [hlist, hmem] at hx
    rcases hx with rfl | ⟨hx, _⟩
    · exact hk es.toList[j] he0
    · exact hk x hx
  · intro x v
    rw [hlist]
    by_cases hxk : x = key
    · subst hxk
      rw [upd_same]
      constructor
      · intro hv; cases hv; exact ⟨_, (hmem _).2 (.inl rfl), hek, rfl⟩
      · rintro ⟨y, hy, hyk, rfl⟩
        rcases (hmem y).1 hy with rfl | ⟨_, hne⟩
        · rfl
        · exact absurd hyk hne
    · rw [upd_other _ _ hxk, hf]
      constructor
      · rintro ⟨y, hy, h4, h5⟩; exact ⟨y, (hmem y).2 (.inr ⟨hy, by rw [h4]; exact hxk⟩), h4, h5⟩
      · rintro ⟨y, hy, hyk, hyv⟩
        rcases (hmem y).1 hy with rfl | ⟨hy, _⟩
        · exact absurd (hek.symm.trans hyk) (fun e => hxk e.symm)
        · exact ⟨y, hy, hyk, hyv⟩
variable {ops : Array Oper} {rest : List Oper} {o : Oper} {a : Act} {Q : Exit → Act → World → Prop}
end
end Nt

namespace Nt
/-- The number of a figure of base64; 255 where the byte is none. -/
def fg (b : UInt8) : Nat :=
  if 65 ≤ b.toNat ∧ b.toNat ≤ 90 then b.toNat - 65
  else if 97 ≤ b.toNat ∧ b.toNat ≤ 122 then b.toNat - 71
  else if 48 ≤ b.toNat ∧ b.toNat ≤ 57 then b.toNat + 4
  else if b.toNat = 43 then 62
  else if b.toNat = 47 then 63
  else 255
theorem fg_lt (b : UInt8) : fg b < 64 ∨ fg b = 255 := by
  have h := b.toNat_lt
  unfold fg
  repeat' split
  all_goals omega
/-- The three bytes of four figures, as one number. -/
def q4 (x y z t : Nat) : Nat := x * 262144 + y * 4096 + z * 64 + t
def by0 (n : Nat) : UInt8 := UInt8.ofNat (n / 65536)
def by1 (n : Nat) : UInt8 := UInt8.ofNat (n / 256)
def by2 (n : Nat) : UInt8 := UInt8.ofNat n
/-- What base64 with its padding stands for; none where it is no base64. -/
def std : List UInt8 → Option (List UInt8)
  | [] => some []
  | a :: b :: c :: d :: r =>
    if fg a = 255 ∨ fg b = 255 then none
    else if fg c = 255 then
      if c.toNat = 61 ∧ d.toNat = 61 ∧ r = [] then some [by0 (q4 (fg a) (fg b) 0 0)] else none
    else if fg d = 255 then
      if d.toNat = 61 ∧ r = [] then some [by0 (q4 (fg a) (fg b) (fg c) 0), by1 (q4 (fg a) (fg b) (fg c) 0)] else none
    else (std r).map fun l => by0 (q4 (fg a) (fg b) (fg c) (fg d)) :: by1 (q4 (fg a) (fg b) (fg c) (fg d)) :: by2 (q4 (fg a) (fg b) (fg c) (fg d)) :: l
  | _ => none
/-- Do the bits of the last quantum that stand for nothing hold nothing? (asked only where 'std' is some) -/
def clr : List UInt8 → Bool
  | a :: b :: c :: d :: r =>
    if fg c = 255 then q4 (fg a) (fg b) 0 0 % 65536 == 0
    else if fg d = 255 then q4 (fg a) (fg b) (fg c) 0 % 256 == 0
    else clr r
  | _ => true
theorem std_mod {s : List UInt8} {l : List UInt8} (h : std s = some l) : s.length % 4 = 0 := by
  induction s using std.induct generalizing l with
  | case1 => simp
  | case2 a b c d r h1 => simp [std, h1] at h
  | case3 a b c d r h1 h2 h3 => simp [h3.2.2]
  | case4 a b c d r h1 h2 h3 => rw [std, if_neg h1, if_pos h2, if_neg h3] at h; cases h
  | case5 a b c d r h1 h2 h3 h4 => simp [h4.2]
  | case6 a b c d r h1 h2 h3 h4 => rw [std, if_neg h1, if_neg h2, if_pos h3, if_neg h4] at h; cases h
  | case7 a b c d r h1 h2 h3 ih =>
    rw [std, if_neg h1, if_neg h2, if_neg h3, Option.map_eq_some_iff] at h
    obtain ⟨l', hl, _⟩ := h
    have := ih hl
    simp only [List.length_cons]
    omega
  | case8 s h1 h2 =>
    match s, h1, h2 with
    | [], h1, _ => exact absurd rfl h1
    | [a], _, _ => simp [std] at h
    | [a, b], _, _ => simp [std] at h
    | [a, b, c], _, _ => simp [std] at h
    | a :: b :: c :: d :: r, _, h2 => exact absurd rfl (h2 a b c d r)
end Nt
