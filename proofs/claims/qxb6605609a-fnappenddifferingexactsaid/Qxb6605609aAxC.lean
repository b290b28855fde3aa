import Derived.Test.Qxb6605609aAxB
namespace Go.Proofs.Qxb6605609a
open Go.RowKit Go.Deep Go.MapKept
open Go.ChangeMaps (setBlock)

/-- What the entries of a map with strings for keys keep. -/
structure Ents (es : Array MapEntry) (clock : Nat) : Prop where
  born : ∀ x ∈ es.toList, x.born < clock
  nodup : (es.toList.map (·.born)).Nodup
  keys : ∀ x ∈ es.toList, ∃ s, x.key = .string s
  kdist : (es.toList.map (·.key)).Nodup

theorem MapIs.ents {w : World} {r : Nat} {es : Array MapEntry} {clock : Nat} (h : MapIs w r es clock) : Ents es clock := ⟨h.born, h.nodup, h.keys, h.kdist⟩
theorem Ents.at {w : World} {r : Nat} {es : Array MapEntry} {clock : Nat} (h : Ents es clock) (hb : w.heap[r]? = some (.map es clock)) : MapIs w r es clock := ⟨hb, h.born, h.nodup, h.keys, h.kdist⟩

/-- The entries behind a store. -/
structure Turned (es es' : Array MapEntry) (key : ByteArray) (val : Value) : Prop where
  down : ∀ x ∈ es'.toList, (x.key = .string key ∧ x.val = val) ∨ (x.key ≠ .string key ∧ x ∈ es.toList)
  here : ∃ x ∈ es'.toList, x.key = .string key
  up : ∀ y ∈ es.toList, ∃ x ∈ es'.toList, x.key = y.key

theorem store_any (mty et : TypeId) (hm : Try.prog.underlying mty = some (.map 9 et)) {es : Array MapEntry} {clock : Nat} (h : Ents es clock) (r : Nat) (key : ByteArray) (val : Value) :
    ∃ es' clock', (∀ w : World, w.heap[r]? = some (.map es clock) → (Instr.mapUpdate mty (.map (some r)) (.string key) val).run Try.prog w = .ok () (setBlock w r (.map es' clock'))) ∧ Ents es' clock' ∧ es'.size ≤ es.size + 1 ∧ Turned es es' key val := by
  have hk : IsKey .string (.string key) := by simp [IsKey]
  have hks : ∀ x ∈ es.toList, IsKey .string x.key := fun x hx => by obtain ⟨s, e⟩ := h.keys x hx; rw [e]; simp [IsKey]
  rcases findNow_spec hk es.toList 0 hks with ⟨h1, h2⟩ | ⟨j, e, h1, h2, h3⟩
  · refine ⟨es.push { key := .string key, val := val, born := clock }, clock + 1, fun w hb => ?_, ⟨?_, ?_, ?_, ?_⟩, by simp, ⟨?_, ?_, ?_⟩⟩
    · simp [Instr.mapUpdate, run_underlying hm, MapKept.run_getObj_map hb, run_checkKey Try.underlying9 hk, run_findKey Try.underlying9 h1, run_setObj_map _ hb, Result.andThen, setBlock]
    · intro x hx
      simp only [Array.toList_push, List.mem_append, List.mem_singleton] at hx
      rcases hx with hx | rfl
      · have := h.born x hx; omega
      · simp
    · simp only [Array.toList_push, List.map_append, List.map_cons, List.map_nil]
      refine List.nodup_append.2 ⟨h.nodup, by simp, ?_⟩
      intro a ha b hb
      simp at hb
      obtain ⟨x, hx, rfl⟩ := List.mem_map.1 ha
      have := h.born x hx
      omega
    · intro x hx
      simp only [Array.toList_push, List.mem_append, List.mem_singleton] at hx
      rcases hx with hx | rfl
      · exact h.keys x hx
      · exact ⟨key, rfl⟩
    · simp only [Array.toList_push, List.map_append, List.map_cons, List.map_nil]
      refine List.nodup_append.2 ⟨h.kdist, by simp, ?_⟩
      intro a ha b hb
      simp at hb
      obtain ⟨x, hx, rfl⟩ := List.mem_map.1 ha
      rw [hb]
      exact h2 x hx
    · intro x hx
      simp only [Array.toList_push, List.mem_append, List.mem_singleton] at hx
      rcases hx with hx | rfl
      · exact Or.inr ⟨h2 x hx, hx⟩
      · exact Or.inl ⟨rfl, rfl⟩
    · exact ⟨{ key := .string key, val := val, born := clock }, by simp, rfl⟩
    · intro y hy
      exact ⟨y, by simp at hy ⊢; exact Or.inl hy, rfl⟩
  · have hj : es[j]? = some e := by simpa using h2
    have hjl : j < es.toList.length := (List.getElem?_eq_some_iff.1 h2).1
    obtain ⟨f, hf⟩ : ∃ f : MapEntry → MapEntry, f = fun x => { x with key := .string key, val := val } := ⟨_, rfl⟩
    have hl : (es.modify j f).toList = es.toList.modify j f := Array.toList_modify ..
    have hget : ∀ i x, (es.toList.modify j f)[i]? = some x → (i = j ∧ x = f e) ∨ (i ≠ j ∧ es.toList[i]? = some x) := fun i x hi => by
      rw [List.getElem?_modify] at hi
      by_cases hij : j = i
      · subst hij
        simp only [if_true] at hi
        rw [h2] at hi
        simp at hi
        exact Or.inl ⟨rfl, hi.symm⟩
      · simp only [if_neg hij] at hi
        exact Or.inr ⟨fun e => hij e.symm, by simpa using hi⟩
    have hmapk : ∀ {β : Type} (g : MapEntry → β), g (f e) = g e → (es.toList.modify j f).map g = es.toList.map g := fun g hg => by
      apply List.ext_getElem?
      intro i
      rw [List.getElem?_map, List.getElem?_map, List.getElem?_modify]
      by_cases hij : j = i
      · subst hij; simp [h2, hg]
      · simp [hij]
    have hfk : (f e).key = e.key := by rw [hf]; exact h3.symm
    have hfb : (f e).born = e.born := by rw [hf]
    have hmem : ∀ x ∈ es.toList.modify j f, x = f e ∨ ∃ i, i ≠ j ∧ es.toList[i]? = some x := fun x hx => by
      obtain ⟨i, hi⟩ := List.getElem?_of_mem hx
      rcases hget i x hi with ⟨_, h⟩ | ⟨h, h'⟩
      · exact Or.inl h
      · exact Or.inr ⟨i, h, h'⟩
    have hfe : f e ∈ es.toList.modify j f := List.mem_of_getElem? (i := j) (by rw [List.getElem?_modify]; simp [h2])
    refine ⟨es.modify j f, clock, fun w hb => ?_, ⟨?_, ?_, ?_, ?_⟩, by simp, ⟨?_, ?_, ?_⟩⟩
    · simp [Instr.mapUpdate, run_underlying hm, MapKept.run_getObj_map hb, run_checkKey Try.underlying9 hk, run_findKey Try.underlying9 h1, hj, h3, run_keyThatStays hk, run_setObj_map _ hb, Result.andThen, setBlock, hf]
    · intro x hx
      rw [hl] at hx
      rcases hmem x hx with rfl | ⟨i, _, hi⟩
      · rw [hfb]; exact h.born e (List.mem_of_getElem? h2)
      · exact h.born x (List.mem_of_getElem? hi)
    · rw [hl, hmapk _ hfb]; exact h.nodup
    · intro x hx
      rw [hl] at hx
      rcases hmem x hx with rfl | ⟨i, _, hi⟩
      · exact ⟨key, by rw [hfk, h3]⟩
      · exact h.keys x (List.mem_of_getElem? hi)
    · rw [hl, hmapk _ hfk]; exact h.kdist
    · intro x hx
      rw [hl] at hx
      rcases hmem x hx with rfl | ⟨i, hne, hi⟩
      · exact Or.inl ⟨by rw [hfk, h3], by rw [hf]⟩
      · refine Or.inr ⟨fun hxk => hne ?_, List.mem_of_getElem? hi⟩
        refine (List.getElem?_inj (l := es.toList.map (·.key)) (by simpa using (List.getElem?_eq_some_iff.1 hi).1) h.kdist).1 ?_
        rw [List.getElem?_map, List.getElem?_map, hi, h2]
        simp [hxk, h3]
    · exact ⟨f e, by rw [hl]; exact hfe, by rw [hfk, h3]⟩
    · intro y hy
      obtain ⟨i, hi⟩ := List.getElem?_of_mem hy
      by_cases hij : i = j
      · subst hij
        rw [h2] at hi
        simp at hi
        subst hi
        exact ⟨f e, by rw [hl]; exact hfe, hfk⟩
      · refine ⟨y, ?_, rfl⟩
        rw [hl]
        exact List.mem_of_getElem? (i := i) (by rw [List.getElem?_modify, hi]; simp [show ¬ j = i from fun e => hij e.symm])

/-! ### What a store into a map leaves -/
def Turn (w w' : World) (r : Nat) : Prop := ∃ es clock es' clock', w.heap[r]? = some (.map es clock) ∧ w' = setBlock w r (.map es' clock')

theorem Turn.other {w w' : World} {r k : Nat} (h : Turn w w' r) (hk : k ≠ r) : w'.heap[k]? = w.heap[k]? := by
  obtain ⟨_, _, _, _, _, rfl⟩ := h
  simp only [setBlock]
  rw [Array.getElem?_setIfInBounds_ne (fun e => hk e.symm)]

theorem Turn.cell {w w' : World} {r : Nat} (h : Turn w w' r) {b o : Nat} {v : Value} (hc : w.cell? ⟨b, o, none⟩ = some v) : w'.cell? ⟨b, o, none⟩ = some v := by
  have hne : b ≠ r := fun e => by
    obtain ⟨es, clock, _, _, hb, _⟩ := h
    simp [World.cell?, e, hb] at hc
  have := h.other hne
  simp only [World.cell?, this] at hc ⊢
  exact hc

theorem Turn.grown {w w' : World} {r : Nat} (h : Turn w w' r) : w.grownBy w' (some r) := by
  obtain ⟨_, _, _, _, _, rfl⟩ := h
  exact grown_setBlock (Or.inl rfl) r _

theorem Turn.belowAt {w0 w w' : World} {r B : Nat} (h : Turn w w' r) (hb : Below B w0 w) (hB : B ≤ w.heap.size) (hr : B ≤ r) : Below B w0 w' := hb.grown h.grown hB (fun k hk => by cases hk; exact hr)

theorem StrsAt.turn {w w' : World} {r : Nat} {v : Value} {l : List ByteArray} (h : StrsAt w v l) (ht : Turn w w' r) : StrsAt w' v l := by
  obtain ⟨ao, cap, b, off, h1, h2, h3, h4⟩ := h
  exact ⟨ao, cap, b, off, h1, h2, h3, fun i hi => ht.cell (h4 i hi)⟩

theorem ListsAt.turn {w w' : World} {r : Nat} {v : Value} {ls : List (List ByteArray)} (h : ListsAt w v ls) (ht : Turn w w' r) : ListsAt w' v ls := by
  obtain ⟨ao, cap, b, off, h1, h2, h3, h4⟩ := h
  refine ⟨ao, cap, b, off, h1, h2, h3, fun i hi => ?_⟩
  obtain ⟨rv, h5, h6⟩ := h4 i hi
  exact ⟨rv, ht.cell h5, h6.turn ht⟩

theorem MapV.turn {w w' : World} {r : Nat} {mv : Value} {F : ByteArray → Option (List ByteArray)} (h : MapV w mv F) (ht : Turn w w' r) (hne : mv ≠ .map (some r)) : MapV w' mv F := by
  rcases h with h | ⟨r', es, clock, h1, h2, h3⟩
  · exact Or.inl h
  · refine Or.inr ⟨r', es, clock, h1, h2.ents.at (by rw [ht.other (fun e => hne (by rw [h1, e]))]; exact h2.blk), ⟨fun x hx => ?_, h3.up, h3.len, h3.short⟩⟩
    obtain ⟨s, l, e1, e2, e3⟩ := h3.down x hx
    exact ⟨s, l, e1, e2, e3.turn ht⟩

/-- A map that is being filled. -/
def MapR (w : World) (r n : Nat) (lk : List ByteArray) : Prop := ∃ es clock F, MapIs w r es clock ∧ Reads w es F ∧ es.size ≤ n ∧ ∀ s l, F s = some l → s ∈ lk

theorem MapR.start (w : World) (lk : List ByteArray) : MapR (w.alloc (.map #[] 0)) w.heap.size 0 lk :=
  ⟨#[], 0, F0, ⟨Go.heap_alloc_new w _, fun x hx => by simp at hx, by simp, fun x hx => by simp at hx, by simp⟩, ⟨fun x hx => by simp at hx, fun s l e => by simp [F0] at e, by simp, fun s l e => by simp [F0] at e⟩, by simp, fun s l e => by simp [F0] at e⟩

theorem MapR.done {w : World} {r n : Nat} {lk : List ByteArray} (h : MapR w r n lk) : ∃ F, MapV w (.map (some r)) F ∧ ∀ s l, F s = some l → s ∈ lk := by
  obtain ⟨es, clock, F, h1, h2, _, h4⟩ := h
  exact ⟨F, Or.inr ⟨r, es, clock, rfl, h1, h2⟩, h4⟩

theorem MapR.put {w : World} {r n : Nat} {lk l : List ByteArray} (h : MapR w r n lk) (hn : n < 1048576) {key : ByteArray} (hk : key ∈ lk) {v : Value} (hv : StrsAt w v l) (hl : l.length ≤ 1048576) :
    ∃ o, (∀ w1 : World, w1.heap[r]? = w.heap[r]? → (Instr.mapUpdate 29 (.map (some r)) (.string key) v).run Try.prog w1 = .ok () (setBlock w1 r o)) ∧ Turn w (setBlock w r o) r ∧ MapR (setBlock w r o) r (n + 1) lk := by
  obtain ⟨es, clock, F, h1, h2, h3, h4⟩ := h
  obtain ⟨es', clock', hrun, he, hs, ht⟩ := store_any 29 22 Try.underlying29 h1.ents r key v
  have hT : Turn w (setBlock w r (.map es' clock')) r := ⟨es, clock, es', clock', h1.blk, rfl⟩
  refine ⟨.map es' clock', fun w1 hw => hrun w1 (by rw [hw]; exact h1.blk), hT, es', clock', fun s => if s = key then some l else F s, he.at (heap_set h1.blk).1, ⟨fun x hx => ?_, fun s l' e => ?_, by omega, fun s l' e => ?_⟩, by omega, fun s l' e => ?_⟩
  · rcases ht.down x hx with ⟨e1, e2⟩ | ⟨e1, e2⟩
    · exact ⟨key, l, e1, by simp, by rw [e2]; exact hv.turn hT⟩
    · obtain ⟨s, l', f1, f2, f3⟩ := h2.down x e2
      refine ⟨s, l', f1, ?_, f3.turn hT⟩
      rw [if_neg (fun e => e1 (by rw [f1, e]))]
      exact f2
  · by_cases hs : s = key
    · subst hs; exact ht.here
    · simp only [if_neg hs] at e
      obtain ⟨y, hy, e1⟩ := h2.up s l' e
      obtain ⟨x, hx, e2⟩ := ht.up y hy
      exact ⟨x, hx, by rw [e2, e1]⟩
  · by_cases hs : s = key
    · simp only [if_pos hs, Option.some.injEq] at e; subst e; exact hl
    · simp only [if_neg hs] at e; exact h2.short s l' e
  · by_cases hs : s = key
    · rw [hs]; exact hk
    · simp only [if_neg hs] at e; exact h4 s l' e
end Go.Proofs.Qxb6605609a
