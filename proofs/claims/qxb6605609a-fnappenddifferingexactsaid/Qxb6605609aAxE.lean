import Derived.Test.Qxb6605609aAxD
namespace Go.Proofs.Qxb6605609a
open Go.RowKit Go.Deep Go.MapKept
open Go.ChangeMaps (setBlock)

theorem zero4 (w : World) : (zeroValue 4).run Try.prog w = .ok (.bool false) w := by kernel_rfl

/-- Block r is the set S: a map of strings to bools, each true. -/
def SetV (w : World) (r : Nat) (S : List ByteArray) : Prop := ∃ es clock, MapIs w r es clock ∧ (∀ x ∈ es.toList, x.val = .bool true) ∧ ∀ s, s ∈ S ↔ ∃ x ∈ es.toList, x.key = .string s

theorem SetV.below {w w' : World} {r : Nat} {S : List ByteArray} (h : SetV w r S) (hb : Below w.heap.size w w') : SetV w' r S := by
  obtain ⟨es, clock, h1, h2, h3⟩ := h
  exact ⟨es, clock, h1.ents.at (by rw [hb.block r (Array.getElem?_eq_some_iff.1 h1.blk).1]; exact h1.blk), h2, h3⟩

theorem SetV.turn {w w' : World} {r r' : Nat} {S : List ByteArray} (h : SetV w r S) (ht : Turn w w' r') (hne : r ≠ r') : SetV w' r S := by
  obtain ⟨es, clock, h1, h2, h3⟩ := h
  exact ⟨es, clock, h1.ents.at (by rw [ht.other hne]; exact h1.blk), h2, h3⟩

theorem SetV.start {w : World} {r : Nat} (h : w.heap[r]? = some (.map #[] 0)) : SetV w r [] :=
  ⟨#[], 0, ⟨h, fun x hx => by simp at hx, by simp, fun x hx => by simp at hx, by simp⟩, fun x hx => by simp at hx, fun s => by simp⟩

theorem SetV.look {w : World} {r : Nat} {S : List ByteArray} (h : SetV w r S) (k : ByteArray) (t : Bool) (ht : t = true ↔ k ∈ S) : (Instr.lookup 31 (.map (some r)) (.string k) false).run Try.prog w = .ok (.bool t) w := by
  obtain ⟨es, clock, hM, h2, h3⟩ := h
  have hk : IsKey .string (.string k) := by simp [IsKey]
  rcases findNow_spec hk es.toList 0 (fun x hx => by obtain ⟨s, e⟩ := hM.keys x hx; rw [e]; simp [IsKey]) with ⟨g1, g2⟩ | ⟨j, e, g1, g2, g3⟩
  · obtain rfl : t = false := by
      cases t with
      | false => rfl
      | true =>
        obtain ⟨x, hx, e⟩ := (h3 k).1 (ht.1 rfl)
        exact absurd e (g2 x hx)
    simp only [Instr.lookup, Sem.run_bind, run_underlying Try.underlying31, Result.andThen, Sem.run_pure, MapKept.run_getObj_map hM.blk, run_checkKey (w := w) (k := .string k) Try.underlying9 (by simp [IsKey]), run_findKey (w := w) Try.underlying9 g1, zero4]
    rfl
  · have he : e ∈ es.toList := List.mem_of_getElem? g2
    obtain rfl : t = true := ht.2 ((h3 k).2 ⟨e, he, g3⟩)
    simp only [Instr.lookup, Sem.run_bind, run_underlying Try.underlying31, Result.andThen, Sem.run_pure, MapKept.run_getObj_map hM.blk, run_checkKey (w := w) (k := .string k) Try.underlying9 (by simp [IsKey]), run_findKey (w := w) Try.underlying9 g1, h2 e he]
    rfl

theorem SetV.put {w : World} {r : Nat} {S : List ByteArray} (h : SetV w r S) (k : ByteArray) :
    ∃ w', (Instr.mapUpdate 31 (.map (some r)) (.string k) (.bool true)).run Try.prog w = .ok () w' ∧ Turn w w' r ∧ SetV w' r (k :: S) := by
  obtain ⟨es, clock, hM, h2, h3⟩ := h
  obtain ⟨es', clock', hrun, he, hs, ht⟩ := store_any 31 4 Try.underlying31 hM.ents r k (.bool true)
  refine ⟨_, hrun w hM.blk, ⟨es, clock, es', clock', hM.blk, rfl⟩, es', clock', he.at (heap_set hM.blk).1, fun x hx => ?_, fun s => ?_⟩
  · rcases ht.down x hx with ⟨_, e⟩ | ⟨_, e⟩
    · exact e
    · exact h2 x e
  · rw [List.mem_cons, h3 s]
    constructor
    · rintro (rfl | ⟨y, hy, e⟩)
      · exact ht.here
      · obtain ⟨x, hx, e'⟩ := ht.up y hy
        exact ⟨x, hx, by rw [e', e]⟩
    · rintro ⟨x, hx, e⟩
      rcases ht.down x hx with ⟨e1, _⟩ | ⟨_, e2⟩
      · rw [e] at e1; simp at e1; exact Or.inl e1
      · exact Or.inr ⟨x, e2, e⟩

/-! ### The plain laws -/
theorem nodup_le : ∀ (l m : List ByteArray), l.Nodup → (∀ x ∈ l, x ∈ m) → l.length ≤ m.length
  | [], _, _, _ => by simp
  | a :: l, m, hn, hs => by
    rw [List.nodup_cons] at hn
    obtain ⟨p, q, rfl⟩ := List.append_of_mem (hs a (by simp))
    have := nodup_le l (p ++ q) hn.2 (fun x hx => by
      have hne : x ≠ a := fun e => hn.1 (e ▸ hx)
      have := hs x (by simp [hx])
      simp only [List.mem_append, List.mem_cons] at this ⊢
      rcases this with h | h | h
      · exact Or.inl h
      · exact absurd h hne
      · exact Or.inr h)
    simp only [List.length_append, List.length_cons] at this ⊢
    omega

theorem nodup_eq {l m : List ByteArray} (hl : l.Nodup) (hm : m.Nodup) (h : ∀ x, x ∈ l ↔ x ∈ m) : l.length = m.length :=
  Nat.le_antisymm (nodup_le l m hl (fun x hx => (h x).1 hx)) (nodup_le m l hm (fun x hx => (h x).2 hx))

/-- What loop 1 has gathered behind k keys. -/
structure Got (Fb Fa : ByteArray → Option (List ByteArray)) (L : List ByteArray) (k : Nat) (cs ws : List ByteArray) : Prop where
  nodup : ws.Nodup
  seen : ∀ s, s ∈ cs ↔ s ∈ L.take k
  want : ∀ s, s ∈ ws ↔ s ∈ L.take k ∧ P1 Fb Fa s
  len : ws.length ≤ k

theorem take_one {L : List ByteArray} {k : Nat} (hk : k < L.length) {y : ByteArray} (hy : L.getD k ⟨#[]⟩ = y) (s : ByteArray) : s ∈ L.take (k + 1) ↔ s ∈ L.take k ∨ s = y := by
  rw [List.take_add_one, List.getElem?_eq_getElem hk, getD_mem L k hk, hy]
  simp

theorem Got.start (Fb Fa : ByteArray → Option (List ByteArray)) (L : List ByteArray) : Got Fb Fa L 0 [] [] := ⟨by simp, by simp, by simp, by simp⟩

theorem Got.old {Fb Fa : ByteArray → Option (List ByteArray)} {L : List ByteArray} {k : Nat} {cs ws : List ByteArray} (h : Got Fb Fa L k cs ws) (hk : k < L.length) {y : ByteArray} (hy : L.getD k ⟨#[]⟩ = y) (hc : y ∈ cs) : Got Fb Fa L (k + 1) cs ws := by
  have hin : ∀ s, s ∈ L.take (k + 1) ↔ s ∈ L.take k := fun s => by
    rw [take_one hk hy]
    exact ⟨fun h' => h'.elim id (fun e => e ▸ (h.seen y).1 hc), Or.inl⟩
  exact ⟨h.nodup, fun s => by rw [hin, h.seen], fun s => by rw [hin, h.want], by have := h.len; omega⟩

theorem Got.same {Fb Fa : ByteArray → Option (List ByteArray)} {L : List ByteArray} {k : Nat} {cs ws : List ByteArray} (h : Got Fb Fa L k cs ws) (hk : k < L.length) {y : ByteArray} (hy : L.getD k ⟨#[]⟩ = y) (hp : ¬ P1 Fb Fa y) : Got Fb Fa L (k + 1) (y :: cs) ws := by
  refine ⟨h.nodup, fun s => ?_, fun s => ?_, by have := h.len; omega⟩
  · rw [take_one hk hy, List.mem_cons, h.seen]; exact or_comm
  · rw [take_one hk hy, h.want]
    constructor
    · rintro ⟨h1, h2⟩; exact ⟨Or.inl h1, h2⟩
    · rintro ⟨h1 | rfl, h2⟩
      · exact ⟨h1, h2⟩
      · exact absurd h2 hp

theorem Got.more {Fb Fa : ByteArray → Option (List ByteArray)} {L : List ByteArray} {k : Nat} {cs ws : List ByteArray} (h : Got Fb Fa L k cs ws) (hk : k < L.length) {y : ByteArray} (hy : L.getD k ⟨#[]⟩ = y) (hc : y ∉ cs) (hp : P1 Fb Fa y) : Got Fb Fa L (k + 1) (y :: cs) (y :: ws) := by
  refine ⟨List.nodup_cons.2 ⟨fun hm => hc ((h.seen y).2 ((h.want y).1 hm).1), h.nodup⟩, fun s => ?_, fun s => ?_, by have := h.len; simp; omega⟩
  · rw [take_one hk hy, List.mem_cons, h.seen]; exact or_comm
  · rw [take_one hk hy, List.mem_cons, h.want]
    constructor
    · rintro (rfl | ⟨h1, h2⟩)
      · exact ⟨Or.inr rfl, hp⟩
      · exact ⟨Or.inl h1, h2⟩
    · rintro ⟨h1 | rfl, h2⟩
      · exact Or.inr ⟨h1, h2⟩
      · exact Or.inl rfl

/-- At the end just the keys that differ are wanted. -/
theorem Got.all {Fb Fa : ByteArray → Option (List ByteArray)} {lb la cs ws : List ByteArray} (h : Got Fb Fa (lb ++ la) (lb ++ la).length cs ws) (hb : ∀ s l, Fb s = some l → s ∈ lb) (ha : ∀ s l, Fa s = some l → s ∈ la) (s : ByteArray) : s ∈ ws ↔ P1 Fb Fa s := by
  rw [h.want, List.take_length]
  constructor
  · exact fun h => h.2
  · intro hp
    refine ⟨?_, hp⟩
    rw [List.mem_append]
    cases e1 : Fb s with
    | some l => exact Or.inl (hb s l e1)
    | none =>
      cases e2 : Fa s with
      | some l => exact Or.inr (ha s l e2)
      | none => exact absurd (by rw [e1, e2]) hp

theorem not_in_take {ext : List ByteArray} (hn : ext.Nodup) {j : Nat} (hj : j < ext.length) : ext.getD j ⟨#[]⟩ ∉ ext.take j := by
  intro hm
  obtain ⟨i, hi⟩ := List.getElem?_of_mem hm
  have hij : i < j := by
    have := (List.getElem?_eq_some_iff.1 hi).1
    rw [List.length_take] at this
    omega
  rw [List.getElem?_take, if_pos hij] at hi
  have : i = j := (List.getElem?_inj (by omega) hn).1 (by rw [hi, List.getElem?_eq_getElem hj, getD_mem])
  omega
end Go.Proofs.Qxb6605609a
