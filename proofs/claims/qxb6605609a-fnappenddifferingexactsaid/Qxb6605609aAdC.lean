import Derived.Test.Qxb6605609aAdB
import Derived.Maps.RangeRun
namespace Go.Proofs.Qxb6605609a
open Go.RowKit Go.Deep Go.MapKept
open Go.ChangeMaps (setBlock)

theorem zero22 (w : World) : (zeroValue 22).run Try.prog w = .ok (.slice none 0 0) w := by kernel_rfl

/-- Block r is a map of strings to slices; its entries are es. -/
structure MapIs (w : World) (r : Nat) (es : Array MapEntry) (clock : Nat) : Prop where
  blk : w.heap[r]? = some (.map es clock)
  born : ∀ x ∈ es.toList, x.born < clock
  nodup : (es.toList.map (·.born)).Nodup
  keys : ∀ x ∈ es.toList, ∃ s, x.key = .string s
  kdist : (es.toList.map (·.key)).Nodup

/-- What the entries read as. -/
structure Reads (w : World) (es : Array MapEntry) (F : ByteArray → Option (List ByteArray)) : Prop where
  down : ∀ x ∈ es.toList, ∃ s l, x.key = .string s ∧ F s = some l ∧ StrsAt w x.val l
  up : ∀ s l, F s = some l → ∃ x ∈ es.toList, x.key = .string s
  len : es.size ≤ 1048576
  short : ∀ s l, F s = some l → l.length ≤ 1048576

/-- A map value, nil or not. -/
def MapV (w : World) (mv : Value) (F : ByteArray → Option (List ByteArray)) : Prop :=
  (mv = .map none ∧ ∀ s, F s = none) ∨ ∃ r es clock, mv = .map (some r) ∧ MapIs w r es clock ∧ Reads w es F

theorem MapV.short {w : World} {mv : Value} {F : ByteArray → Option (List ByteArray)} (h : MapV w mv F) (s : ByteArray) : ((F s).getD []).length ≤ 1048576 := by
  cases e : F s with
  | none => simp
  | some l =>
    rcases h with ⟨_, h⟩ | ⟨_, _, _, _, _, h⟩
    · rw [h s] at e; simp at e
    · exact h.short s l e

theorem MapV.below {w w' : World} {mv : Value} {F : ByteArray → Option (List ByteArray)} (h : MapV w mv F) (hb : Below w.heap.size w w') : MapV w' mv F := by
  rcases h with h | ⟨r, es, clock, h1, h2, h3⟩
  · exact Or.inl h
  · refine Or.inr ⟨r, es, clock, h1, ⟨?_, h2.born, h2.nodup, h2.keys, h2.kdist⟩, ⟨fun x hx => ?_, h3.up, h3.len, h3.short⟩⟩
    · rw [hb.block r (Array.getElem?_eq_some_iff.1 h2.blk).1]; exact h2.blk
    · obtain ⟨s, l, e1, e2, e3⟩ := h3.down x hx
      exact ⟨s, l, e1, e2, e3.below hb⟩

theorem strs_nil (w : World) : StrsAt w (.slice none 0 0) [] := ⟨none, 0, 0, 0, rfl, fun _ => ⟨rfl, rfl⟩, fun h => by simp at h, fun i hi => by simp at hi⟩

/-- A look-up. -/
theorem look_any {w : World} {mv : Value} {F : ByteArray → Option (List ByteArray)} (h : MapV w mv F) (k : ByteArray) (c : Bool) :
    ∃ v, (Instr.lookup 29 mv (.string k) c).run Try.prog w = .ok (if c then .tuple #[v, .bool (F k).isSome] else v) w ∧ StrsAt w v ((F k).getD []) := by
  rcases h with ⟨rfl, hF⟩ | ⟨r, es, clock, rfl, hM, hR⟩
  · refine ⟨.slice none 0 0, ?_, by rw [hF k]; exact strs_nil w⟩
    simp only [Instr.lookup, Sem.run_bind, run_underlying Try.underlying29, Result.andThen, Sem.run_pure, run_checkKey (w := w) (k := .string k) Try.underlying9 (by simp [IsKey]), run_findKey (w := w) (l := []) (k := .string k) (a := none) Try.underlying9 rfl, zero22, hF k, Option.isSome]
  · have hk : IsKey .string (.string k) := by simp [IsKey]
    rcases findNow_spec hk es.toList 0 (fun x hx => by obtain ⟨s, e⟩ := hM.keys x hx; rw [e]; simp [IsKey]) with ⟨h1, h2⟩ | ⟨j, e, h1, h2, h3⟩
    · have hF : F k = none := by
        cases e : F k with
        | none => rfl
        | some l => obtain ⟨x, hx, hxk⟩ := hR.up k l e; exact absurd hxk (h2 x hx)
      refine ⟨.slice none 0 0, ?_, by rw [hF]; exact strs_nil w⟩
      simp only [Instr.lookup, Sem.run_bind, run_underlying Try.underlying29, Result.andThen, Sem.run_pure, MapKept.run_getObj_map hM.blk, run_checkKey (w := w) (k := .string k) Try.underlying9 (by simp [IsKey]), run_findKey (w := w) Try.underlying9 h1, zero22, hF, Option.isSome]
    · have he : e ∈ es.toList := List.mem_of_getElem? h2
      obtain ⟨s, l, e1, e2, e3⟩ := hR.down e he
      obtain rfl : s = k := by rw [h3] at e1; simpa using e1.symm
      refine ⟨e.val, ?_, by rw [e2]; exact e3⟩
      simp only [Instr.lookup, Sem.run_bind, run_underlying Try.underlying29, Result.andThen, Sem.run_pure, MapKept.run_getObj_map hM.blk, run_checkKey (w := w) (k := .string s) Try.underlying9 (by simp [IsKey]), run_findKey (w := w) Try.underlying9 h1, e2, Option.isSome]

/-! ### Ranging -/
/-- The pairs that a list of entries stands for. -/
def Pairs (l : List MapEntry) (ents : List (ByteArray × Value)) : Prop := l.map (fun e => (e.key, e.val)) = ents.map (fun p => (Value.string p.1, p.2))

theorem pairs_of (l : List MapEntry) (h : ∀ x ∈ l, ∃ s, x.key = .string s) : ∃ ents, Pairs l ents := by
  induction l with
  | nil => exact ⟨[], rfl⟩
  | cons x l ih =>
    obtain ⟨ents, he⟩ := ih (fun y hy => h y (.tail _ hy))
    obtain ⟨s, hs⟩ := h x (.head _)
    exact ⟨(s, x.val) :: ents, by unfold Pairs at *; simp [he, hs]⟩

theorem Pairs.mem_left {l : List MapEntry} {ents : List (ByteArray × Value)} (h : Pairs l ents) {x : MapEntry} (hx : x ∈ l) : ∃ s, x.key = .string s ∧ (s, x.val) ∈ ents := by
  have : (x.key, x.val) ∈ l.map (fun e => (e.key, e.val)) := List.mem_map_of_mem hx
  rw [h] at this
  obtain ⟨p, hp, e⟩ := List.mem_map.1 this
  simp only [Prod.mk.injEq] at e
  exact ⟨p.1, e.1.symm, by rw [← e.2]; exact hp⟩

theorem Pairs.mem_right {l : List MapEntry} {ents : List (ByteArray × Value)} (h : Pairs l ents) {p : ByteArray × Value} (hp : p ∈ ents) : ∃ x ∈ l, x.key = .string p.1 ∧ x.val = p.2 := by
  have : (Value.string p.1, p.2) ∈ ents.map (fun p => (Value.string p.1, p.2)) := List.mem_map_of_mem (f := fun p : ByteArray × Value => (Value.string p.1, p.2)) hp
  rw [← h] at this
  obtain ⟨x, hx, e⟩ := List.mem_map.1 this
  simp only [Prod.mk.injEq] at e
  exact ⟨x, hx, e.1, e.2⟩

theorem Pairs.length {l : List MapEntry} {ents : List (ByteArray × Value)} (h : Pairs l ents) : l.length = ents.length := by
  have := congrArg List.length h
  simpa using this

/-- Block it is an iterator to which 'ents' are still to come. -/
def Iter (w : World) (it : Nat) (ents : List (ByteArray × Value)) : Prop :=
  (w.heap[it]? = some (.mapIter none 0 #[] 0) ∧ ents = []) ∨
  ∃ r es clock seen, MapIs w r es clock ∧ w.heap[it]? = some (.mapIter (some r) clock seen clock) ∧ Pairs (leftOf es seen).toList ents

/-- A step or an append leaves the iterator, if it writes no block of another kind than cells. -/
theorem Iter.kept {w w' : World} {it : Nat} {ents : List (ByteArray × Value)} {row : Option Nat} (h : Iter w it ents) (hg : w.grownBy w' row) (hne : ∀ k, row = some k → ∃ c t f, w.heap[k]? = some (.cells c t f)) : Iter w' it ents := by
  have key : ∀ (k : Nat) (o : Obj), w.heap[k]? = some o → (∀ c t f, o ≠ .cells c t f) → w'.heap[k]? = some o := fun k o hk ho => by
    rw [hg.block k (Array.getElem?_eq_some_iff.1 hk).1 (fun e => by obtain ⟨c, t, f, hc⟩ := hne k e.symm; rw [hk] at hc; exact ho c t f (Option.some.inj hc))]
    exact hk
  rcases h with ⟨h1, h2⟩ | ⟨r, es, clock, seen, h1, h2, h3⟩
  · exact Or.inl ⟨key it _ h1 (fun _ _ _ e => by cases e), h2⟩
  · exact Or.inr ⟨r, es, clock, seen, ⟨key r _ h1.blk (fun _ _ _ e => by cases e), h1.born, h1.nodup, h1.keys, h1.kdist⟩, key it _ h2 (fun _ _ _ e => by cases e), h3⟩

/-- 'range', in whatever world behind. -/
theorem range_any {w0 w : World} {mv : Value} {F : ByteArray → Option (List ByteArray)} (h : MapV w0 mv F) (hb : Below w0.heap.size w0 w) :
    ∃ o ents, (Instr.range 29 mv).run Try.prog w = .ok (.pointer (some ⟨w.heap.size, 0, none⟩)) (w.alloc o) ∧ Iter (w.alloc o) w.heap.size ents ∧ ents.length ≤ 1048576 ∧
      (∀ p ∈ ents, ∃ l, F p.1 = some l ∧ StrsAt w0 p.2 l) ∧ (∀ s l, F s = some l → ∃ p ∈ ents, p.1 = s) := by
  rcases h with ⟨rfl, hF⟩ | ⟨r, es, clock, rfl, hM, hR⟩
  · exact ⟨_, [], run_range_nilMap w 29 9 22 Try.underlying29, Or.inl ⟨Go.heap_alloc_new w _, rfl⟩, by simp, fun p hp => by simp at hp, fun s l e => by rw [hF s] at e; simp at e⟩
  · obtain ⟨ents, he⟩ := pairs_of es.toList hM.keys
    have hblk : w.heap[r]? = some (.map es clock) := by rw [hb.block r (Array.getElem?_eq_some_iff.1 hM.blk).1]; exact hM.blk
    refine ⟨_, ents, run_range_map w 29 9 22 r es clock Try.underlying29 hblk, Or.inr ⟨r, es, clock, #[], ⟨?_, hM.born, hM.nodup, hM.keys, hM.kdist⟩, Go.heap_alloc_new w _, ?_⟩, ?_, fun p hp => ?_, fun s l e => ?_⟩
    · rw [Go.heap_alloc_old w _ (Array.getElem?_eq_some_iff.1 hblk).1]; exact hblk
    · have : leftOf es #[] = es := by unfold leftOf; simp
      rw [this]; exact he
    · rw [← he.length]; simpa using hR.len
    · obtain ⟨x, hx, e1, e2⟩ := he.mem_right hp
      obtain ⟨s, l, f1, f2, f3⟩ := hR.down x hx
      obtain rfl : p.1 = s := by rw [e1] at f1; simpa using f1
      exact ⟨l, f2, by rw [← e2]; exact f3⟩
    · obtain ⟨x, hx, e1⟩ := hR.up s l e
      obtain ⟨s', e2, e3⟩ := he.mem_left hx
      obtain rfl : s' = s := by rw [e1] at e2; simpa using e2.symm
      exact ⟨_, e3, rfl⟩

theorem leftOf_push (es : Array MapEntry) (seen : Array Nat) (b : Nat) : (leftOf es (seen.push b)).toList = (leftOf es seen).toList.filter (fun e => !(e.born == b)) := by
  unfold leftOf
  rw [Array.toList_filter, Array.toList_filter, List.filter_filter]
  apply List.filter_congr
  intro x _
  rw [Array.contains_push]
  cases seen.contains x.born <;> cases h : (x.born == b) <;> simp

theorem nodup_inj {α β : Type} {f : α → β} {l : List α} (h : (l.map f).Nodup) {x y : α} (hx : x ∈ l) (hy : y ∈ l) (e : f x = f y) : x = y := by
  induction l with
  | nil => simp at hx
  | cons a l ih =>
    rw [List.map_cons, List.nodup_cons] at h
    rcases List.mem_cons.1 hx with hx1 | hx1
    · rcases List.mem_cons.1 hy with hy1 | hy1
      · rw [hx1, hy1]
      · exact absurd (by rw [← hx1, e]; exact List.mem_map_of_mem hy1) h.1
    · rcases List.mem_cons.1 hy with hy1 | hy1
      · exact absurd (by rw [← hy1, ← e]; exact List.mem_map_of_mem hx1) h.1
      · exact ih h.2 hx1 hy1

theorem grown_setBlock {w w1 : World} (hw : w1 = w ∨ w1 = w.drew) (it : Nat) (o : Obj) : w.grownBy (setBlock w1 it o) (some it) := by
  rcases hw with rfl | rfl
  · exact ⟨rfl, rfl, rfl, by simp [setBlock], fun k _ hk => by simp only [setBlock]; rw [Array.getElem?_setIfInBounds_ne (fun e => hk (by rw [e]))]⟩
  · exact ⟨rfl, rfl, rfl, by simp only [setBlock, Array.size_setIfInBounds]; exact Nat.le_refl _, fun k _ hk => by simp only [setBlock]; rw [Array.getElem?_setIfInBounds_ne (fun e => hk (by rw [e]))]; rfl⟩

/-- 'next', and the entry behind it. -/
theorem next_any {w : World} {it : Nat} {ents : List (ByteArray × Value)} (h : Iter w it ents) :
    (ents = [] ∧ ∀ ty, (Instr.next (.pointer (some ⟨it, 0, none⟩)) false ty).run Try.prog w = .ok (.tuple #[.bool false]) w) ∨
    ∃ (p : ByteArray × Value) (ents' : List (ByteArray × Value)) (w' : World), p ∈ ents ∧ ents'.length < ents.length ∧ Iter w' it ents' ∧ w.grownBy w' (some it) ∧ (∃ m a b c, w.heap[it]? = some (.mapIter m a b c)) ∧
      (∀ q ∈ ents', q ∈ ents ∧ q.1 ≠ p.1) ∧ (∀ q ∈ ents, q.1 = p.1 ∨ q ∈ ents') ∧
      (∀ ty, (Instr.next (.pointer (some ⟨it, 0, none⟩)) false ty).run Try.prog w = .ok (.tuple #[.bool true, .string p.1, p.2]) w') ∧
      (Instr.entry (.pointer (some ⟨it, 0, none⟩))).run Try.prog w' = .ok (.tuple #[.string p.1, p.2]) w' := by
  rcases h with ⟨h1, rfl⟩ | ⟨r, es, clock, seen, hM, h2, h3⟩
  · refine Or.inl ⟨rfl, fun ty => ?_⟩
    simp only [Instr.next, getObj, Sem.run_bind, Sem.run, h1, Result.andThen]
    rfl
  · rcases run_next_at (P := Try.prog) w 0 it r clock clock seen es clock h2 hM.blk hM.born (Nat.le_refl _) with ⟨h0, hrun⟩ | ⟨e, he, w1, hw1, hrun⟩
    · refine Or.inl ⟨?_, fun ty => hrun⟩
      have := h3.length
      rw [Array.length_toList, h0] at this
      exact List.eq_nil_of_length_eq_zero this.symm
    · right
      have heL : e ∈ es.toList := by unfold leftOf at he; rw [Array.toList_filter] at he; exact (List.mem_filter.1 he).1
      have hsub : ∀ x, x ∈ (leftOf es seen).toList → x ∈ es.toList := fun x hx => by unfold leftOf at hx; rw [Array.toList_filter] at hx; exact (List.mem_filter.1 hx).1
      obtain ⟨s, hs, hse⟩ := h3.mem_left he
      have hpush := leftOf_push es seen e.born
      obtain ⟨ents', he'⟩ := pairs_of (leftOf es (seen.push e.born)).toList (fun x hx => hM.keys x (by rw [hpush] at hx; exact hsub x (List.mem_filter.1 hx).1))
      have hrit : r ≠ it := fun e => by have := hM.blk; rw [e, h2] at this; simp at this
      have hg := grown_setBlock hw1 it (.mapIter (some r) clock (seen.push e.born) clock)
      have hlt : it < w.heap.size := (Array.getElem?_eq_some_iff.1 h2).1
      have hlt1 : it < w1.heap.size := by rcases hw1 with rfl | rfl <;> exact hlt
      have hblkr : (setBlock w1 it (.mapIter (some r) clock (seen.push e.born) clock)).heap[r]? = some (.map es clock) := by
        rw [hg.block r (Array.getElem?_eq_some_iff.1 hM.blk).1 (fun e => hrit (Option.some.inj e))]; exact hM.blk
      have hblki : (setBlock w1 it (.mapIter (some r) clock (seen.push e.born) clock)).heap[it]? = some (.mapIter (some r) clock (seen.push e.born) clock) := by
        simp only [setBlock]; simp [hlt1]
      refine ⟨(s, e.val), ents', _, hse, ?_, Or.inr ⟨r, es, clock, seen.push e.born, ⟨hblkr, hM.born, hM.nodup, hM.keys, hM.kdist⟩, hblki, he'⟩, hg, ⟨_, _, _, _, h2⟩, fun q hq => ?_, fun q hq => ?_, fun ty => ?_, ?_⟩
      · rw [← he'.length, ← h3.length, hpush]
        exact List.length_filter_lt_length_iff_exists.2 ⟨e, he, by simp⟩
      · obtain ⟨x, hx, x1, x2⟩ := he'.mem_right hq
        rw [hpush] at hx
        obtain ⟨hx1, hx2⟩ := List.mem_filter.1 hx
        obtain ⟨s', f1, f2⟩ := h3.mem_left hx1
        obtain rfl : s' = q.1 := by rw [x1] at f1; simpa using f1.symm
        refine ⟨by rw [x2] at f2; exact f2, fun heq => ?_⟩
        have : x = e := nodup_inj hM.kdist (hsub x hx1) heL (by rw [x1, hs, heq])
        rw [this] at hx2
        simp at hx2
      · obtain ⟨x, hx, x1, x2⟩ := h3.mem_right hq
        by_cases hb : x.born = e.born
        · left
          have : x = e := nodup_inj hM.nodup (hsub x hx) heL hb
          rw [this, hs] at x1
          simpa using x1.symm
        · right
          obtain ⟨s', f1, f2⟩ := he'.mem_left (show x ∈ (leftOf es (seen.push e.born)).toList by rw [hpush]; exact List.mem_filter.2 ⟨hx, by simpa using hb⟩)
          obtain rfl : s' = q.1 := by rw [x1] at f1; simpa using f1.symm
          rw [x2] at f2
          exact f2
      · rw [← hs]; exact hrun
      · have := run_entry_at (P := Try.prog) _ it r clock seen es clock e hblki hblkr heL hM.nodup
        rw [hs] at this
        exact this
end Go.Proofs.Qxb6605609a
