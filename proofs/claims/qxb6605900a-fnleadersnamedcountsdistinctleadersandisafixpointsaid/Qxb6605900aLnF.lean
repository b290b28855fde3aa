import Derived.Test.Qxb6605900aLnD
namespace Go.Proofs.Qxb6605900a

/-! ### The plain part of the second law: ids, an insertion sort's invariants, the count of distinct neighbours -/
def idsOf (an : Nat → Ans) : Nat → List Int
  | 0 => []
  | k + 1 => if names (an k).leader (an k).laddr then idsOf an k ++ [(an k).leader] else idsOf an k

theorem idsOf_yes {an : Nat → Ans} {k : Nat} (h : names (an k).leader (an k).laddr = true) : idsOf an (k + 1) = idsOf an k ++ [(an k).leader] := by rw [idsOf, if_pos h]
theorem idsOf_no {an : Nat → Ans} {k : Nat} (h : names (an k).leader (an k).laddr = false) : idsOf an (k + 1) = idsOf an k := by rw [idsOf, if_neg (by rw [h]; simp)]

theorem idsOf_len (an : Nat → Ans) (k : Nat) : (idsOf an k).length ≤ k := by
  induction k with
  | zero => simp [idsOf]
  | succ k ih =>
    cases h : names (an k).leader (an k).laddr
    · rw [idsOf_no h]; omega
    · rw [idsOf_yes h]; simp; omega

/-- y is the leader that one of the first m answers names. -/
def Named (an : Nat → Ans) (m : Nat) (y : Int) : Prop := ∃ s, s < m ∧ names (an s).leader (an s).laddr = true ∧ (an s).leader = y

theorem mem_idsOf (an : Nat → Ans) (m : Nat) (y : Int) : y ∈ idsOf an m ↔ Named an m y := by
  induction m with
  | zero => simp [idsOf, Named]
  | succ m ih =>
    have split : Named an (m + 1) y ↔ Named an m y ∨ (names (an m).leader (an m).laddr = true ∧ (an m).leader = y) := by
      constructor
      · rintro ⟨s, hs, h1, h2⟩
        by_cases e : s = m
        · subst e; exact Or.inr ⟨h1, h2⟩
        · exact Or.inl ⟨s, by omega, h1, h2⟩
      · rintro (⟨s, hs, h1, h2⟩ | ⟨h1, h2⟩)
        · exact ⟨s, by omega, h1, h2⟩
        · exact ⟨m, by omega, h1, h2⟩
    rw [split, ← ih]
    cases hn : names (an m).leader (an m).laddr
    · rw [idsOf_no hn]; simp
    · rw [idsOf_yes hn]; simp [eq_comm]

/-- The list's values, told by index. -/
def Has (l : List Int) (N : Nat) (y : Int) : Prop := ∃ p, p < N ∧ l.getD p 0 = y
def SameVals (an : Nat → Ans) (n : Nat) (l : List Int) (N : Nat) : Prop := ∀ y, Has l N y ↔ Named an n y
def SortedTo (l : List Int) (i : Nat) : Prop := ∀ a b, a < b → b < i → l.getD a 0 ≤ l.getD b 0

theorem has_mem (l : List Int) (y : Int) : Has l l.length y ↔ y ∈ l := by
  constructor
  · rintro ⟨p, hp, rfl⟩
    simp [List.getD, hp]
  · intro h
    obtain ⟨p, hp, rfl⟩ := List.mem_iff_getElem.1 h
    exact ⟨p, hp, by simp [List.getD, hp]⟩

theorem getD_set (l : List Int) (j p : Nat) (x : Int) (hj : j < l.length) : (l.set j x).getD p 0 = if p = j then x else l.getD p 0 := by
  simp only [List.getD, List.getElem?_set]
  by_cases h : j = p
  · subst h; simp [hj]
  · simp [h, show ¬ p = j from fun e => h e.symm]

/-- In the inner loop: x has been taken out; the hole is at j; the round's place is i. -/
structure Hole (an : Nat → Ans) (n N i j : Nat) (x : Int) (l : List Int) : Prop where
  vals : ∀ y, (∃ p, p < N ∧ (if p = j then x else l.getD p 0) = y) ↔ Named an n y
  sorted : ∀ a b, a < b → b ≤ i → a ≠ j → b ≠ j → l.getD a 0 ≤ l.getD b 0
  above : ∀ b, j < b → b ≤ i → x ≤ l.getD b 0

theorem Hole.start {an : Nat → Ans} {n N i : Nat} {l : List Int} (hv : SameVals an n l N) (hs : SortedTo l i) : Hole an n N i i (l.getD i 0) l where
  vals := fun y => by
    rw [← hv y]
    constructor
    · rintro ⟨p, hp, e⟩
      refine ⟨p, hp, ?_⟩
      by_cases h : p = i
      · subst h; simpa using e
      · simpa [h] using e
    · rintro ⟨p, hp, e⟩
      refine ⟨p, hp, ?_⟩
      by_cases h : p = i
      · subst h; simpa using e
      · simpa [h] using e
  sorted := fun a b hab hb ha hb' => hs a b hab (by omega)
  above := fun b h1 h2 => by omega

theorem Hole.step {an : Nat → Ans} {n N i j : Nat} {x : Int} {l : List Int} (hN : l.length = N) (hj : 0 < j) (hji : j ≤ i) (hiN : i < N) (h : Hole an n N i j x l) (hx : x < l.getD (j - 1) 0) : Hole an n N i (j - 1) x (l.set j (l.getD (j - 1) 0)) where
  vals := fun y => by
    rw [← h.vals y]
    have hg := fun p => getD_set l j p (l.getD (j - 1) 0) (by omega)
    constructor
    · rintro ⟨p, hp, e⟩
      rw [hg] at e
      by_cases h1 : p = j - 1
      · rw [if_pos h1] at e
        exact ⟨j, by omega, by rw [if_pos rfl]; exact e⟩
      · rw [if_neg h1] at e
        by_cases h2 : p = j
        · rw [if_pos h2] at e
          exact ⟨j - 1, by omega, by rw [if_neg (by omega)]; exact e⟩
        · rw [if_neg h2] at e
          exact ⟨p, hp, by rw [if_neg h2]; exact e⟩
    · rintro ⟨p, hp, e⟩
      by_cases h2 : p = j
      · rw [if_pos h2] at e
        exact ⟨j - 1, by omega, by rw [if_pos rfl]; exact e⟩
      · rw [if_neg h2] at e
        by_cases h1 : p = j - 1
        · exact ⟨j, by omega, by rw [hg, if_neg (by omega), if_pos rfl, ← h1]; exact e⟩
        · exact ⟨p, hp, by rw [hg, if_neg h1, if_neg h2]; exact e⟩
  sorted := fun a b hab hb ha hb' => by
    rw [getD_set l j a _ (by omega), getD_set l j b _ (by omega)]
    by_cases h1 : a = j
    · rw [if_pos h1, if_neg (by omega)]
      exact h.sorted (j - 1) b (by omega) hb (by omega) (by omega)
    · by_cases h2 : b = j
      · rw [if_neg h1, if_pos h2]
        exact h.sorted a (j - 1) (by omega) (by omega) h1 (by omega)
      · rw [if_neg h1, if_neg h2]
        exact h.sorted a b hab hb h1 h2
  above := fun b h1 h2 => by
    rw [getD_set l j b _ (by omega)]
    by_cases h3 : b = j
    · rw [if_pos h3]; omega
    · rw [if_neg h3]; exact h.above b (by omega) h2

theorem Hole.done {an : Nat → Ans} {n N i j : Nat} {x : Int} {l : List Int} (hN : l.length = N) (hji : j ≤ i) (hiN : i < N) (h : Hole an n N i j x l) (hx : 0 < j → l.getD (j - 1) 0 ≤ x) : SameVals an n (l.set j x) N ∧ SortedTo (l.set j x) (i + 1) := by
  have hg := fun p => getD_set l j p x (by omega)
  refine ⟨fun y => ?_, fun a b hab hb => ?_⟩
  · rw [← h.vals y]
    constructor
    · rintro ⟨p, hp, e⟩; rw [hg] at e; exact ⟨p, hp, e⟩
    · rintro ⟨p, hp, e⟩; exact ⟨p, hp, by rw [hg]; exact e⟩
  · rw [hg, hg]
    by_cases h1 : a = j
    · rw [if_pos h1, if_neg (by omega)]
      exact h.above b (by omega) (by omega)
    · by_cases h2 : b = j
      · rw [if_neg h1, if_pos h2]
        have hj := hx (by omega)
        by_cases h3 : a = j - 1
        · rw [h3]; exact hj
        · have := h.sorted a (j - 1) (by omega) (by omega) h1 (by omega)
          omega
      · rw [if_neg h1, if_neg h2]
        exact h.sorted a b hab (by omega) h1 h2

/-- The neighbours that differ. -/
def uniq (l : List Int) : Nat → List Int
  | 0 => []
  | t + 1 => if t = 0 ∨ l.getD t 0 ≠ l.getD (t - 1) 0 then uniq l t ++ [l.getD t 0] else uniq l t

theorem uniq_yes {l : List Int} {t : Nat} (h : t = 0 ∨ l.getD t 0 ≠ l.getD (t - 1) 0) : uniq l (t + 1) = uniq l t ++ [l.getD t 0] := by rw [uniq, if_pos h]
theorem uniq_no {l : List Int} {t : Nat} (h : ¬ (t = 0 ∨ l.getD t 0 ≠ l.getD (t - 1) 0)) : uniq l (t + 1) = uniq l t := by rw [uniq, if_neg h]

theorem uniq_len (l : List Int) (t : Nat) : (uniq l t).length ≤ t := by
  induction t with
  | zero => simp [uniq]
  | succ t ih =>
    by_cases h : t = 0 ∨ l.getD t 0 ≠ l.getD (t - 1) 0
    · rw [uniq_yes h]; simp; omega
    · rw [uniq_no h]; omega

theorem uniq_facts (l : List Int) (N : Nat) (hs : SortedTo l N) (t : Nat) (ht : t ≤ N) : (uniq l t).Nodup ∧ (∀ y, y ∈ uniq l t ↔ Has l t y) := by
  induction t with
  | zero => exact ⟨by simp [uniq], fun y => by simp [uniq, Has]⟩
  | succ t ih =>
    obtain ⟨h1, h2⟩ := ih (by omega)
    have hsplit : ∀ y, Has l (t + 1) y ↔ Has l t y ∨ l.getD t 0 = y := fun y => by
      constructor
      · rintro ⟨p, hp, e⟩
        by_cases h : p = t
        · subst h; exact Or.inr e
        · exact Or.inl ⟨p, by omega, e⟩
      · rintro (⟨p, hp, e⟩ | e)
        · exact ⟨p, by omega, e⟩
        · exact ⟨t, by omega, e⟩
    by_cases hc : t = 0 ∨ l.getD t 0 ≠ l.getD (t - 1) 0
    · rw [uniq_yes hc]
      refine ⟨?_, fun y => ?_⟩
      · rw [List.nodup_append]
        refine ⟨h1, by simp, ?_⟩
        intro a ha b hb
        simp only [List.mem_singleton] at hb
        subst hb
        obtain ⟨p, hp, e⟩ := (h2 a).1 ha
        intro hab
        have h3 : l.getD p 0 ≤ l.getD (t - 1) 0 := by
          by_cases h : p = t - 1
          · rw [h]; exact Int.le_refl _
          · exact hs p (t - 1) (by omega) (by omega)
        have h4 := hs (t - 1) t (by omega) (by omega)
        rcases hc with h0 | hne
        · omega
        · omega
      · rw [List.mem_append, h2, hsplit]
        simp [eq_comm]
    · rw [uniq_no hc]
      refine ⟨h1, fun y => ?_⟩
      rw [h2, hsplit]
      constructor
      · exact Or.inl
      · rintro (h | e)
        · exact h
        · exact ⟨t - 1, by omega, by
            have : l.getD t 0 = l.getD (t - 1) 0 := by
              by_cases h : l.getD t 0 = l.getD (t - 1) 0
              · exact h
              · exact absurd (Or.inr h) hc
            rw [← this]; exact e⟩

theorem leads_ids (an : Nat → Ans) (n : Nat) : ((leads an n).map (·.1)).Nodup ∧ (∀ y, y ∈ (leads an n).map (·.1) ↔ Named an n y) := by
  constructor
  · induction n with
    | zero => simp [leads]
    | succ n ih =>
      rw [leads_succ]
      cases hn : names (an n).leader (an n).laddr
      · rw [lstep_no hn]; exact ih
      · cases ha : (leads an n).any (fun l => l.1 == (an n).leader)
        · rw [lstep_hit hn ha]
          rw [List.map_append, List.nodup_append]
          refine ⟨ih, by simp, ?_⟩
          intro a h1 b h2
          simp at h2
          subst h2
          intro e
          subst e
          obtain ⟨q, hq, e⟩ := List.mem_map.1 h1
          have := List.any_eq_false.1 ha q hq
          simp [e] at this
        · rw [lstep_dup hn ha]; exact ih
  · intro y
    unfold Named
    rw [← leads_any an y n]
    simp [List.any_eq_true]

/-- As many as are distinct. -/
theorem count_ok (an : Nat → Ans) (n N : Nat) (l : List Int) (hs : SortedTo l N) (hv : SameVals an n l N) : (uniq l N).length = (leads an n).length := by
  obtain ⟨h1, h2⟩ := uniq_facts l N hs N (Nat.le_refl _)
  obtain ⟨h3, h4⟩ := leads_ids an n
  have hp : (uniq l N).Perm ((leads an n).map (·.1)) := (List.perm_ext_iff_of_nodup h1 h3).2 fun y => by rw [h2, h4, hv]
  simpa using hp.length_eq

/-! ### Fed back -/
def backAns (L : List (Int × ByteArray)) (i : Nat) : Ans := { zeroAns with leader := (L.getD i (0, ⟨#[]⟩)).1, laddr := (L.getD i (0, ⟨#[]⟩)).2 }

theorem leads_names (an : Nat → Ans) (n : Nat) : ∀ q ∈ leads an n, names q.1 q.2 = true := by
  induction n with
  | zero => simp [leads]
  | succ n ih =>
    rw [leads_succ]
    cases hn : names (an n).leader (an n).laddr
    · rw [lstep_no hn]; exact ih
    · cases ha : (leads an n).any (fun l => l.1 == (an n).leader)
      · rw [lstep_hit hn ha]
        intro q hq
        rcases List.mem_append.1 hq with h | h
        · exact ih q h
        · simp at h; subst h; exact hn
      · rw [lstep_dup hn ha]; exact ih

theorem back_fix (an : Nat → Ans) (n k : Nat) (hk : k ≤ (leads an n).length) : leads (backAns (leads an n)) k = (leads an n).take k := by
  induction k with
  | zero => simp [leads]
  | succ k ih =>
    have hlt : k < (leads an n).length := by omega
    have hg : (leads an n).getD k (0, ⟨#[]⟩) = (leads an n)[k] := by simp [List.getD, hlt]
    rw [leads_succ, ih (by omega)]
    have e1 : (backAns (leads an n) k).leader = (leads an n)[k].1 := by simp only [backAns]; rw [hg]
    have e2 : (backAns (leads an n) k).laddr = (leads an n)[k].2 := by simp only [backAns]; rw [hg]
    rw [e1, e2]
    have hn := leads_names an n _ (List.getElem_mem hlt)
    have hd := (leads_ids an n).1
    have ha : ((leads an n).take k).any (fun l => l.1 == (leads an n)[k].1) = false := by
      rw [List.any_eq_false]
      intro q hq
      obtain ⟨p, hp, rfl⟩ := List.mem_iff_getElem.1 hq
      simp only [List.length_take] at hp
      rw [List.getElem_take]
      simp only [beq_iff_eq]
      intro e
      have hd' := List.pairwise_iff_getElem.1 hd p k (by simp; omega) (by simp; omega) (by omega)
      simp at hd'
      exact hd' e
    rw [lstep_hit hn ha, List.take_succ_eq_append_getElem hlt]
end Go.Proofs.Qxb6605900a
