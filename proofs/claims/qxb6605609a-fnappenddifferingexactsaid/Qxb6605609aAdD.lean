import Derived.Test.Qxb6605609aAdC
namespace Go.Proofs.Qxb6605609a
open Go.RowKit Go.Deep Go.MapKept

theorem ownsRow_base {w : World} {B B' : Nat} {e : TypeId} {size : Nat} {v : Value} {n : Nat} {xs : List Value} (h : w.ownsRow B' e size v n xs) (hB : B ≤ B') : w.ownsRow B e size v n xs := by
  refine ⟨h.1, ?_⟩
  rcases h.2 with h2 | ⟨g, cap, cur, hv, hg, r⟩
  · exact Or.inl h2
  · exact Or.inr ⟨g, cap, cur, hv, by omega, r⟩

theorem ownsRow_cells {w : World} {B : Nat} {e : TypeId} {size : Nat} {v : Value} {n : Nat} {xs : List Value} (h : w.ownsRow B e size v n xs) : ∀ k, v.ownBlock = some k → B ≤ k ∧ ∃ c t f, w.heap[k]? = some (.cells c t f) := by
  intro k hk
  rcases h.2 with ⟨rfl, _⟩ | ⟨g, cap, cur, rfl, hg, hh, _⟩
  · simp [Value.ownBlock] at hk
  · simp [Value.ownBlock] at hk
    subst hk
    exact ⟨hg, _, _, _, hh⟩

/-- What has been gathered: the slice that came, untouched; or a row of the call's own. -/
def Acc (B : Nat) (w : World) (v0 v : Value) (l0 ext : List ByteArray) : Prop :=
  (v = v0 ∧ ext = []) ∨ w.ownsRow B 9 1 v (l0 ++ ext).length ((l0 ++ ext).map Value.string)

theorem Acc.kept {B : Nat} {w w' : World} {v0 v : Value} {l0 ext : List ByteArray} {row : Option Nat} (h : Acc B w v0 v l0 ext) (hg : w.grownBy w' row) (hne : ∀ k, row = some k → ∀ c t f, w.heap[k]? ≠ some (.cells c t f)) : Acc B w' v0 v l0 ext := by
  rcases h with h | h
  · exact Or.inl h
  · refine Or.inr (h.kept hg ?_)
    cases hv : v.ownBlock with
    | none => exact Or.inl rfl
    | some k =>
      right
      intro e
      obtain ⟨_, c, t, f, hc⟩ := ownsRow_cells h k hv
      exact hne k e.symm c t f hc

/-- At the end. -/
theorem Acc.strs {B : Nat} {w0 w : World} {v0 v : Value} {l0 ext : List ByteArray} (h : Acc B w v0 v l0 ext) (h0 : StrsAt w0 v0 l0) (hb : Below w0.heap.size w0 w) : StrsAt w v (l0 ++ ext) := by
  rcases h with ⟨rfl, rfl⟩ | h
  · rw [List.append_nil]; exact h0.below hb
  · rcases h.2 with ⟨hv, hn⟩ | ⟨g, cap, cur, hv, hg, hh, _, _, hcs, htake⟩
    · have : l0 ++ ext = [] := List.eq_nil_of_length_eq_zero hn
      rw [this, hv]; exact strs_nil w
    · refine ⟨some ⟨g, 0, none⟩, cap, g, 0, hv, fun h => by simp at h, fun _ => rfl, fun i hi => ?_⟩
      subst hv
      rw [Nat.zero_add, h.cellAt i (by omega)]
      rw [List.getElem?_map, List.getElem?_eq_getElem hi, ← getD_mem _ i hi]; rfl

theorem one_new (w : World) (x : Value) (t : TypeId) : ∀ (j : Nat) (u : Value), [x][j]? = some u → (w.alloc (.cells #[x] t)).cell? ((⟨w.heap.size, 0, none⟩ : Addr).add j) = some u := by
  intro j u hj
  match j, hj with
  | 0, hj => simp at hj; subst hj; simp [Addr.add, go_sem]

/-- The one row that may have been written is a row of cells of the call's own. -/
def CellsRow (B : Nat) (wr : World) (row : Option Nat) : Prop := ∀ k, row = some k → B ≤ k ∧ ∃ c t f, wr.heap[k]? = some (.cells c t f)

theorem Iter.drewN {w : World} {it : Nat} {ents : List (ByteArray × Value)} (h : Iter w it ents) (q : Nat) : Iter (w.drewN q) it ents :=
  h.kept (row := none) ⟨rfl, rfl, rfl, Nat.le_refl _, fun _ _ _ => rfl⟩ (fun k hk => by cases hk)

/-- 'keys = append(keys, key)'. -/
theorem wpList_append_acc {ops : Array Oper} {rest : List Oper} {o : Oper} {a : Act} {Q : Exit → Act → World → Prop} (wr : World) (hg : o.guard = none) (s x : Operand)
    (hop : o.op = Op.call { callee := Callee.builtin Builtin.append, args := #[s, x], argTypes := #[22, 22] })
    (w0 : World) (v0 v : Value) (l0 ext : List ByteArray) (key : ByteArray) (hb : Below w0.heap.size w0 wr) (h0 : StrsAt w0 v0 l0) (hf : Full v0 l0) (hacc : Acc w0.heap.size wr v0 v l0 ext)
    (hs : a.eval s = v) (hx : a.eval x = .slice (some ⟨wr.heap.size, 0, none⟩) 1 1) (hn : (l0 ++ ext).length ≤ 4194304)
    (hK : ∀ v' w' row, Acc w0.heap.size w' v0 v' l0 (ext ++ [key]) → wr.grownBy w' row → CellsRow w0.heap.size wr row → wpList Try.prog ops Q rest (a.put o.dst v') w') :
    wpList Try.prog ops Q (o :: rest) a (wr.alloc (.cells #[.string key] 9)) := by
  obtain ⟨i0, hi, hz0, hz1, hz2⟩ := info_parts Try.info9
  have hsz := hb.size
  have hal : wr.grownBy (wr.alloc (.cells #[.string key] 9)) none := World.grownBy_alloc _ _ _
  rcases hacc with ⟨rfl, rfl⟩ | hown
  · obtain ⟨ao, hv⟩ := hf
    obtain ⟨ao', cap, b, off, hv', hnil, hA, hc⟩ := h0
    subst hv
    simp only [Value.slice.injEq, true_and] at hv'
    obtain ⟨rfl, rfl⟩ := hv'
    rw [List.append_nil] at hn
    refine wpList_append_grows _ hg s x 22 hop 9 i0 _ 1 16 Try.underlying22 hi hz0 hz1 hz2 rfl (by decide) ao l0.length l0.length (l0.map Value.string) hs (fun e => by obtain ⟨e1, _⟩ := hnil e; simp [e1]) (by simp) ?_ ⟨wr.heap.size, 0, none⟩ 1 1 [.string key] hx rfl (one_new _ _ _) ?_ (by omega) (by unfold maxLen; omega) (by omega) ?_
    · intro b' hb' j u hj
      obtain ⟨hjl, hju⟩ := List.getElem?_eq_some_iff.1 hj
      simp only [List.length_map] at hjl
      simp only [List.getElem_map] at hju
      have e1 := hA (by omega)
      rw [hb'] at e1
      simp only [Option.some.injEq] at e1
      subst e1
      have hcj := hc j hjl
      have hcj' : wr.cell? ⟨b, off + j, none⟩ = some (.string (l0.getD j ⟨#[]⟩)) := by
        rw [hb.cell (p := ⟨b, off + j, none⟩) (World.block_lt_of_cell? w0 _ hcj)]; exact hcj
      rw [addr_add, World.cell?_alloc_lt _ _ _ (World.block_lt_of_cell? wr _ hcj'), hcj', ← hju, getD_mem l0 j hjl]
    · intro u hu; simp at hu; subst hu; rfl
    · intro v' w' ho hgr
      refine hK v' w' none (Or.inr ?_) (hal.trans hgr) (fun k hk => by simp at hk)
      have := ownsRow_base ho (B := w0.heap.size) (by simp; omega)
      simpa using this
  · refine wpList_append_own _ hg s x 22 hop w0.heap.size 9 i0 _ 1 16 Try.underlying22 hi hz0 hz1 hz2 rfl (by decide) v _ _ hs (hown.alloc _) ⟨wr.heap.size, 0, none⟩ 1 1 [.string key] hx rfl (one_new _ _ _) ?_ (by unfold maxLen; omega) (by omega) (by simp; omega) ?_
    · intro u hu; simp at hu; subst hu; rfl
    · intro v' w' ho hgr _
      refine hK v' w' v.ownBlock (Or.inr ?_) ?_ (ownsRow_cells hown)
      · have e1 : l0 ++ (ext ++ [key]) = (l0 ++ ext) ++ [key] := by simp
        rw [e1, List.length_append, List.map_append]
        exact ho
      · exact (World.grownBy_alloc wr _ v.ownBlock).trans hgr
end Go.Proofs.Qxb6605609a
