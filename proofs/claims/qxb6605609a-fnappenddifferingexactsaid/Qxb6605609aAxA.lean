import Derived.Test.Qxb6605609aAdF
namespace Go.Proofs.Qxb6605609a
open Go.RowKit Go.Deep Go.MapKept

/-- The value v is a slice of slices of strings that reads as ls. -/
def ListsAt (w : World) (v : Value) (ls : List (List ByteArray)) : Prop :=
  ∃ ao cap b off, v = .slice ao ls.length cap ∧ (ao = none → ls = [] ∧ cap = 0) ∧ (0 < ls.length → ao = some ⟨b, off, none⟩) ∧ ∀ i, i < ls.length → ∃ rv, w.cell? ⟨b, off + i, none⟩ = some rv ∧ StrsAt w rv (ls.getD i [])

theorem ListsAt.below {w w' : World} {v : Value} {ls : List (List ByteArray)} (h : ListsAt w v ls) (hb : Below w.heap.size w w') : ListsAt w' v ls := by
  obtain ⟨ao, cap, b, off, h1, h2, h3, h4⟩ := h
  refine ⟨ao, cap, b, off, h1, h2, h3, fun i hi => ?_⟩
  obtain ⟨rv, h5, h6⟩ := h4 i hi
  refine ⟨rv, ?_, h6.below hb⟩
  rw [hb.cell (p := ⟨b, off + i, none⟩) (World.block_lt_of_cell? w _ h5)]
  exact h5

/-- Each row is short enough for Go. -/
def RowsLe (ls : List (List ByteArray)) (m : Nat) : Prop := ∀ i, i < ls.length → (ls.getD i []).length ≤ m

set_option maxHeartbeats 400000 in
theorem listsBytes_any (v : Value) (ls : List (List ByteArray)) (w : World) (h : ListsAt w v ls) (hn : ls.length ≤ 9223372036854775807) (hr : RowsLe ls 9223372036854775807) :
    Calls Try.prog 9 #[v] w fun e w' => (∃ t : Int, e = .returned (.int .i64 t)) ∧ w = w' := by
  obtain ⟨ao, cap, b, off, rfl, _, hA, hc⟩ := h
  have HA : Hid (0 < ls.length → ao = some ⟨b, off, none⟩) := hA
  have HC : Hid (∀ i, i < ls.length → ∃ rv, w.cell? ⟨b, off + i, none⟩ = some rv ∧ StrsAt w rv (ls.getD i [])) := hc
  have HR : Hid (RowsLe ls 9223372036854775807) := hr
  clear hA hc hr
  go_enter Try.func9, Try.ntmps9
  go_wp2
  go_loop [3, 4] (fun t i => ∃ (k : Nat) (x : Int), k ≤ ls.length ∧ i = .int .i64 k ∧ t = .int .i64 x) (fun _ i => ls.length - (intOf i).toNat)
  case atStart => exact ⟨0, 0, Nat.zero_le _, rfl, rfl⟩
  case round =>
    obtain ⟨k, x, hk, rfl, rfl⟩ := hrel
    by_cases hlt : k < ls.length
    · obtain rfl := HA.out (by omega)
      obtain ⟨rv, c1, s1⟩ := HC.out k hlt
      have HS : Hid (StrsAt w rv (ls.getD k [])) := s1
      have i1 : (k : Int) < (ls.length : Int) := by omega
      clear s1
      go_wp2_with fail
      refine (strBytes_any rv _ w HS.out (HR.out k hlt)).mono ?_
      rintro e w1 ⟨⟨t, rfl⟩, rfl⟩
      go_wp2_with fail
      · go_ret
        exact ⟨⟨_, rfl⟩, rfl⟩
      · go_round
        case rel => exact ⟨k + 1, _, by omega, by go_num, rfl⟩
        case measure => simp [intOf]; omega
    · go_wp2_with fail
      go_ret
      exact ⟨⟨_, rfl⟩, rfl⟩

/-- The row that is being filled. -/
def RowIs (w : World) (R n k : Nat) (ls : List (List ByteArray)) : Prop :=
  ∃ cur, w.heap[R]? = some (.cells cur 22 (0, 0)) ∧ cur.size = n ∧ (∀ j, j < n → ∃ ao l c, cur[j]? = some (.slice ao l c)) ∧ ∀ j, j < k → ∃ rv, cur[j]? = some rv ∧ StrsAt w rv (ls.getD j [])

theorem RowIs.start (w : World) (n : Nat) (ls : List (List ByteArray)) : RowIs (w.alloc (.cells (madeCells #[Value.slice none 0 0] n) 22)) w.heap.size n 0 ls := by
  refine ⟨_, Go.heap_alloc_new w _, by simp [size_madeCells], fun j hj => ⟨none, 0, 0, ?_⟩, fun j hj => by omega⟩
  have := congrArg (·[j]?) (toList_madeCells_one (.slice none 0 0) n)
  simp [hj] at this
  simpa using this

theorem RowIs.below {w w' : World} {R n k : Nat} {ls : List (List ByteArray)} (h : RowIs w R n k ls) (hb : Below w.heap.size w w') : RowIs w' R n k ls := by
  obtain ⟨cur, h1, h2, h3, h4⟩ := h
  refine ⟨cur, by rw [hb.block R (Array.getElem?_eq_some_iff.1 h1).1]; exact h1, h2, h3, fun j hj => ?_⟩
  obtain ⟨rv, h5, h6⟩ := h4 j hj
  exact ⟨rv, h5, h6.below hb⟩

theorem StrsAt.setRow {w : World} {R n k : Nat} {ls : List (List ByteArray)} (hR : RowIs w R n k ls) {v : Value} {l : List ByteArray} (h : StrsAt w v l) (j : Nat) (u : Value) : StrsAt (w.setCell ⟨R, j, none⟩ u) v l := by
  obtain ⟨cur, h1, h2, h3, h4⟩ := hR
  obtain ⟨ao, cap, b, off, g1, g2, g3, g4⟩ := h
  refine ⟨ao, cap, b, off, g1, g2, g3, fun i hi => ?_⟩
  have hc := g4 i hi
  have hne : b ≠ R := fun e => by
    rw [e, cell_of_row w R (off + i) cur 22 (0, 0) h1] at hc
    have hlt : off + i < n := by rw [← h2]; exact (Array.getElem?_eq_some_iff.1 hc).1
    obtain ⟨_, _, _, h5⟩ := h3 (off + i) hlt
    rw [h5] at hc
    cases hc
  rw [World.cell?_setCell_other _ _ _ _ (fun e => hne (congrArg Addr.block e).symm)]
  exact hc

theorem RowIs.put {w : World} {R n k : Nat} {ls : List (List ByteArray)} (h : RowIs w R n k ls) (hk : k < n) {ao : Option Addr} {m c : Nat} {row : List ByteArray} (hrow : row = ls.getD k []) (hv : StrsAt w (.slice ao m c) row) : RowIs (w.setCell ⟨R, k, none⟩ (.slice ao m c)) R n (k + 1) ls := by
  subst hrow
  have hR := h
  obtain ⟨cur, h1, h2, h3, h4⟩ := h
  refine ⟨_, heap_setCell_same w R k cur 22 _ h1, by simp [h2], fun j hj => ?_, fun j hj => ?_⟩
  · rw [Array.getElem?_setIfInBounds]
    by_cases e : k = j
    · rw [if_pos e, if_pos (by omega)]; exact ⟨_, _, _, rfl⟩
    · rw [if_neg e]; exact h3 j hj
  · rw [Array.getElem?_setIfInBounds]
    by_cases e : k = j
    · subst e
      rw [if_pos rfl, if_pos (by omega)]; exact ⟨_, rfl, hv.setRow hR _ _⟩
    · rw [if_neg e]
      obtain ⟨rv, h5, h6⟩ := h4 j (by omega)
      exact ⟨rv, h5, h6.setRow hR _ _⟩

theorem RowIs.at {w : World} {R n k : Nat} {ls : List (List ByteArray)} (h : RowIs w R n k ls) (j : Nat) (hj : j < n) : (∃ u, w.cell? ⟨R, j, none⟩ = some u) ∧ w.frozen? ⟨R, j, none⟩ = false := by
  obtain ⟨cur, h1, h2, h3, h4⟩ := h
  refine ⟨?_, frozen_of_row w R j cur 22 h1⟩
  obtain ⟨_, _, _, h5⟩ := h3 j hj
  exact ⟨_, by rw [cell_of_row w R j cur 22 (0, 0) h1]; exact h5⟩

theorem RowIs.lists {w : World} {R : Nat} {ls : List (List ByteArray)} (h : RowIs w R ls.length ls.length ls) : ListsAt w (.slice (some ⟨R, 0, none⟩) ls.length ls.length) ls := by
  obtain ⟨cur, h1, h2, h3, h4⟩ := h
  refine ⟨_, _, R, 0, rfl, fun h => by simp at h, fun _ => rfl, fun i hi => ?_⟩
  obtain ⟨rv, h5, h6⟩ := h4 i hi
  exact ⟨rv, by rw [Nat.zero_add, cell_of_row w R i cur 22 (0, 0) h1]; exact h5, h6⟩

theorem Try.info22 : (Try.prog.info? 22).map (fun i => (i.zero, i.size, i.bytes)) = some (some (.slice none 0 0), 1, 24) := by kernel_rfl

theorem lists_nil (w : World) : ListsAt w (.slice none 0 0) [] := ⟨none, 0, 0, 0, rfl, fun _ => ⟨rfl, rfl⟩, fun h => by simp at h, fun i hi => by simp at hi⟩

set_option maxHeartbeats 400000 in
theorem cloneLists_any (v : Value) (ls : List (List ByteArray)) (w : World) (h : ListsAt w v ls) (hn : ls.length ≤ 1048576) (hr : RowsLe ls 1048576) :
    Calls Try.prog 11 #[v] w fun e w' => ∃ v', e = .returned v' ∧ ListsAt w' v' ls ∧ Below w.heap.size w w' := by
  have HL : Hid (ListsAt w v ls) := h
  obtain ⟨ao, cap, b, off, rfl, hnil, hA, hc⟩ := h
  cases ao with
  | none =>
    obtain ⟨rfl, rfl⟩ := hnil rfl
    have hnl := fun w n c n' c' => Lib.run_eql_slice_nil (P := Try.prog) w 23 22 none n c n' c' Try.underlying23
    go_enter Try.func11, Try.ntmps11
    go_wp2
    go_ret
    exact ⟨_, rfl, lists_nil w, Below.refl _ _⟩
  | some a =>
    have hnl := fun w n c n' c' => Lib.run_eql_slice_nil (P := Try.prog) w 23 22 (some a) n c n' c' Try.underlying23
    have hmk := run_make_row' (P := Try.prog) 23 22 (.slice none 0 0) 24 Try.underlying23 Try.info22 rfl .i64 .i64 ls.length (by omega) (by omega)
    have HA : Hid (0 < ls.length → some a = some ⟨b, off, none⟩) := hA
    have HC : Hid (∀ i, i < ls.length → ∃ rv, w.cell? ⟨b, off + i, none⟩ = some rv ∧ StrsAt w rv (ls.getD i [])) := hc
    have HR : Hid (RowsLe ls 1048576) := hr
    clear hA hc hr hnil
    go_enter Try.func11, Try.ntmps11
    go_wp2_with fail
    go_loopw [4] (fun i wr => ∃ k : Nat, k ≤ ls.length ∧ i = .int .i64 k ∧ Hid (RowIs wr w.heap.size ls.length k ls) ∧ Below w.heap.size w wr) (fun i _ => ls.length - (intOf i).toNat)
    case atStart => exact ⟨0, Nat.zero_le _, rfl, RowIs.start w _ ls, (Below.refl _ _).alloc (Nat.le_refl _) _⟩
    case round =>
      obtain ⟨k, hk, rfl, HW, hb⟩ := hrel
      by_cases hlt : k < ls.length
      · have ha := HA.out (by omega)
        simp only [Option.some.injEq] at ha
        subst ha
        obtain ⟨rv, c1, s1⟩ := HC.out k hlt
        have c1 : wr.cell? ⟨b, off + k, none⟩ = some rv := by rw [hb.cell (p := ⟨b, off + k, none⟩) (World.block_lt_of_cell? w _ c1)]; exact c1
        obtain ⟨row, hrow⟩ : ∃ row, row = ls.getD k [] := ⟨_, rfl⟩
        have HRow : Hid (row = ls.getD k []) := hrow
        have hrl : row.length ≤ 1048576 := by rw [hrow]; exact HR.out k hlt
        rw [← hrow] at s1
        have HS : Hid (StrsAt wr rv row) := s1.below hb
        have i1 : (k : Int) < (ls.length : Int) := by omega
        clear s1 hnl hmk hrow
        go_wp2_with fail
        refine (clone_any rv row wr HS.out hrl).mono ?_
        rintro e w1 ⟨v1, rfl, s2, _, b2⟩
        have HW2 : Hid (RowIs w1 w.heap.size ls.length k ls) := HW.out.below b2
        have hb2 : Below w.heap.size w w1 := hb.trans (b2.mono hb.size)
        have HS2 : Hid (StrsAt w1 v1 row) := s2
        obtain ⟨ao, c, _, _, rfl, _⟩ := s2
        obtain ⟨⟨u, hu⟩, hfz⟩ := HW2.out.at k hlt
        have HW3 : Hid (RowIs (w1.setCell ⟨w.heap.size, k, none⟩ (.slice ao row.length c)) w.heap.size ls.length (k + 1) ls) := HW2.out.put hlt HRow.out HS2.out
        have hb3 := hb2.setCell (p := ⟨w.heap.size, k, none⟩) (Nat.le_refl _) (.slice ao row.length c)
        clear HW2 HW HS HS2 hb2
        go_wp2_with fail
        go_roundw
        case rel => exact ⟨k + 1, by omega, by go_num, HW3, hb3⟩
        case measure => simp [intOf]; omega
      · obtain rfl : k = ls.length := by omega
        go_wp2_with fail
        go_ret
        exact ⟨_, rfl, HW.out.lists, hb⟩
end Go.Proofs.Qxb6605609a
