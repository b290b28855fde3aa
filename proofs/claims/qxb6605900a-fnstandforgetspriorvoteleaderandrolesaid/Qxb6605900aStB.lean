import Derived.Test.Qxb6605900aStA
namespace Go.Proofs.Qxb6605900a
open Go.RowKit Go.Deep

/-- A new node. -/
theorem node_new (w : World) (id term vote leader : Int) (role : ByteArray) : (w.alloc (.cells #[.int .u64 id, .int .i64 0, .int .u64 0, .int .u64 0, .slice none 0 0, .int .u64 0, .int .u64 0, .int .u64 0, .int .u64 term, .int .u64 vote, .string role, .int .u64 leader, .int .u64 0, .int .i64 0, .pointer none, .int .i64 0, .int .u64 0, .int .i64 0, .pointer none, .int .u64 0, .int .i64 0, .pointer none, .int .u64 0, .int .u64 0, .slice none 0 0, .bool false, .bool false, .bool false, .int .u64 0, .int .u64 0, .slice none 0 0, .int .u64 0, .int .u64 0, .int .u32 0, .bool false, .int .u32 0, .bool false] 66)).rowIs w.heap.size 66 37 (nodeCell id term vote leader role) := by
  refine World.rowIs_alloc w _ 66 _ (fun i hi => ?_)
  match i, hi with
  | 0, _ => rfl
  | 1, _ => rfl
  | 2, _ => rfl
  | 3, _ => rfl
  | 4, _ => rfl
  | 5, _ => rfl
  | 6, _ => rfl
  | 7, _ => rfl
  | 8, _ => rfl
  | 9, _ => rfl
  | 10, _ => rfl
  | 11, _ => rfl
  | 12, _ => rfl
  | 13, _ => rfl
  | 14, _ => rfl
  | 15, _ => rfl
  | 16, _ => rfl
  | 17, _ => rfl
  | 18, _ => rfl
  | 19, _ => rfl
  | 20, _ => rfl
  | 21, _ => rfl
  | 22, _ => rfl
  | 23, _ => rfl
  | 24, _ => rfl
  | 25, _ => rfl
  | 26, _ => rfl
  | 27, _ => rfl
  | 28, _ => rfl
  | 29, _ => rfl
  | 30, _ => rfl
  | 31, _ => rfl
  | 32, _ => rfl
  | 33, _ => rfl
  | 34, _ => rfl
  | 35, _ => rfl
  | 36, _ => rfl
  | i + 37, h => exact absurd (show i + 37 < 37 from h) (by omega)

/-- Behind the four stores. -/
theorem node_stood (id term vote leader t : Int) (role : ByteArray) : ∀ j, j < 37 → (fun j => if j = 11 then Value.int .u64 0 else (fun j => if j = 10 then Value.string cand else (fun j => if j = 9 then Value.int .u64 id else (fun j => if j = 8 then Value.int .u64 t else nodeCell id term vote leader role j) j) j) j) j = nodeCell id t id 0 cand j := by
  intro j hj
  match j, hj with
  | 0, _ => rfl
  | 1, _ => rfl
  | 2, _ => rfl
  | 3, _ => rfl
  | 4, _ => rfl
  | 5, _ => rfl
  | 6, _ => rfl
  | 7, _ => rfl
  | 8, _ => rfl
  | 9, _ => rfl
  | 10, _ => rfl
  | 11, _ => rfl
  | 12, _ => rfl
  | 13, _ => rfl
  | 14, _ => rfl
  | 15, _ => rfl
  | 16, _ => rfl
  | 17, _ => rfl
  | 18, _ => rfl
  | 19, _ => rfl
  | 20, _ => rfl
  | 21, _ => rfl
  | 22, _ => rfl
  | 23, _ => rfl
  | 24, _ => rfl
  | 25, _ => rfl
  | 26, _ => rfl
  | 27, _ => rfl
  | 28, _ => rfl
  | 29, _ => rfl
  | 30, _ => rfl
  | 31, _ => rfl
  | 32, _ => rfl
  | 33, _ => rfl
  | 34, _ => rfl
  | 35, _ => rfl
  | 36, _ => rfl
  | i + 37, h => exact absurd h (by omega)

theorem blk_set {w : World} {b o k : Nat} {v : Value} (h : k ≠ b) : (w.setCell ⟨b, o, none⟩ v).heap[k]? = w.heap[k]? := Below.heap_setCell _ _ _ _ h

/-- What Stand does, told by blocks. -/
theorem stand2 (b : Nat) (id term vote leader : Int) (role : ByteArray) (p0 p1 p2 : Int) (h : Bool) (w : World) (T : Int) (hT : IntKind.u64.wrap (term + 1) = T) (hb : w.rowIs b 66 37 (nodeCell id term vote leader role)) :
    Calls Try.prog 19 #[.pointer (some ⟨b, 0, none⟩), .agg #[.int .u64 p0, .int .u64 p1, .int .u64 p2], .bool h] w fun e w' => e = .returned (.agg #[.int .u64 0, .int .u64 T, .int .u64 id, .int .u64 0, .int .u64 p0, .int .u64 p1, .bool false, .bool h, .int .i64 0, .string ⟨#[]⟩]) ∧
      w'.rowIs b 66 37 (nodeCell id T id 0 cand) ∧ Below b w w' ∧ (∀ k, b < k → k < w.heap.size → w'.heap[k]? = w.heap[k]?) := by
  subst hT
  refine (stand_any b id term vote leader role p0 p1 p2 h w hb).mono ?_
  rintro e w' ⟨rfl, hbel⟩
  have hlt := hb.lt
  refine ⟨rfl, ?_, ?_, ?_⟩
  · have h1 := ((((hb.set 8 (.int .u64 (IntKind.u64.wrap (term + 1)))).set 9 (.int .u64 id)).set 10 (.string cand)).set 11 (.int .u64 0)).congr (node_stood id term vote leader _ role)
    exact h1.of_block (hbel.block b hlt)
  · exact (((((Below.refl b w).setCell (Nat.le_refl _) _).setCell (Nat.le_refl _) _).setCell (Nat.le_refl _) _).setCell (Nat.le_refl _) _).trans (hbel.mono (by omega))
  · intro k h1 h2
    rw [hbel.block k h2, blk_set (by omega), blk_set (by omega), blk_set (by omega), blk_set (by omega)]

theorem wrap_one (t : Int) (_h : (Lit.int .u64 t).wf = true) : IntKind.u64.wrap (IntKind.u64.wrap (t + 1) - t) = 1 := by
  simp [Lit.wf, IntKind.min, IntKind.max, IntKind.signed, IntKind.bits] at _h
  rw [IntKind.wrap_u64, IntKind.wrap_u64]
  omega

/-- The request's cells. -/
def reqCell (T id p0 p1 : Int) (h : Bool) (i : Nat) : Value := (#[Value.int .u64 0, .int .u64 T, .int .u64 id, .int .u64 0, .int .u64 p0, .int .u64 p1, .bool false, .bool h, .int .i64 0, .string ⟨#[]⟩] : Array Value).getD i undef

theorem req_new (w : World) (T id p0 p1 : Int) (h : Bool) : (w.alloc (.cells #[.int .u64 0, .int .u64 T, .int .u64 id, .int .u64 0, .int .u64 p0, .int .u64 p1, .bool false, .bool h, .int .i64 0, .string ⟨#[]⟩] 68)).rowIs w.heap.size 68 10 (reqCell T id p0 p1 h) :=
  World.rowIs_alloc w #[.int .u64 0, .int .u64 T, .int .u64 id, .int .u64 0, .int .u64 p0, .int .u64 p1, .bool false, .bool h, .int .i64 0, .string ⟨#[]⟩] 68 _ (fun i hi => by simp at hi; simp [reqCell, Array.getD, hi])

theorem req_cells {w : World} {b : Nat} {T id p0 p1 : Int} {h : Bool} (hq : w.rowIs b 68 10 (reqCell T id p0 p1 h)) : w.cell? ⟨b, 0, none⟩ = some (.int .u64 0) ∧ w.cell? ⟨b, 1, none⟩ = some (.int .u64 T) ∧ w.cell? ⟨b, 2, none⟩ = some (.int .u64 id) ∧ w.cell? ⟨b, 3, none⟩ = some (.int .u64 0) ∧
    w.cell? ⟨b, 4, none⟩ = some (.int .u64 p0) ∧ w.cell? ⟨b, 5, none⟩ = some (.int .u64 p1) ∧ w.cell? ⟨b, 6, none⟩ = some (.bool false) ∧ w.cell? ⟨b, 7, none⟩ = some (.bool h) ∧ w.cell? ⟨b, 8, none⟩ = some (.int .i64 0) ∧ w.cell? ⟨b, 9, none⟩ = some (.string ⟨#[]⟩) :=
  ⟨hq.cell (by omega), hq.cell (by omega), hq.cell (by omega), hq.cell (by omega), hq.cell (by omega), hq.cell (by omega), hq.cell (by omega), hq.cell (by omega), hq.cell (by omega), hq.cell (by omega)⟩

theorem node_cells {w : World} {b : Nat} {id term vote leader : Int} {role : ByteArray} (hn : w.rowIs b 66 37 (nodeCell id term vote leader role)) : w.cell? ⟨b, 0, none⟩ = some (.int .u64 id) ∧ w.cell? ⟨b, 8, none⟩ = some (.int .u64 term) ∧ w.cell? ⟨b, 9, none⟩ = some (.int .u64 vote) ∧ w.cell? ⟨b, 10, none⟩ = some (.string role) ∧ w.cell? ⟨b, 11, none⟩ = some (.int .u64 leader) :=
  ⟨hn.cell (by omega), hn.cell (by omega), hn.cell (by omega), hn.cell (by omega), hn.cell (by omega)⟩

theorem pos_cells {w : World} {b : Nat} {p0 p1 p2 : Int} (hp : w.rowIs b 49 3 (fun i => #[Value.int .u64 p0, .int .u64 p1, .int .u64 p2].getD i undef)) : w.cell? ⟨b, 0, none⟩ = some (.int .u64 p0) ∧ w.cell? ⟨b, 1, none⟩ = some (.int .u64 p1) ∧ w.cell? ⟨b, 2, none⟩ = some (.int .u64 p2) :=
  ⟨hp.cell (by omega), hp.cell (by omega), hp.cell (by omega)⟩

set_option maxHeartbeats 4000000 in
set_option maxRecDepth 100000 in
theorem stand_walk (id term vote leader : Int) (r1 : ByteArray) (vote2 leader2 : Int) (r2 : ByteArray) (p0 p1 p2 : Int) (h : Bool) (w : World) (hT : (Lit.int .u64 term).wf = true) :
    Calls Try.prog 7 #[.int .u64 id, .int .u64 term, .int .u64 vote, .int .u64 leader, .string r1, .int .u64 vote2, .int .u64 leader2, .string r2, .agg #[.int .u64 p0, .int .u64 p1, .int .u64 p2], .bool h] w fun e w' => e = .returned (.bool true) ∧ Below w.heap.size w w' := by
  have HW : Hid (IntKind.u64.wrap (IntKind.u64.wrap (term + 1) - term) = 1) := wrap_one term hT
  clear hT
  go_enter Try.func7, Try.ntmps7
  go_wp2_with fail
  refine (zzbytes3_any _ _ _ _ _ _ _ _ _ _ _ _ _).mono ?_
  rintro e w1 ⟨⟨t, rfl⟩, c, rfl⟩
  cases t
  · go_wp2_with fail
    go_ret
    exact ⟨rfl, ((Below.refl _ _).alloc (Nat.le_refl _) _).alloc (by simp) _⟩
  by_cases h1 : (1048576 : Int) < r1.size
  · go_wp2_with fail
    go_ret
    exact ⟨rfl, ((Below.refl _ _).alloc (Nat.le_refl _) _).alloc (by simp) _⟩
  by_cases h2 : (1048576 : Int) < r2.size
  · go_wp2_with fail
    go_ret
    exact ⟨rfl, ((Below.refl _ _).alloc (Nat.le_refl _) _).alloc (by simp) _⟩
  by_cases h3 : (1048576 : Int) < (r1.size : Int) + r2.size
  · go_wp2_with fail
    go_ret
    exact ⟨rfl, ((Below.refl _ _).alloc (Nat.le_refl _) _).alloc (by simp) _⟩
  go_wp2_with fail
  have hB0 : Below w.heap.size w ((((w.alloc (.cells #[.int .u64 p0, .int .u64 p1, .int .u64 p2] 49)).alloc (.cells c 49)).alloc (.cells #[.int .u64 id, .int .i64 0, .int .u64 0, .int .u64 0, .slice none 0 0, .int .u64 0, .int .u64 0, .int .u64 0, .int .u64 term, .int .u64 vote, .string r1, .int .u64 leader, .int .u64 0, .int .i64 0, .pointer none, .int .i64 0, .int .u64 0, .int .i64 0, .pointer none, .int .u64 0, .int .i64 0, .pointer none, .int .u64 0, .int .u64 0, .slice none 0 0, .bool false, .bool false, .bool false, .int .u64 0, .int .u64 0, .slice none 0 0, .int .u64 0, .int .u64 0, .int .u32 0, .bool false, .int .u32 0, .bool false] 66)).alloc (.cells #[.int .u64 id, .int .i64 0, .int .u64 0, .int .u64 0, .slice none 0 0, .int .u64 0, .int .u64 0, .int .u64 0, .int .u64 term, .int .u64 vote2, .string r2, .int .u64 leader2, .int .u64 0, .int .i64 0, .pointer none, .int .i64 0, .int .u64 0, .int .i64 0, .pointer none, .int .u64 0, .int .i64 0, .pointer none, .int .u64 0, .int .u64 0, .slice none 0 0, .bool false, .bool false, .bool false, .int .u64 0, .int .u64 0, .slice none 0 0, .int .u64 0, .int .u64 0, .int .u32 0, .bool false, .int .u32 0, .bool false] 66)) :=
    ((((Below.refl _ _).alloc (Nat.le_refl _) _).alloc (by simp) _).alloc (by simp; omega) _).alloc (by simp; omega) _
  have hn1 := (node_new ((w.alloc (.cells #[.int .u64 p0, .int .u64 p1, .int .u64 p2] 49)).alloc (.cells c 49)) id term vote leader r1).alloc (.cells #[.int .u64 id, .int .i64 0, .int .u64 0, .int .u64 0, .slice none 0 0, .int .u64 0, .int .u64 0, .int .u64 0, .int .u64 term, .int .u64 vote2, .string r2, .int .u64 leader2, .int .u64 0, .int .i64 0, .pointer none, .int .i64 0, .int .u64 0, .int .i64 0, .pointer none, .int .u64 0, .int .i64 0, .pointer none, .int .u64 0, .int .u64 0, .slice none 0 0, .bool false, .bool false, .bool false, .int .u64 0, .int .u64 0, .slice none 0 0, .int .u64 0, .int .u64 0, .int .u32 0, .bool false, .int .u32 0, .bool false] 66)
  have hn2 := node_new (((w.alloc (.cells #[.int .u64 p0, .int .u64 p1, .int .u64 p2] 49)).alloc (.cells c 49)).alloc (.cells #[.int .u64 id, .int .i64 0, .int .u64 0, .int .u64 0, .slice none 0 0, .int .u64 0, .int .u64 0, .int .u64 0, .int .u64 term, .int .u64 vote, .string r1, .int .u64 leader, .int .u64 0, .int .i64 0, .pointer none, .int .i64 0, .int .u64 0, .int .i64 0, .pointer none, .int .u64 0, .int .i64 0, .pointer none, .int .u64 0, .int .u64 0, .slice none 0 0, .bool false, .bool false, .bool false, .int .u64 0, .int .u64 0, .slice none 0 0, .int .u64 0, .int .u64 0, .int .u32 0, .bool false, .int .u32 0, .bool false] 66)) id term vote2 leader2 r2
  have hp : ((((w.alloc (.cells #[.int .u64 p0, .int .u64 p1, .int .u64 p2] 49)).alloc (.cells c 49)).alloc (.cells #[.int .u64 id, .int .i64 0, .int .u64 0, .int .u64 0, .slice none 0 0, .int .u64 0, .int .u64 0, .int .u64 0, .int .u64 term, .int .u64 vote, .string r1, .int .u64 leader, .int .u64 0, .int .i64 0, .pointer none, .int .i64 0, .int .u64 0, .int .i64 0, .pointer none, .int .u64 0, .int .i64 0, .pointer none, .int .u64 0, .int .u64 0, .slice none 0 0, .bool false, .bool false, .bool false, .int .u64 0, .int .u64 0, .slice none 0 0, .int .u64 0, .int .u64 0, .int .u32 0, .bool false, .int .u32 0, .bool false] 66)).alloc (.cells #[.int .u64 id, .int .i64 0, .int .u64 0, .int .u64 0, .slice none 0 0, .int .u64 0, .int .u64 0, .int .u64 0, .int .u64 term, .int .u64 vote2, .string r2, .int .u64 leader2, .int .u64 0, .int .i64 0, .pointer none, .int .i64 0, .int .u64 0, .int .i64 0, .pointer none, .int .u64 0, .int .i64 0, .pointer none, .int .u64 0, .int .u64 0, .slice none 0 0, .bool false, .bool false, .bool false, .int .u64 0, .int .u64 0, .slice none 0 0, .int .u64 0, .int .u64 0, .int .u32 0, .bool false, .int .u32 0, .bool false] 66)).rowIs w.heap.size 49 3 (fun i => #[Value.int .u64 p0, .int .u64 p1, .int .u64 p2].getD i undef) :=
    (((World.rowIs_alloc w #[.int .u64 p0, .int .u64 p1, .int .u64 p2] 49 (fun i => #[Value.int .u64 p0, .int .u64 p1, .int .u64 p2].getD i undef) (fun i hi => by simp at hi; simp [Array.getD, hi])).alloc _).alloc _).alloc _
  simp only [World.size_alloc] at hn1 hn2
  clear h1 h2 h3
  generalize (((w.alloc (.cells #[.int .u64 p0, .int .u64 p1, .int .u64 p2] 49)).alloc (.cells c 49)).alloc (.cells #[.int .u64 id, .int .i64 0, .int .u64 0, .int .u64 0, .slice none 0 0, .int .u64 0, .int .u64 0, .int .u64 0, .int .u64 term, .int .u64 vote, .string r1, .int .u64 leader, .int .u64 0, .int .i64 0, .pointer none, .int .i64 0, .int .u64 0, .int .i64 0, .pointer none, .int .u64 0, .int .i64 0, .pointer none, .int .u64 0, .int .u64 0, .slice none 0 0, .bool false, .bool false, .bool false, .int .u64 0, .int .u64 0, .slice none 0 0, .int .u64 0, .int .u64 0, .int .u32 0, .bool false, .int .u32 0, .bool false] 66)).alloc (.cells #[.int .u64 id, .int .i64 0, .int .u64 0, .int .u64 0, .slice none 0 0, .int .u64 0, .int .u64 0, .int .u64 0, .int .u64 term, .int .u64 vote2, .string r2, .int .u64 leader2, .int .u64 0, .int .i64 0, .pointer none, .int .i64 0, .int .u64 0, .int .i64 0, .pointer none, .int .u64 0, .int .i64 0, .pointer none, .int .u64 0, .int .u64 0, .slice none 0 0, .bool false, .bool false, .bool false, .int .u64 0, .int .u64 0, .slice none 0 0, .int .u64 0, .int .u64 0, .int .u32 0, .bool false, .int .u32 0, .bool false] 66) = W0 at *
  have hl2 := hn2.lt
  have hl1 := hn1.lt
  generalize hb0 : w.heap.size = b0 at *
  have HB0 : Hid (w.heap.size = b0) := hb0
  clear hb0
  refine (pos_any p0 p1 p2 W0).mono ?_
  rintro e w2 ⟨rfl, hB2⟩
  have hn1 := hn1.of_block (hB2.block _ hl1)
  have hn2 := hn2.of_block (hB2.block _ hl2)
  have hp := hp.of_block (hB2.block _ (by omega))
  have hB0 : Below b0 w w2 := hB0.trans (hB2.mono (by omega))
  clear hB2
  go_wp2_with fail
  obtain ⟨T, hT⟩ : ∃ T, IntKind.u64.wrap (term + 1) = T := ⟨_, rfl⟩
  have HT : Hid (IntKind.u64.wrap (term + 1) = T) := hT
  rw [hT] at HW
  clear hT
  refine (stand2 _ id term vote leader r1 p0 p1 p2 h w2 T HT.out hn1).mono ?_
  rintro e w3 ⟨rfl, hn1', hB3, hF3⟩
  have hn2 := hn2.of_block (hF3 _ (by omega) hn2.lt)
  have hp := hp.of_block (hB3.block _ (by omega))
  have hB0 : Below b0 w w3 := hB0.trans (hB3.mono (by omega))
  clear hB3 hF3 hn1
  have hl1 := hn1'.lt
  have hl2 := hn2.lt
  have hlp := hp.lt
  obtain ⟨x0, x1, x2⟩ := pos_cells hp
  go_wp2_with fail
  clear x0 x1 x2
  have hq1 := req_new w3 T id p0 p1 h
  have hn1' := hn1'.alloc (.cells #[.int .u64 0, .int .u64 T, .int .u64 id, .int .u64 0, .int .u64 p0, .int .u64 p1, .bool false, .bool h, .int .i64 0, .string ⟨#[]⟩] 68)
  have hn2 := hn2.alloc (.cells #[.int .u64 0, .int .u64 T, .int .u64 id, .int .u64 0, .int .u64 p0, .int .u64 p1, .bool false, .bool h, .int .i64 0, .string ⟨#[]⟩] 68)
  have hp := hp.alloc (.cells #[.int .u64 0, .int .u64 T, .int .u64 id, .int .u64 0, .int .u64 p0, .int .u64 p1, .bool false, .bool h, .int .i64 0, .string ⟨#[]⟩] 68)
  have hB0 := hB0.alloc (by omega) (.cells #[.int .u64 0, .int .u64 T, .int .u64 id, .int .u64 0, .int .u64 p0, .int .u64 p1, .bool false, .bool h, .int .i64 0, .string ⟨#[]⟩] 68)
  generalize w3.alloc (.cells #[.int .u64 0, .int .u64 T, .int .u64 id, .int .u64 0, .int .u64 p0, .int .u64 p1, .bool false, .bool h, .int .i64 0, .string ⟨#[]⟩] 68) = w4 at *
  have hlq := hq1.lt
  refine (pos_any p0 p1 p2 w4).mono ?_
  rintro e w5 ⟨rfl, hB5⟩
  have hn1' := hn1'.of_block (hB5.block _ hn1'.lt)
  have hn2 := hn2.of_block (hB5.block _ hn2.lt)
  have hp := hp.of_block (hB5.block _ hp.lt)
  have hq1 := hq1.of_block (hB5.block _ hq1.lt)
  have hB0 : Below b0 w w5 := hB0.trans (hB5.mono (by omega))
  clear hB5
  go_wp2_with fail
  refine (stand2 _ id term vote2 leader2 r2 p0 p1 p2 h w5 T HT.out hn2).mono ?_
  rintro e w6 ⟨rfl, hn2', hB6, hF6⟩
  have hl2 := hn2.lt
  have hq1 := hq1.of_block (hF6 _ (by omega) hq1.lt)
  have hn1' := hn1'.of_block (hB6.block _ (by omega))
  have hp := hp.of_block (hB6.block _ (by omega))
  have hB0 : Below b0 w w6 := hB0.trans (hB6.mono (by omega))
  clear hB6 hF6 hn2
  have hl1 := hn1'.lt
  have hl2 := hn2'.lt
  have hlp := hp.lt
  have hlq := hq1.lt
  obtain ⟨x0, x1, x2⟩ := pos_cells hp
  obtain ⟨q0, q1, q2, q3, q4, q5, q6, q7, q8, q9⟩ := req_cells hq1
  obtain ⟨m0, m8, m9, m10, m11⟩ := node_cells hn1'
  obtain ⟨n0, n8, n9, n10, n11⟩ := node_cells hn2'
  go_wp2_with fail
  have hn1' := hn1'.alloc (.cells #[.int .u64 0, .int .u64 T, .int .u64 id, .int .u64 0, .int .u64 p0, .int .u64 p1, .bool false, .bool h, .int .i64 0, .string ⟨#[]⟩] 68)
  have hn2' := hn2'.alloc (.cells #[.int .u64 0, .int .u64 T, .int .u64 id, .int .u64 0, .int .u64 p0, .int .u64 p1, .bool false, .bool h, .int .i64 0, .string ⟨#[]⟩] 68)
  have hp := hp.alloc (.cells #[.int .u64 0, .int .u64 T, .int .u64 id, .int .u64 0, .int .u64 p0, .int .u64 p1, .bool false, .bool h, .int .i64 0, .string ⟨#[]⟩] 68)
  have hq1 := hq1.alloc (.cells #[.int .u64 0, .int .u64 T, .int .u64 id, .int .u64 0, .int .u64 p0, .int .u64 p1, .bool false, .bool h, .int .i64 0, .string ⟨#[]⟩] 68)
  have hB0 := hB0.alloc (by omega) (.cells #[.int .u64 0, .int .u64 T, .int .u64 id, .int .u64 0, .int .u64 p0, .int .u64 p1, .bool false, .bool h, .int .i64 0, .string ⟨#[]⟩] 68)
  generalize w6.alloc (.cells #[.int .u64 0, .int .u64 T, .int .u64 id, .int .u64 0, .int .u64 p0, .int .u64 p1, .bool false, .bool h, .int .i64 0, .string ⟨#[]⟩] 68) = w7 at *
  clear x0 x1 x2 q0 q1 q2 q3 q4 q5 q6 q7 q8 q9 m0 m8 m9 m10 m11 n0 n8 n9 n10 n11
  obtain ⟨m0, m8, m9, m10, m11⟩ := node_cells hn1'
  obtain ⟨n0, n8, n9, n10, n11⟩ := node_cells hn2'
  go_quiet (fail)
  go_wp2_with fail
  refine (rest_any _ id T id 0 cand (w7.drewN nq) (hn1'.of_block rfl)).mono ?_
  rintro e w8 ⟨rfl, hB8⟩
  have hsz7 : (w7.drewN nq).heap.size = w7.heap.size := rfl
  rw [hsz7] at hB8
  have hn1' := (hn1'.of_block (w' := w7.drewN nq) rfl).of_block (hB8.block _ hn1'.lt)
  have hn2' := (hn2'.of_block (w' := w7.drewN nq) rfl).of_block (hB8.block _ hn2'.lt)
  have hp := (hp.of_block (w' := w7.drewN nq) rfl).of_block (hB8.block _ hp.lt)
  have hq1 := (hq1.of_block (w' := w7.drewN nq) rfl).of_block (hB8.block _ hq1.lt)
  have hB0 : Below b0 w w8 := (below_drewN hB0 nq).trans (hB8.mono (by have := hp.lt; have := hB0.size; have := HB0.out; omega))
  clear hB8 hsz7 m0 m8 m9 m10 m11 n0 n8 n9 n10 n11
  go_wp2_with fail
  refine (rest_any _ id T id 0 cand w8 hn2').mono ?_
  rintro e w9 ⟨rfl, hB9⟩
  have hn1' := hn1'.of_block (hB9.block _ hn1'.lt)
  have hp := hp.of_block (hB9.block _ hp.lt)
  have hq1 := hq1.of_block (hB9.block _ hq1.lt)
  have hB0 : Below b0 w w9 := hB0.trans (hB9.mono (by have := hB0.size; have := HB0.out; omega))
  clear hB9 hn2'
  obtain ⟨x0, x1, x2⟩ := pos_cells hp
  obtain ⟨q0, q1, q2, q3, q4, q5, q6, q7, q8, q9⟩ := req_cells hq1
  obtain ⟨m0, m8, m9, m10, m11⟩ := node_cells hn1'
  have hw1 : (IntKind.u64.wrap (T - term) != 1) = false := by rw [HW.out]; rfl
  go_wp2_with fail
  go_quiet (fail)
  go_wp2_with fail
  refine (extras_any _ _ _ _ _ _).mono ?_
  rintro e w10 ⟨rfl, hB10⟩
  have hB0 : Below b0 w w10 := (below_drewN hB0 nq).trans (hB10.mono (by have := hB0.size; have := HB0.out; show b0 ≤ w9.heap.size; omega))
  clear hB10
  go_wp2_with fail
  go_ret
  refine ⟨rfl, ?_⟩
  first
    | exact hB0
    | (rw [HB0.out]; exact hB0)
end Go.Proofs.Qxb6605900a
