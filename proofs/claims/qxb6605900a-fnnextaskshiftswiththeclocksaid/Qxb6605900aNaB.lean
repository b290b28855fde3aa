import Derived.Test.Qxb6605900aNaA
namespace Go.Proofs.Qxb6605900a
open Go.RowKit Go.Deep

theorem add0_any (d : Int) (hd0 : -9223372036854775808 ≤ d) (hd1 : d ≤ 9223372036854775807) (w : World) :
    Calls Try.prog 23 #[.agg #[.int .u64 0, .int .i64 0, .pointer none], .int .i64 d] w fun e w' => e = .returned (.agg #[.int .u64 (d % 1000000000), .int .i64 (d / 1000000000), .pointer none]) ∧ Below w.heap.size w w' := by
  have h := add_any 0 d (by omega) (by omega) hd0 hd1 w
  rw [show (0 : Int) % 1000000000 = 0 from rfl, show (0 : Int) / 1000000000 = 0 from rfl, Int.zero_add] at h
  exact h

/-- The cells of a node that NextAsk reads. -/
structure NodeT (w : World) (b : Nat) (lease hl H C P : Int) : Prop where
  c1 : w.cell? ⟨b, 1, none⟩ = some (.int .i64 lease)
  c15 : w.cell? ⟨b, 15, none⟩ = some (.int .i64 hl)
  c12 : w.cell? ⟨b, 12, none⟩ = some (.int .u64 (H % 1000000000))
  c13 : w.cell? ⟨b, 13, none⟩ = some (.int .i64 (H / 1000000000))
  c14 : w.cell? ⟨b, 14, none⟩ = some (.pointer none)
  c16 : w.cell? ⟨b, 16, none⟩ = some (.int .u64 (C % 1000000000))
  c17 : w.cell? ⟨b, 17, none⟩ = some (.int .i64 (C / 1000000000))
  c18 : w.cell? ⟨b, 18, none⟩ = some (.pointer none)
  c19 : w.cell? ⟨b, 19, none⟩ = some (.int .u64 (P % 1000000000))
  c20 : w.cell? ⟨b, 20, none⟩ = some (.int .i64 (P / 1000000000))
  c21 : w.cell? ⟨b, 21, none⟩ = some (.pointer none)

theorem NodeT.lt {w : World} {b : Nat} {lease hl H C P : Int} (h : NodeT w b lease hl H C P) : b < w.heap.size := World.block_lt_of_cell? w _ h.c1

theorem NodeT.below {w w' : World} {b B : Nat} {lease hl H C P : Int} (h : NodeT w b lease hl H C P) (hb : Below B w w') (hlt : b < B) : NodeT w' b lease hl H C P :=
  ⟨(hb.cell (p := ⟨b, 1, none⟩) hlt).trans h.c1, (hb.cell (p := ⟨b, 15, none⟩) hlt).trans h.c15, (hb.cell (p := ⟨b, 12, none⟩) hlt).trans h.c12, (hb.cell (p := ⟨b, 13, none⟩) hlt).trans h.c13, (hb.cell (p := ⟨b, 14, none⟩) hlt).trans h.c14,
   (hb.cell (p := ⟨b, 16, none⟩) hlt).trans h.c16, (hb.cell (p := ⟨b, 17, none⟩) hlt).trans h.c17, (hb.cell (p := ⟨b, 18, none⟩) hlt).trans h.c18, (hb.cell (p := ⟨b, 19, none⟩) hlt).trans h.c19, (hb.cell (p := ⟨b, 20, none⟩) hlt).trans h.c20, (hb.cell (p := ⟨b, 21, none⟩) hlt).trans h.c21⟩

set_option maxHeartbeats 1000000 in
theorem newNode_any (lease hl H C P : Int) (h1 : -9223372036854775808 ≤ H) (h2 : H ≤ 9223372036854775807) (h3 : -9223372036854775808 ≤ C) (h4 : C ≤ 9223372036854775807) (h5 : -9223372036854775808 ≤ P) (h6 : P ≤ 9223372036854775807) (w : World) :
    Calls Try.prog 16 #[.int .i64 lease, .int .i64 hl, .int .i64 H, .int .i64 C, .int .i64 P] w fun e w' => ∃ b, w.heap.size ≤ b ∧ e = .returned (.pointer (some ⟨b, 0, none⟩)) ∧ NodeT w' b lease hl H C P ∧ Below w.heap.size w w' := by
  go_enter Try.func16, Try.ntmps16
  go_wp2_with fail
  refine (add0_any H h1 h2 _).mono ?_
  rintro e w1 ⟨rfl, hb1⟩
  go_wp2_with fail
  refine (add0_any C h3 h4 _).mono ?_
  rintro e w2 ⟨rfl, hb2⟩
  go_wp2_with fail
  refine (add0_any P h5 h6 _).mono ?_
  rintro e w3 ⟨rfl, hb3⟩
  have s1 := hb1.size
  have s2 := hb2.size
  have s3 := hb3.size
  go_wp2_with fail
  go_ret
  refine ⟨w3.heap.size, by omega, rfl, ?_, ((hb1.trans (hb2.mono s1)).trans (hb3.mono (by omega))).alloc (by omega) _⟩
  constructor <;> simp [go_sem]

set_option maxHeartbeats 1000000 in
theorem heard_any (b : Nat) (lease hl H C P M : Int) (hM : (if lease < hl then hl else lease) = M) (hM0 : -4611686018427387904 ≤ M) (hM1 : M ≤ 4611686018427387904) (h1 : -4611686018427387904 ≤ H) (h2 : H ≤ 4611686018427387904) (w : World) (hn : NodeT w b lease hl H C P) :
    Calls Try.prog 37 #[.pointer (some ⟨b, 0, none⟩)] w fun e w' => e = .returned (.agg #[.int .u64 ((H + M) % 1000000000), .int .i64 ((H + M) / 1000000000), .pointer none]) ∧ Below w.heap.size w w' := by
  have hlt := hn.lt
  obtain ⟨c1, c15, c12, c13, c14, c16, c17, c18, c19, c20, c21⟩ := hn
  clear c16 c17 c18 c19 c20 c21
  go_enter Try.func37, Try.ntmps37
  go_wp2_with fail
  have hBW := (Below.refl w.heap.size w).alloc (Nat.le_refl _) (.cells #[.int .u64 0, .int .i64 0, .pointer none] 58)
  have k1 := (hBW.cell (p := ⟨b, 1, none⟩) hlt).trans c1
  have k15 := (hBW.cell (p := ⟨b, 15, none⟩) hlt).trans c15
  have k12 := (hBW.cell (p := ⟨b, 12, none⟩) hlt).trans c12
  have k13 := (hBW.cell (p := ⟨b, 13, none⟩) hlt).trans c13
  have k14 := (hBW.cell (p := ⟨b, 14, none⟩) hlt).trans c14
  have r0 : (w.alloc (.cells #[.int .u64 0, .int .i64 0, .pointer none] 58)).cell? ⟨w.heap.size, 0, none⟩ = some (.int .u64 0) := by simp [go_sem]
  have r1 : (w.alloc (.cells #[.int .u64 0, .int .i64 0, .pointer none] 58)).cell? ⟨w.heap.size, 1, none⟩ = some (.int .i64 0) := by simp [go_sem]
  have r2 : (w.alloc (.cells #[.int .u64 0, .int .i64 0, .pointer none] 58)).cell? ⟨w.heap.size, 2, none⟩ = some (.pointer none) := by simp [go_sem]
  have rf : ∀ o, (w.alloc (.cells #[.int .u64 0, .int .i64 0, .pointer none] 58)).frozen? ⟨w.heap.size, o, none⟩ = false := fun o => by simp [go_sem]
  have hltW : w.heap.size < (w.alloc (.cells #[.int .u64 0, .int .i64 0, .pointer none] 58)).heap.size := by simp
  clear c1 c15 c12 c13 c14
  generalize w.alloc (.cells #[.int .u64 0, .int .i64 0, .pointer none] 58) = W at *
  generalize hb0 : w.heap.size = b0 at *
  have HB0 : Hid (w.heap.size = b0) := hb0
  clear hb0
  go_region_with (go_at_call 23; refine (add_any H M (by omega) (by omega) (by omega) (by omega) _).mono ?_; rintro e w1 ⟨rfl, hb1⟩; have q0 := (hb1.cell (p := ⟨b0, 0, none⟩) hltW).trans r0; have q1 := (hb1.cell (p := ⟨b0, 1, none⟩) hltW).trans r1; have q2 := (hb1.cell (p := ⟨b0, 2, none⟩) hltW).trans r2; have qf := fun o => (hb1.frozen (p := ⟨b0, o, none⟩) hltW).trans (rf o))
  all_goals
    go_wp2_with fail
    refine bodyPost_ret (v := .agg #[.int .u64 ((H + M) % 1000000000), .int .i64 ((H + M) / 1000000000), .pointer none]) (by simp [results, Try.results37, go_sem, q0, q1, q2]) rfl ⟨rfl, ?_⟩
    rw [HB0.out]
    have k1 : Below b0 w w1 := hBW.drew.trans (hb1.mono (Nat.le_of_lt hltW))
    exact ((k1.setCell (Nat.le_refl _) _).setCell (Nat.le_refl _) _).setCell (Nat.le_refl _) _
end Go.Proofs.Qxb6605900a
