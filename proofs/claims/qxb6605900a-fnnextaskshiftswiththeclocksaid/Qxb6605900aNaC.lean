import Derived.Test.Qxb6605900aNaB
namespace Go.Proofs.Qxb6605900a
open Go.RowKit Go.Deep

/-- The cells of a time told by its nanoseconds. -/
def timeCell (T : Int) : Nat → Value
  | 0 => .int .u64 (T % 1000000000)
  | 1 => .int .i64 (T / 1000000000)
  | _ => .pointer none

theorem time_new (w : World) (T : Int) : (w.alloc (.cells #[.int .u64 (T % 1000000000), .int .i64 (T / 1000000000), .pointer none] 58)).rowIs w.heap.size 58 3 (timeCell T) := by
  refine World.rowIs_alloc w _ 58 _ (fun i hi => ?_)
  match i, hi with
  | 0, _ => rfl
  | 1, _ => rfl
  | 2, _ => rfl

theorem time_zero (w : World) : (w.alloc (.cells #[.int .u64 0, .int .i64 0, .pointer none] 58)).rowIs w.heap.size 58 3 (timeCell 0) := by
  refine World.rowIs_alloc w _ 58 _ (fun i hi => ?_)
  match i, hi with
  | 0, _ => rfl
  | 1, _ => rfl
  | 2, _ => rfl

theorem time_set {w : World} {b : Nat} {T : Int} (T' : Int) (h : w.rowIs b 58 3 (timeCell T)) : (((w.setCell ⟨b, 0, none⟩ (.int .u64 (T' % 1000000000))).setCell ⟨b, 1, none⟩ (.int .i64 (T' / 1000000000))).setCell ⟨b, 2, none⟩ (.pointer none)).rowIs b 58 3 (timeCell T') := by
  refine (((h.set 0 _).set 1 _).set 2 _).congr (fun i hi => ?_)
  match i, hi with
  | 0, _ => rfl
  | 1, _ => rfl
  | 2, _ => rfl

theorem time_cells {w : World} {b : Nat} {T : Int} (h : w.rowIs b 58 3 (timeCell T)) : w.cell? ⟨b, 0, none⟩ = some (.int .u64 (T % 1000000000)) ∧ w.cell? ⟨b, 1, none⟩ = some (.int .i64 (T / 1000000000)) ∧ w.cell? ⟨b, 2, none⟩ = some (.pointer none) :=
  ⟨h.cell (by omega), h.cell (by omega), h.cell (by omega)⟩

theorem row_below {w w' : World} {b B : Nat} {t : TypeId} {n : Nat} {f : Nat → Value} (h : w.rowIs b t n f) (hb : Below B w w') (hlt : b < B) : w'.rowIs b t n f := h.of_block (hb.block b hlt)

/-- When the campaign is due. -/
def dueT (H M C J : Int) : Int := (if H + M < C + 500000000 then C + 500000000 else H + M) + J

set_option maxHeartbeats 1000000 in
theorem campaign_any (b : Nat) (lease hl H C P M J : Int) (hM : (if lease < hl then hl else lease) = M) (hM0 : -4611686018427387904 ≤ M) (hM1 : M ≤ 4611686018427387904) (h1 : -4611686018427387904 ≤ H) (h2 : H ≤ 4611686018427387904)
    (h3 : -4611686018427387904 ≤ C) (h4 : C ≤ 4611686018427387904) (h5 : -4611686018427387904 ≤ J) (h6 : J ≤ 4611686018427387904) (w : World) (hn : NodeT w b lease hl H C P) :
    Calls Try.prog 31 #[.pointer (some ⟨b, 0, none⟩), .int .i64 J] w fun e w' => e = .returned (.agg #[.int .u64 (dueT H M C J % 1000000000), .int .i64 (dueT H M C J / 1000000000), .pointer none]) ∧ Below w.heap.size w w' := by
  have HM : Hid ((if lease < hl then hl else lease) = M) := hM
  clear hM
  have HN : Hid (NodeT w b lease hl H C P) := hn
  have hlt := hn.lt
  clear hn
  go_enter Try.func31, Try.ntmps31
  go_wp2_with fail
  have hB0 := (Below.refl w.heap.size w).alloc (Nat.le_refl _) (.cells #[.int .u64 0, .int .i64 0, .pointer none] 58)
  have hr := time_zero w
  generalize w.alloc (.cells #[.int .u64 0, .int .i64 0, .pointer none] 58) = W at *
  have hn := HN.out.below hB0 hlt
  clear HN
  generalize hb0 : w.heap.size = b0 at *
  have HB0 : Hid (w.heap.size = b0) := hb0
  clear hb0
  have hl0 := hr.lt
  refine (heard_any b lease hl H C P M HM.out hM0 hM1 h1 h2 W hn).mono ?_
  rintro e w1 ⟨rfl, hb1⟩
  have hr := row_below hr hb1 hr.lt
  have hn := hn.below hb1 hn.lt
  have hB0 : Below b0 w w1 := hB0.trans (hb1.mono (by omega))
  have hl1 := hr.lt
  clear hb1 hl0
  obtain ⟨c1, c15, c12, c13, c14, c16, c17, c18, c19, c20, c21⟩ := hn
  clear c1 c15 c12 c13 c14 c19 c20 c21
  have hbl : b < w1.heap.size := by omega
  go_wp2_with fail
  clear c16 c17 c18
  have hd := time_new w1 (H + M)
  have hr := hr.alloc (.cells #[.int .u64 ((H + M) % 1000000000), .int .i64 ((H + M) / 1000000000), .pointer none] 58)
  have hB0 := hB0.alloc (by omega) (.cells #[.int .u64 ((H + M) % 1000000000), .int .i64 ((H + M) / 1000000000), .pointer none] 58)
  generalize w1.alloc (.cells #[.int .u64 ((H + M) % 1000000000), .int .i64 ((H + M) / 1000000000), .pointer none] 58) = w2 at *
  refine (add_any C 500000000 (by omega) (by omega) (by omega) (by omega) w2).mono ?_
  rintro e w3 ⟨rfl, hb3⟩
  have hd := row_below hd hb3 hd.lt
  have hr := row_below hr hb3 hr.lt
  have hl2 := hr.lt
  have hld := hd.lt
  have hB0 : Below b0 w w3 := hB0.trans (hb3.mono (by have := hB0.size; have := HB0.out; omega))
  clear hb3
  obtain ⟨d0, d1, d2⟩ := time_cells hd
  go_wp2_with fail
  clear d0 d1 d2
  have hx := time_new w3 (C + 500000000)
  have hd := hd.alloc (.cells #[.int .u64 ((C + 500000000) % 1000000000), .int .i64 ((C + 500000000) / 1000000000), .pointer none] 58)
  have hr := hr.alloc (.cells #[.int .u64 ((C + 500000000) % 1000000000), .int .i64 ((C + 500000000) / 1000000000), .pointer none] 58)
  have hB0 := hB0.alloc (by omega) (.cells #[.int .u64 ((C + 500000000) % 1000000000), .int .i64 ((C + 500000000) / 1000000000), .pointer none] 58)
  generalize w3.alloc (.cells #[.int .u64 ((C + 500000000) % 1000000000), .int .i64 ((C + 500000000) / 1000000000), .pointer none] 58) = w4 at *
  refine (after_any (C + 500000000) (H + M) w4).mono ?_
  rintro e w5 ⟨rfl, hb5⟩
  have hd := row_below hd hb5 hd.lt
  have hr := row_below hr hb5 hr.lt
  have hx := row_below hx hb5 hx.lt
  have hB0 : Below b0 w w5 := hB0.trans (hb5.mono (by have := hB0.size; have := HB0.out; omega))
  clear hb5
  have hl5 := hr.lt
  have hld := hd.lt
  have hlx := hx.lt
  obtain ⟨d0, d1, d2⟩ := time_cells hd
  obtain ⟨x0, x1, x2⟩ := time_cells hx
  have fd := hd.frozen
  by_cases hc : H + M < C + 500000000
  · have HDU : Hid (dueT H M C J = C + 500000000 + J) := by unfold dueT; rw [if_pos hc]; rfl
    go_wp2_with fail
    clear d0 d1 d2 x0 x1 x2 fd
    have hr := ((hr.setOther (a := ⟨w1.heap.size, 0, none⟩) (by simp; omega) (.int .u64 ((C + 500000000) % 1000000000))).setOther (a := ⟨w1.heap.size, 1, none⟩) (by simp; omega) (.int .i64 ((C + 500000000) / 1000000000))).setOther (a := ⟨w1.heap.size, 2, none⟩) (by simp; omega) (.pointer none)
    have hB0 := ((hB0.setCell (p := ⟨w1.heap.size, 0, none⟩) (by simp; omega) (.int .u64 ((C + 500000000) % 1000000000))).setCell (p := ⟨w1.heap.size, 1, none⟩) (by simp; omega) (.int .i64 ((C + 500000000) / 1000000000))).setCell (p := ⟨w1.heap.size, 2, none⟩) (by simp; omega) (.pointer none)
    generalize ((w5.setCell ⟨w1.heap.size, 0, none⟩ (.int .u64 ((C + 500000000) % 1000000000))).setCell ⟨w1.heap.size, 1, none⟩ (.int .i64 ((C + 500000000) / 1000000000))).setCell ⟨w1.heap.size, 2, none⟩ (.pointer none) = w6 at *
    refine (add_any (C + 500000000) J (by omega) (by omega) (by omega) (by omega) _).mono ?_
    rintro e w7 ⟨rfl, hb7⟩
    have hr := row_below hr hb7 hr.lt
    have hB0 : Below b0 w w7 := hB0.trans (hb7.mono (by have := hB0.size; have := HB0.out; omega))
    clear hb7
    have hl7 := hr.lt
    obtain ⟨y0, y1, y2⟩ := time_cells hr
    have fy := hr.frozen
    go_wp2_with fail
    refine bodyPost_ret (v := .agg #[.int .u64 ((C + 500000000 + J) % 1000000000), .int .i64 ((C + 500000000 + J) / 1000000000), .pointer none]) (by simp [results, Try.results31, go_sem, y0, y1, y2]) rfl ⟨by rw [HDU.out], ?_⟩
    rw [HB0.out]
    exact ((hB0.setCell (Nat.le_refl _) _).setCell (Nat.le_refl _) _).setCell (Nat.le_refl _) _
  · have HDU : Hid (dueT H M C J = H + M + J) := by unfold dueT; rw [if_neg hc]; rfl
    go_wp2_with fail
    clear d0 d1 d2 x0 x1 x2 fd
    refine (add_any (H + M) J (by omega) (by omega) (by omega) (by omega) _).mono ?_
    rintro e w7 ⟨rfl, hb7⟩
    have hr := row_below hr hb7 hr.lt
    have hB0 : Below b0 w w7 := hB0.trans (hb7.mono (by have := hB0.size; have := HB0.out; omega))
    clear hb7
    have hl7 := hr.lt
    obtain ⟨y0, y1, y2⟩ := time_cells hr
    have fy := hr.frozen
    go_wp2_with fail
    refine bodyPost_ret (v := .agg #[.int .u64 ((H + M + J) % 1000000000), .int .i64 ((H + M + J) / 1000000000), .pointer none]) (by simp [results, Try.results31, go_sem, y0, y1, y2]) rfl ⟨by rw [HDU.out], ?_⟩
    rw [HB0.out]
    exact ((hB0.setCell (Nat.le_refl _) _).setCell (Nat.le_refl _) _).setCell (Nat.le_refl _) _

/-- When the probe is due. -/
def probeT (H P : Int) : Int := (if H < P then P else H) + 500000000

end Go.Proofs.Qxb6605900a
