import Derived.Test.Qxb6605900aNaC
namespace Go.Proofs.Qxb6605900a
open Go.RowKit Go.Deep
set_option linter.unusedSimpArgs false

set_option maxHeartbeats 1000000 in
theorem nextAsk_may (b : Nat) (lease hl H C P M J D : Int) (hM : (if lease < hl then hl else lease) = M) (hM0 : -4611686018427387904 ≤ M) (hM1 : M ≤ 4611686018427387904) (h1 : -4611686018427387904 ≤ H) (h2 : H ≤ 4611686018427387904)
    (h3 : -4611686018427387904 ≤ C) (h4 : C ≤ 4611686018427387904) (h5 : -4611686018427387904 ≤ J) (h6 : J ≤ 4611686018427387904) (hD : dueT H M C J = D) (w : World) (hn : NodeT w b lease hl H C P) :
    Calls Try.prog 24 #[.pointer (some ⟨b, 0, none⟩), .int .i64 J, .bool true] w fun e w' => e = .returned (.tuple #[.agg #[.int .u64 (D % 1000000000), .int .i64 (D / 1000000000), .pointer none], .bool false]) ∧ Below w.heap.size w w' := by
  have HM : Hid ((if lease < hl then hl else lease) = M) := hM
  clear hM
  have HN : Hid (NodeT w b lease hl H C P) := hn
  have hlt := hn.lt
  clear hn
  have HD : Hid (dueT H M C J = D) := hD
  clear hD
  go_enter Try.func24, Try.ntmps24
  go_wp2_with fail
  have hB0 := (Below.refl w.heap.size w).alloc (Nat.le_refl _) (.cells #[.int .u64 0, .int .i64 0, .pointer none] 58)
  have hr := time_zero w
  generalize w.alloc (.cells #[.int .u64 0, .int .i64 0, .pointer none] 58) = W at *
  have hn := HN.out.below hB0 hlt
  clear HN
  generalize hb0 : w.heap.size = b0 at *
  have HB0 : Hid (w.heap.size = b0) := hb0
  clear hb0
  have hl0 := hr.lt
  refine (campaign_any b lease hl H C P M J HM.out hM0 hM1 h1 h2 h3 h4 h5 h6 W hn).mono ?_
  rintro e w1 ⟨rfl, hb1⟩
  rw [HD.out]
  have hr := row_below hr hb1 hr.lt
  have hB0 : Below b0 w w1 := hB0.trans (hb1.mono (by omega))
  have hl1 := hr.lt
  clear hb1 hl0 hn
  obtain ⟨y0, y1, y2⟩ := time_cells hr
  have fy := hr.frozen
  go_wp2_with fail
  refine bodyPost_ret (v := .tuple #[.agg #[.int .u64 (D % 1000000000), .int .i64 (D / 1000000000), .pointer none], .bool false]) (by simp [results, Try.results24, go_sem, y0, y1, y2, hl1]) rfl ⟨rfl, ?_⟩
  rw [HB0.out]
  exact (((hB0.setCell (Nat.le_refl _) _).setCell (Nat.le_refl _) _).setCell (Nat.le_refl _) _).alloc (by simp; omega) _

set_option maxHeartbeats 1000000 in
theorem nextAsk_not (b : Nat) (lease hl H C P M J D Q : Int) (hM : (if lease < hl then hl else lease) = M) (hM0 : -4611686018427387904 ≤ M) (hM1 : M ≤ 4611686018427387904) (h1 : -4611686018427387904 ≤ H) (h2 : H ≤ 4611686018427387904)
    (h3 : -4611686018427387904 ≤ C) (h4 : C ≤ 4611686018427387904) (h5 : -4611686018427387904 ≤ J) (h6 : J ≤ 4611686018427387904) (h7 : -4611686018427387904 ≤ P) (h8 : P ≤ 4611686018427387904) (hD : dueT H M C J = D) (hQ : probeT H P = Q) (w : World) (hn : NodeT w b lease hl H C P) :
    Calls Try.prog 24 #[.pointer (some ⟨b, 0, none⟩), .int .i64 J, .bool false] w fun e w' => e = .returned (.tuple #[.agg #[.int .u64 ((if Q < D then Q else D) % 1000000000), .int .i64 ((if Q < D then Q else D) / 1000000000), .pointer none], .bool (decide (Q < D))]) ∧ Below w.heap.size w w' := by
  have HM : Hid ((if lease < hl then hl else lease) = M) := hM
  clear hM
  have HN : Hid (NodeT w b lease hl H C P) := hn
  have hlt := hn.lt
  clear hn
  have HD : Hid (dueT H M C J = D) := hD
  have HQ : Hid (probeT H P = Q) := hQ
  clear hD hQ
  go_enter Try.func24, Try.ntmps24
  go_wp2_with fail
  have hB0 := (Below.refl w.heap.size w).alloc (Nat.le_refl _) (.cells #[.int .u64 0, .int .i64 0, .pointer none] 58)
  have hr := time_zero w
  generalize w.alloc (.cells #[.int .u64 0, .int .i64 0, .pointer none] 58) = W at *
  have hn := HN.out.below hB0 hlt
  clear HN
  generalize hb0 : w.heap.size = b0 at *
  have HB0 : Hid (w.heap.size = b0) := hb0
  clear hb0
  have hl0 := hr.lt
  refine (campaign_any b lease hl H C P M J HM.out hM0 hM1 h1 h2 h3 h4 h5 h6 W hn).mono ?_
  rintro e w1 ⟨rfl, hb1⟩
  rw [HD.out]
  have hr := row_below hr hb1 hr.lt
  have hn := hn.below hb1 hn.lt
  have hB0 : Below b0 w w1 := hB0.trans (hb1.mono (by omega))
  have hl1 := hr.lt
  clear hb1 hl0
  have hbl : b < w1.heap.size := by omega
  have HN := hn
  obtain ⟨c1, c15, c12, c13, c14, c16, c17, c18, c19, c20, c21⟩ := hn
  clear c1 c15 c16 c17 c18
  go_wp2_with fail
  clear c12 c13 c14 c19 c20 c21
  have hd := (time_new w1 D).alloc (.cells #[.int .u64 (H % 1000000000), .int .i64 (H / 1000000000), .pointer none] 58)
  have hp := time_new (w1.alloc (.cells #[.int .u64 (D % 1000000000), .int .i64 (D / 1000000000), .pointer none] 58)) H
  have hB1 := ((Below.refl w1.heap.size w1).alloc (Nat.le_refl _) (.cells #[.int .u64 (D % 1000000000), .int .i64 (D / 1000000000), .pointer none] 58)).alloc (by simp) (.cells #[.int .u64 (H % 1000000000), .int .i64 (H / 1000000000), .pointer none] 58)
  have hr := row_below hr hB1 hl1
  have hn := HN.below hB1 hbl
  have hB0 : Below b0 w _ := hB0.trans (hB1.mono (by omega))
  simp only [World.size_alloc] at hp
  clear hB1 HN
  generalize (w1.alloc (.cells #[.int .u64 (D % 1000000000), .int .i64 (D / 1000000000), .pointer none] 58)).alloc (.cells #[.int .u64 (H % 1000000000), .int .i64 (H / 1000000000), .pointer none] 58) = w2 at *
  generalize hbd : w1.heap.size = bd at *
  clear hbd
  have hlp := hp.lt
  obtain ⟨c1, c15, c12, c13, c14, c16, c17, c18, c19, c20, c21⟩ := id hn
  clear c1 c15 c12 c13 c14 c16 c17 c18
  obtain ⟨p0, p1, p2⟩ := time_cells hp
  go_region_with (go_at_call 32; refine (after_any P H _).mono ?_; rintro e w3 ⟨rfl, hb3⟩)
  all_goals
    have hb3' : Below w2.heap.size w2 w3 := Below.trans (Below.refl w2.heap.size w2).drew hb3
    have hr := row_below hr hb3' hr.lt
    have hd := row_below hd hb3' hd.lt
    have hp := row_below hp hb3' hp.lt
    have hn := hn.below hb3' hn.lt
    have hB0 : Below b0 w w3 := hB0.trans (hb3'.mono (by have := hB0.size; have := HB0.out; omega))
    clear hb3 hb3' c19 c20 c21 p0 p1 p2
    obtain ⟨c1, c15, c12, c13, c14, c16, c17, c18, c19, c20, c21⟩ := hn
    clear c1 c15 c12 c13 c14 c16 c17 c18
    obtain ⟨p0, p1, p2⟩ := time_cells hp
    have fp := hp.frozen
    have hlp := hp.lt
    have hne : b ≠ bd + 1 := by omega
    by_cases hPH : H < P
    · have HIF : (if H < P then P else H) = P := if_pos hPH
      have HIF' : Hid ((if H < P then P else H) = P) := HIF
      clear HIF
      go_wp2_with fail
      clear p0 p1 p2 fp c19 c20 c21
      have HIF : (if H < P then P else H) = P := HIF'.out
      have hp := time_set P hp
      have hr := ((hr.setOther (a := ⟨bd + 1, 0, none⟩) (by simp; omega) (.int .u64 (P % 1000000000))).setOther (a := ⟨bd + 1, 1, none⟩) (by simp; omega) (.int .i64 (P / 1000000000))).setOther (a := ⟨bd + 1, 2, none⟩) (by simp; omega) (.pointer none)
      have hd := ((hd.setOther (a := ⟨bd + 1, 0, none⟩) (by simp) (.int .u64 (P % 1000000000))).setOther (a := ⟨bd + 1, 1, none⟩) (by simp) (.int .i64 (P / 1000000000))).setOther (a := ⟨bd + 1, 2, none⟩) (by simp) (.pointer none)
      have hB0 := ((hB0.setCell (p := ⟨bd + 1, 0, none⟩) (by simp; omega) (.int .u64 (P % 1000000000))).setCell (p := ⟨bd + 1, 1, none⟩) (by simp; omega) (.int .i64 (P / 1000000000))).setCell (p := ⟨bd + 1, 2, none⟩) (by simp; omega) (.pointer none)
      generalize ((w3.setCell ⟨bd + 1, 0, none⟩ (.int .u64 (P % 1000000000))).setCell ⟨bd + 1, 1, none⟩ (.int .i64 (P / 1000000000))).setCell ⟨bd + 1, 2, none⟩ (.pointer none) = w4 at *
      have HQ' : Hid (P + 500000000 = Q) := by have := HQ.out; unfold probeT at this; rw [HIF] at this; exact this
      refine (add_any P 500000000 (by omega) (by omega) (by omega) (by omega) _).mono ?_
      rintro e w5 ⟨rfl, hb5⟩
      rw [HQ'.out]
      have hr := row_below hr hb5 hr.lt
      have hd := row_below hd hb5 hd.lt
      have hp := row_below hp hb5 hp.lt
      have hB0 : Below b0 w w5 := hB0.trans (hb5.mono (by have := hB0.size; have := HB0.out; omega))
      clear hb5
      have hlr := hr.lt
      have hld := hd.lt
      have hlp := hp.lt
      obtain ⟨z0, z1, z2⟩ := time_cells hp
      obtain ⟨d0, d1, d2⟩ := time_cells hd
      have fz := hp.frozen
      have hne : bd ≠ bd + 1 := by omega
      go_wp2_with fail
      clear z0 z1 z2 d0 d1 d2 fz
      have hp := time_set Q hp
      have hr := ((hr.setOther (a := ⟨bd + 1, 0, none⟩) (by simp; omega) (.int .u64 (Q % 1000000000))).setOther (a := ⟨bd + 1, 1, none⟩) (by simp; omega) (.int .i64 (Q / 1000000000))).setOther (a := ⟨bd + 1, 2, none⟩) (by simp; omega) (.pointer none)
      have hd := ((hd.setOther (a := ⟨bd + 1, 0, none⟩) (by simp) (.int .u64 (Q % 1000000000))).setOther (a := ⟨bd + 1, 1, none⟩) (by simp) (.int .i64 (Q / 1000000000))).setOther (a := ⟨bd + 1, 2, none⟩) (by simp) (.pointer none)
      have hB0 := ((hB0.setCell (p := ⟨bd + 1, 0, none⟩) (by simp; omega) (.int .u64 (Q % 1000000000))).setCell (p := ⟨bd + 1, 1, none⟩) (by simp; omega) (.int .i64 (Q / 1000000000))).setCell (p := ⟨bd + 1, 2, none⟩) (by simp; omega) (.pointer none)
      generalize ((w5.setCell ⟨bd + 1, 0, none⟩ (.int .u64 (Q % 1000000000))).setCell ⟨bd + 1, 1, none⟩ (.int .i64 (Q / 1000000000))).setCell ⟨bd + 1, 2, none⟩ (.pointer none) = w6 at *
      refine (before_any Q D w6).mono ?_
      rintro e w7 ⟨rfl, hb7⟩
      have hr := row_below hr hb7 hr.lt
      have hd := row_below hd hb7 hd.lt
      have hp := row_below hp hb7 hp.lt
      have hB0 : Below b0 w w7 := hB0.trans (hb7.mono (by have := hB0.size; have := HB0.out; omega))
      clear hb7
      have hlr := hr.lt
      have hld := hd.lt
      have hlp := hp.lt
      obtain ⟨z0, z1, z2⟩ := time_cells hp
      obtain ⟨d0, d1, d2⟩ := time_cells hd
      obtain ⟨y0, y1, y2⟩ := time_cells hr
      have fy := hr.frozen
      have hn1 : bd ≠ b0 := by omega
      have hn2 : bd + 1 ≠ b0 := by omega
      by_cases hqd : Q < D
      · go_wp2_with fail
        refine bodyPost_ret (v := .tuple #[.agg #[.int .u64 (Q % 1000000000), .int .i64 (Q / 1000000000), .pointer none], .bool true]) (by simp [results, Try.results24, go_sem, y0, y1, y2, hlr]) rfl ⟨by simp [hqd], ?_⟩
        rw [HB0.out]
        exact ((hB0.setCell (Nat.le_refl _) _).setCell (Nat.le_refl _) _).setCell (Nat.le_refl _) _
      · go_wp2_with fail
        refine bodyPost_ret (v := .tuple #[.agg #[.int .u64 (D % 1000000000), .int .i64 (D / 1000000000), .pointer none], .bool false]) (by simp [results, Try.results24, go_sem, y0, y1, y2, hlr]) rfl ⟨by simp [hqd], ?_⟩
        rw [HB0.out]
        exact ((hB0.setCell (Nat.le_refl _) _).setCell (Nat.le_refl _) _).setCell (Nat.le_refl _) _
    · have HIF' : Hid ((if H < P then P else H) = H) := if_neg hPH
      go_wp2_with fail
      clear p0 p1 p2 fp c19 c20 c21
      have HIF : (if H < P then P else H) = H := HIF'.out
      have HQ' : Hid (H + 500000000 = Q) := by have := HQ.out; unfold probeT at this; rw [HIF] at this; exact this
      refine (add_any H 500000000 (by omega) (by omega) (by omega) (by omega) _).mono ?_
      rintro e w5 ⟨rfl, hb5⟩
      rw [HQ'.out]
      have hr := row_below hr hb5 hr.lt
      have hd := row_below hd hb5 hd.lt
      have hp := row_below hp hb5 hp.lt
      have hB0 : Below b0 w w5 := hB0.trans (hb5.mono (by have := hB0.size; have := HB0.out; omega))
      clear hb5
      have hlr := hr.lt
      have hld := hd.lt
      have hlp := hp.lt
      obtain ⟨z0, z1, z2⟩ := time_cells hp
      obtain ⟨d0, d1, d2⟩ := time_cells hd
      have fz := hp.frozen
      have hne : bd ≠ bd + 1 := by omega
      go_wp2_with fail
      clear z0 z1 z2 d0 d1 d2 fz
      have hp := time_set Q hp
      have hr := ((hr.setOther (a := ⟨bd + 1, 0, none⟩) (by simp; omega) (.int .u64 (Q % 1000000000))).setOther (a := ⟨bd + 1, 1, none⟩) (by simp; omega) (.int .i64 (Q / 1000000000))).setOther (a := ⟨bd + 1, 2, none⟩) (by simp; omega) (.pointer none)
      have hd := ((hd.setOther (a := ⟨bd + 1, 0, none⟩) (by simp) (.int .u64 (Q % 1000000000))).setOther (a := ⟨bd + 1, 1, none⟩) (by simp) (.int .i64 (Q / 1000000000))).setOther (a := ⟨bd + 1, 2, none⟩) (by simp) (.pointer none)
      have hB0 := ((hB0.setCell (p := ⟨bd + 1, 0, none⟩) (by simp; omega) (.int .u64 (Q % 1000000000))).setCell (p := ⟨bd + 1, 1, none⟩) (by simp; omega) (.int .i64 (Q / 1000000000))).setCell (p := ⟨bd + 1, 2, none⟩) (by simp; omega) (.pointer none)
      generalize ((w5.setCell ⟨bd + 1, 0, none⟩ (.int .u64 (Q % 1000000000))).setCell ⟨bd + 1, 1, none⟩ (.int .i64 (Q / 1000000000))).setCell ⟨bd + 1, 2, none⟩ (.pointer none) = w6 at *
      refine (before_any Q D w6).mono ?_
      rintro e w7 ⟨rfl, hb7⟩
      have hr := row_below hr hb7 hr.lt
      have hd := row_below hd hb7 hd.lt
      have hp := row_below hp hb7 hp.lt
      have hB0 : Below b0 w w7 := hB0.trans (hb7.mono (by have := hB0.size; have := HB0.out; omega))
      clear hb7
      have hlr := hr.lt
      have hld := hd.lt
      have hlp := hp.lt
      obtain ⟨z0, z1, z2⟩ := time_cells hp
      obtain ⟨d0, d1, d2⟩ := time_cells hd
      obtain ⟨y0, y1, y2⟩ := time_cells hr
      have fy := hr.frozen
      have hn1 : bd ≠ b0 := by omega
      have hn2 : bd + 1 ≠ b0 := by omega
      by_cases hqd : Q < D
      · go_wp2_with fail
        refine bodyPost_ret (v := .tuple #[.agg #[.int .u64 (Q % 1000000000), .int .i64 (Q / 1000000000), .pointer none], .bool true]) (by simp [results, Try.results24, go_sem, y0, y1, y2, hlr]) rfl ⟨by simp [hqd], ?_⟩
        rw [HB0.out]
        exact ((hB0.setCell (Nat.le_refl _) _).setCell (Nat.le_refl _) _).setCell (Nat.le_refl _) _
      · go_wp2_with fail
        refine bodyPost_ret (v := .tuple #[.agg #[.int .u64 (D % 1000000000), .int .i64 (D / 1000000000), .pointer none], .bool false]) (by simp [results, Try.results24, go_sem, y0, y1, y2, hlr]) rfl ⟨by simp [hqd], ?_⟩
        rw [HB0.out]
        exact ((hB0.setCell (Nat.le_refl _) _).setCell (Nat.le_refl _) _).setCell (Nat.le_refl _) _
end Go.Proofs.Qxb6605900a
