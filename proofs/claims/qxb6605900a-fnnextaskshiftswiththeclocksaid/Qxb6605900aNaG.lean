import Derived.Test.Qxb6605900aNaE
namespace Go.Proofs.Qxb6605900a
open Go.RowKit Go.Deep
set_option linter.unusedSimpArgs false

theorem fit_shift {lease hl H C P M J D Q : Int} (S : Int) (F : Fit lease hl H C P M J D Q) (h1 : -2305843009213693952 ≤ H + S) (h2 : H + S ≤ 2305843009213693952) (h3 : -2305843009213693952 ≤ C + S) (h4 : C + S ≤ 2305843009213693952) (h5 : -2305843009213693952 ≤ P + S) (h6 : P + S ≤ 2305843009213693952)
    (hM0 : -1152921504606846976 ≤ M) (hM1 : M ≤ 1152921504606846976) (hJ0 : -1152921504606846976 ≤ J) (hJ1 : J ≤ 1152921504606846976) : Fit lease hl (H + S) (C + S) (P + S) M J (D + S) (Q + S) := by
  obtain ⟨e1, e2, e3, e4, e5, e6, e7, e8, e9, e10, e11, e12, e13, e14, e15⟩ := F
  unfold dueT at e12
  unfold probeT at e13
  have e12' : dueT (H + S) M (C + S) J = D + S := by
    unfold dueT
    split at e12
    · rw [if_pos (by omega)]; omega
    · rw [if_neg (by omega)]; omega
  have e13' : probeT (H + S) (P + S) = Q + S := by
    unfold probeT
    split at e13
    · rw [if_pos (by omega)]; omega
    · rw [if_neg (by omega)]; omega
  refine ⟨e1, by omega, by omega, by omega, by omega, by omega, by omega, e8, e9, by omega, by omega, e12', e13', ?_, ?_⟩
  · split at e12 <;> omega
  · split at e12 <;> omega

theorem fit_M {lease hl H C P M J D Q : Int} (F : Fit lease hl H C P M J D Q) (a0 : -1152921504606846976 ≤ lease) (a1 : lease ≤ 1152921504606846976) (b0 : -1152921504606846976 ≤ hl) (b1 : hl ≤ 1152921504606846976) : -1152921504606846976 ≤ M ∧ M ≤ 1152921504606846976 := by
  have := F.hM
  split at this <;> omega

set_option maxHeartbeats 2000000 in
set_option maxRecDepth 100000 in
theorem shifts_walk (lease hl H C P J S : Int) (mc : Bool) (w : World) :
    Calls Try.prog 6 #[.int .i64 lease, .int .i64 hl, .int .i64 H, .int .i64 C, .int .i64 P, .int .i64 J, .int .i64 S, .bool mc] w fun e w' => e = .returned (.bool true) ∧ Below w.heap.size w w' := by
  by_cases g0 : lease < -1152921504606846976 ∨ 1152921504606846976 < lease
  · go_enter Try.func6, Try.ntmps6
    go_wp2_with fail
    refine (outside_yes lease _ (by omega) (by omega) g0 _).mono ?_
    rintro e w1 ⟨rfl, rfl⟩
    go_wp2_with fail
    go_ret
    exact ⟨rfl, Below.refl _ _⟩
  by_cases g1 : hl < -1152921504606846976 ∨ 1152921504606846976 < hl
  · go_enter Try.func6, Try.ntmps6
    go_wp2_with fail
    refine (outside_no lease _ (by omega) (by omega) (by omega) (by omega) _).mono ?_
    rintro e w1 ⟨rfl, rfl⟩
    go_wp2_with fail
    refine (outside_yes hl _ (by omega) (by omega) g1 _).mono ?_
    rintro e w1 ⟨rfl, rfl⟩
    go_wp2_with fail
    go_ret
    exact ⟨rfl, Below.refl _ _⟩
  by_cases g2 : H < -1152921504606846976 ∨ 1152921504606846976 < H
  · go_enter Try.func6, Try.ntmps6
    go_wp2_with fail
    refine (outside_no lease _ (by omega) (by omega) (by omega) (by omega) _).mono ?_
    rintro e w1 ⟨rfl, rfl⟩
    go_wp2_with fail
    refine (outside_no hl _ (by omega) (by omega) (by omega) (by omega) _).mono ?_
    rintro e w1 ⟨rfl, rfl⟩
    go_wp2_with fail
    refine (outside_yes H _ (by omega) (by omega) g2 _).mono ?_
    rintro e w1 ⟨rfl, rfl⟩
    go_wp2_with fail
    go_ret
    exact ⟨rfl, Below.refl _ _⟩
  by_cases g3 : C < -1152921504606846976 ∨ 1152921504606846976 < C
  · go_enter Try.func6, Try.ntmps6
    go_wp2_with fail
    refine (outside_no lease _ (by omega) (by omega) (by omega) (by omega) _).mono ?_
    rintro e w1 ⟨rfl, rfl⟩
    go_wp2_with fail
    refine (outside_no hl _ (by omega) (by omega) (by omega) (by omega) _).mono ?_
    rintro e w1 ⟨rfl, rfl⟩
    go_wp2_with fail
    refine (outside_no H _ (by omega) (by omega) (by omega) (by omega) _).mono ?_
    rintro e w1 ⟨rfl, rfl⟩
    go_wp2_with fail
    refine (outside_yes C _ (by omega) (by omega) g3 _).mono ?_
    rintro e w1 ⟨rfl, rfl⟩
    go_wp2_with fail
    go_ret
    exact ⟨rfl, Below.refl _ _⟩
  by_cases g4 : P < -1152921504606846976 ∨ 1152921504606846976 < P
  · go_enter Try.func6, Try.ntmps6
    go_wp2_with fail
    refine (outside_no lease _ (by omega) (by omega) (by omega) (by omega) _).mono ?_
    rintro e w1 ⟨rfl, rfl⟩
    go_wp2_with fail
    refine (outside_no hl _ (by omega) (by omega) (by omega) (by omega) _).mono ?_
    rintro e w1 ⟨rfl, rfl⟩
    go_wp2_with fail
    refine (outside_no H _ (by omega) (by omega) (by omega) (by omega) _).mono ?_
    rintro e w1 ⟨rfl, rfl⟩
    go_wp2_with fail
    refine (outside_no C _ (by omega) (by omega) (by omega) (by omega) _).mono ?_
    rintro e w1 ⟨rfl, rfl⟩
    go_wp2_with fail
    refine (outside_yes P _ (by omega) (by omega) g4 _).mono ?_
    rintro e w1 ⟨rfl, rfl⟩
    go_wp2_with fail
    go_ret
    exact ⟨rfl, Below.refl _ _⟩
  by_cases g5 : J < -1152921504606846976 ∨ 1152921504606846976 < J
  · go_enter Try.func6, Try.ntmps6
    go_wp2_with fail
    refine (outside_no lease _ (by omega) (by omega) (by omega) (by omega) _).mono ?_
    rintro e w1 ⟨rfl, rfl⟩
    go_wp2_with fail
    refine (outside_no hl _ (by omega) (by omega) (by omega) (by omega) _).mono ?_
    rintro e w1 ⟨rfl, rfl⟩
    go_wp2_with fail
    refine (outside_no H _ (by omega) (by omega) (by omega) (by omega) _).mono ?_
    rintro e w1 ⟨rfl, rfl⟩
    go_wp2_with fail
    refine (outside_no C _ (by omega) (by omega) (by omega) (by omega) _).mono ?_
    rintro e w1 ⟨rfl, rfl⟩
    go_wp2_with fail
    refine (outside_no P _ (by omega) (by omega) (by omega) (by omega) _).mono ?_
    rintro e w1 ⟨rfl, rfl⟩
    go_wp2_with fail
    refine (outside_yes J _ (by omega) (by omega) g5 _).mono ?_
    rintro e w1 ⟨rfl, rfl⟩
    go_wp2_with fail
    go_ret
    exact ⟨rfl, Below.refl _ _⟩
  by_cases g6 : S < -1152921504606846976 ∨ 1152921504606846976 < S
  · go_enter Try.func6, Try.ntmps6
    go_wp2_with fail
    refine (outside_no lease _ (by omega) (by omega) (by omega) (by omega) _).mono ?_
    rintro e w1 ⟨rfl, rfl⟩
    go_wp2_with fail
    refine (outside_no hl _ (by omega) (by omega) (by omega) (by omega) _).mono ?_
    rintro e w1 ⟨rfl, rfl⟩
    go_wp2_with fail
    refine (outside_no H _ (by omega) (by omega) (by omega) (by omega) _).mono ?_
    rintro e w1 ⟨rfl, rfl⟩
    go_wp2_with fail
    refine (outside_no C _ (by omega) (by omega) (by omega) (by omega) _).mono ?_
    rintro e w1 ⟨rfl, rfl⟩
    go_wp2_with fail
    refine (outside_no P _ (by omega) (by omega) (by omega) (by omega) _).mono ?_
    rintro e w1 ⟨rfl, rfl⟩
    go_wp2_with fail
    refine (outside_no J _ (by omega) (by omega) (by omega) (by omega) _).mono ?_
    rintro e w1 ⟨rfl, rfl⟩
    go_wp2_with fail
    refine (outside_yes S _ (by omega) (by omega) g6 _).mono ?_
    rintro e w1 ⟨rfl, rfl⟩
    go_wp2_with fail
    go_ret
    exact ⟨rfl, Below.refl _ _⟩
  obtain ⟨M, D, Q, F⟩ := fit_of lease hl H C P J (by omega) (by omega) (by omega) (by omega) (by omega) (by omega) (by omega) (by omega) (by omega) (by omega) (by omega) (by omega)
  obtain ⟨m0, m1⟩ := fit_M F (by omega) (by omega) (by omega) (by omega)
  have HF : Hid (Fit lease hl H C P M J D Q) := F
  have HF2 : Hid (Fit lease hl (H + S) (C + S) (P + S) M J (D + S) (Q + S)) := fit_shift S F (by omega) (by omega) (by omega) (by omega) (by omega) (by omega) m0 m1 (by omega) (by omega)
  have hD0 := F.hD0
  have hD1 := F.hD1
  obtain ⟨kq1, kq2, kq3⟩ := probe_facts F
  have hQ0 : -8000000000000000000 ≤ Q := by omega
  have hQ1 : Q ≤ 8000000000000000000 := by omega
  clear F kq1 kq2 kq3
  go_enter Try.func6, Try.ntmps6
  go_wp2_with fail
  refine (outside_no lease _ (by omega) (by omega) (by omega) (by omega) _).mono ?_
  rintro e w1 ⟨rfl, rfl⟩
  go_wp2_with fail
  refine (outside_no hl _ (by omega) (by omega) (by omega) (by omega) _).mono ?_
  rintro e w1 ⟨rfl, rfl⟩
  go_wp2_with fail
  refine (outside_no H _ (by omega) (by omega) (by omega) (by omega) _).mono ?_
  rintro e w1 ⟨rfl, rfl⟩
  go_wp2_with fail
  refine (outside_no C _ (by omega) (by omega) (by omega) (by omega) _).mono ?_
  rintro e w1 ⟨rfl, rfl⟩
  go_wp2_with fail
  refine (outside_no P _ (by omega) (by omega) (by omega) (by omega) _).mono ?_
  rintro e w1 ⟨rfl, rfl⟩
  go_wp2_with fail
  refine (outside_no J _ (by omega) (by omega) (by omega) (by omega) _).mono ?_
  rintro e w1 ⟨rfl, rfl⟩
  go_wp2_with fail
  refine (outside_no S _ (by omega) (by omega) (by omega) (by omega) _).mono ?_
  rintro e w1 ⟨rfl, rfl⟩
  go_wp2_with fail
  refine (newNode_any lease hl H C P (by omega) (by omega) (by omega) (by omega) (by omega) (by omega) _).mono ?_
  rintro e w1 ⟨b, hb, rfl, hn, hb1⟩
  go_wp2_with fail
  refine (newNode_any lease hl (H + S) (C + S) (P + S) (by omega) (by omega) (by omega) (by omega) (by omega) (by omega) _).mono ?_
  rintro e w2 ⟨b2, hb', rfl, hn2, hb2⟩
  have HN : Hid (NodeT w2 b lease hl H C P) := hn.below hb2 hn.lt
  have HN2 : Hid (NodeT w2 b2 lease hl (H + S) (C + S) (P + S)) := hn2
  have hbl := HN.out.lt
  have hbl2 := hn2.lt
  have hbW : Below w.heap.size w w2 := hb1.trans (hb2.mono hb1.size)
  clear hn hn2 hb1 hb2
  go_wp2_with fail
  cases mc
  · by_cases hqd : Q < D
    · have hqd2 : Q + S < D + S := by omega
      refine (nanos_not b lease hl H C P M J D Q Q HF.out (if_pos hqd) w2 HN.out).mono ?_
      rintro e w3 ⟨rfl, hb3⟩
      rw [decide_eq_true hqd]
      go_wp2_with fail
      refine (nanos_not b2 lease hl (H + S) (C + S) (P + S) M J (D + S) (Q + S) (Q + S) HF2.out (if_pos hqd2) w3 (HN2.out.below hb3 hbl2)).mono ?_
      rintro e w4 ⟨rfl, hb4⟩
      rw [decide_eq_true hqd2]
      go_wp2_with fail
      refine (nanos_may b lease hl H C P M J D Q HF.out w4 ((HN.out.below hb3 hbl).below hb4 (by have := hb3.size; omega))).mono ?_
      rintro e w5 ⟨rfl, hb5⟩
      have hb35 : Below w.heap.size w w5 := ((hbW.trans (hb3.mono hbW.size)).trans (hb4.mono (by have := hbW.size; have := hb3.size; omega))).trans (hb5.mono (by have := hbW.size; have := hb3.size; have := hb4.size; omega))
      clear hb3 hb4 hb5
      go_wp2_with fail
      go_ret
      exact ⟨by simp [hqd], hb35⟩
    · have hqd2 : ¬ Q + S < D + S := by omega
      refine (nanos_not b lease hl H C P M J D Q D HF.out (if_neg hqd) w2 HN.out).mono ?_
      rintro e w3 ⟨rfl, hb3⟩
      rw [decide_eq_false hqd]
      go_wp2_with fail
      refine (nanos_not b2 lease hl (H + S) (C + S) (P + S) M J (D + S) (Q + S) (D + S) HF2.out (if_neg (by omega)) w3 (HN2.out.below hb3 hbl2)).mono ?_
      rintro e w4 ⟨rfl, hb4⟩
      rw [decide_eq_false (show ¬ Q + S < D + S by omega)]
      go_wp2_with fail
      refine (nanos_may b lease hl H C P M J D Q HF.out w4 ((HN.out.below hb3 hbl).below hb4 (by have := hb3.size; omega))).mono ?_
      rintro e w5 ⟨rfl, hb5⟩
      have hb35 : Below w.heap.size w w5 := ((hbW.trans (hb3.mono hbW.size)).trans (hb4.mono (by have := hbW.size; have := hb3.size; omega))).trans (hb5.mono (by have := hbW.size; have := hb3.size; have := hb4.size; omega))
      clear hb3 hb4 hb5
      go_wp2_with fail
      go_ret
      exact ⟨by simp, hb35⟩
  · refine (nanos_may b lease hl H C P M J D Q HF.out w2 HN.out).mono ?_
    rintro e w3 ⟨rfl, hb3⟩
    go_wp2_with fail
    refine (nanos_may b2 lease hl (H + S) (C + S) (P + S) M J (D + S) (Q + S) HF2.out w3 (HN2.out.below hb3 hbl2)).mono ?_
    rintro e w4 ⟨rfl, hb4⟩
    go_wp2_with fail
    refine (nanos_may b lease hl H C P M J D Q HF.out w4 ((HN.out.below hb3 hbl).below hb4 (by have := hb3.size; omega))).mono ?_
    rintro e w5 ⟨rfl, hb5⟩
    have hb35 : Below w.heap.size w w5 := ((hbW.trans (hb3.mono hbW.size)).trans (hb4.mono (by have := hbW.size; have := hb3.size; omega))).trans (hb5.mono (by have := hbW.size; have := hb3.size; have := hb4.size; omega))
    clear hb3 hb4 hb5
    go_wp2_with fail
    go_ret
    exact ⟨by simp, hb35⟩
end Go.Proofs.Qxb6605900a
