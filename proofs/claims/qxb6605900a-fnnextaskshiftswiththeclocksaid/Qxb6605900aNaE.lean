import Derived.Test.Qxb6605900aNaD
namespace Go.Proofs.Qxb6605900a
open Go.RowKit Go.Deep
set_option linter.unusedSimpArgs false

theorem outside_yes (x lim : Int) (h0 : 0 ≤ lim) (h1 : lim ≤ 4611686018427387904) (h : x < -lim ∨ lim < x) (w : World) : Calls Try.prog 15 #[.int .i64 x, .int .i64 lim] w fun e w' => e = .returned (.bool true) ∧ w = w' := by
  by_cases hx : x < -lim
  · go_enter Try.func15, Try.ntmps15
    go_wp2
    go_ret
    exact ⟨rfl, rfl⟩
  · have hy : lim < x := by omega
    go_enter Try.func15, Try.ntmps15
    go_wp2
    go_ret
    exact ⟨by simp [hy], rfl⟩

theorem outside_no (x lim : Int) (h0 : 0 ≤ lim) (h1 : lim ≤ 4611686018427387904) (hx : -lim ≤ x) (hy : x ≤ lim) (w : World) : Calls Try.prog 15 #[.int .i64 x, .int .i64 lim] w fun e w' => e = .returned (.bool false) ∧ w = w' := by
  have hx' : ¬ x < -lim := by omega
  have hy' : ¬ lim < x := by omega
  go_enter Try.func15, Try.ntmps15
  go_wp2
  go_ret
  exact ⟨by simp [hy'], rfl⟩

/-- What is asked of the numbers, in one word. -/
structure Fit (lease hl H C P M J D Q : Int) : Prop where
  hM : (if lease < hl then hl else lease) = M
  hM0 : -4611686018427387904 ≤ M
  hM1 : M ≤ 4611686018427387904
  h1 : -4611686018427387904 ≤ H
  h2 : H ≤ 4611686018427387904
  h3 : -4611686018427387904 ≤ C
  h4 : C ≤ 4611686018427387904
  h5 : -4611686018427387904 ≤ J
  h6 : J ≤ 4611686018427387904
  h7 : -4611686018427387904 ≤ P
  h8 : P ≤ 4611686018427387904
  hD : dueT H M C J = D
  hQ : probeT H P = Q
  hD0 : -8000000000000000000 ≤ D
  hD1 : D ≤ 8000000000000000000

theorem nanos_may (b : Nat) (lease hl H C P M J D Q : Int) (F : Fit lease hl H C P M J D Q) (w : World) (hn : NodeT w b lease hl H C P) :
    Calls Try.prog 17 #[.pointer (some ⟨b, 0, none⟩), .int .i64 J, .bool true] w fun e w' => e = .returned (.tuple #[.int .i64 D, .bool false]) ∧ Below w.heap.size w w' := by
  go_enter Try.func17, Try.ntmps17
  go_wp2_with fail
  refine (nextAsk_may b lease hl H C P M J D F.hM F.hM0 F.hM1 F.h1 F.h2 F.h3 F.h4 F.h5 F.h6 F.hD w hn).mono ?_
  rintro e w1 ⟨rfl, hb1⟩
  go_wp2_with fail
  refine (sub_any D F.hD0 F.hD1 _).mono ?_
  rintro e w2 ⟨rfl, hb2⟩
  go_wp2_with fail
  go_ret2
  exact ⟨rfl, (hb1.alloc hb1.size _).trans (hb2.mono (by have := hb1.size; simp; omega))⟩

theorem nanos_not (b : Nat) (lease hl H C P M J D Q T : Int) (F : Fit lease hl H C P M J D Q) (hT : (if Q < D then Q else D) = T) (w : World) (hn : NodeT w b lease hl H C P) :
    Calls Try.prog 17 #[.pointer (some ⟨b, 0, none⟩), .int .i64 J, .bool false] w fun e w' => e = .returned (.tuple #[.int .i64 T, .bool (decide (Q < D))]) ∧ Below w.heap.size w w' := by
  have hT0 : -8000000000000000000 ≤ T := by
    have := F.hQ; have := F.h1; have := F.h7; have := F.hD0
    unfold probeT at *
    split at hT <;> omega
  have hT1 : T ≤ 8000000000000000000 := by
    have := F.hQ; have := F.h2; have := F.h8; have := F.hD1
    split at hT <;> omega
  have HT : Hid ((if Q < D then Q else D) = T) := hT
  clear hT
  go_enter Try.func17, Try.ntmps17
  go_wp2_with fail
  refine (nextAsk_not b lease hl H C P M J D Q F.hM F.hM0 F.hM1 F.h1 F.h2 F.h3 F.h4 F.h5 F.h6 F.h7 F.h8 F.hD F.hQ w hn).mono ?_
  rintro e w1 ⟨rfl, hb1⟩
  rw [HT.out]
  go_wp2_with fail
  refine (sub_any T hT0 hT1 _).mono ?_
  rintro e w2 ⟨rfl, hb2⟩
  go_wp2_with fail
  go_ret2
  exact ⟨rfl, (hb1.alloc hb1.size _).trans (hb2.mono (by have := hb1.size; simp; omega))⟩

theorem fit_of (lease hl H C P J : Int) (a0 : -2305843009213693952 ≤ lease) (a1 : lease ≤ 2305843009213693952) (b0 : -2305843009213693952 ≤ hl) (b1 : hl ≤ 2305843009213693952) (c0 : -2305843009213693952 ≤ H) (c1 : H ≤ 2305843009213693952)
    (d0 : -2305843009213693952 ≤ C) (d1 : C ≤ 2305843009213693952) (e0 : -2305843009213693952 ≤ P) (e1 : P ≤ 2305843009213693952) (f0 : -2305843009213693952 ≤ J) (f1 : J ≤ 2305843009213693952) : ∃ M D Q, Fit lease hl H C P M J D Q := by
  refine ⟨_, _, _, rfl, ?_, ?_, by omega, by omega, by omega, by omega, by omega, by omega, by omega, by omega, rfl, rfl, ?_, ?_⟩
  · split <;> omega
  · split <;> omega
  · unfold dueT; split <;> split <;> omega
  · unfold dueT; split <;> split <;> omega

theorem due_facts {lease hl H C P M J D Q : Int} (F : Fit lease hl H C P M J D Q) : H + lease + J ≤ D ∧ H + hl + J ≤ D ∧ C + 500000000 + J ≤ D ∧ (D = H + lease + J ∨ D = H + hl + J ∨ D = C + 500000000 + J) := by
  have e1 := F.hM
  have e2 := F.hD
  unfold dueT at e2
  split at e1 <;> split at e2 <;> omega

theorem probe_facts {lease hl H C P M J D Q : Int} (F : Fit lease hl H C P M J D Q) : H + 500000000 ≤ Q ∧ P + 500000000 ≤ Q ∧ (Q = H + 500000000 ∨ Q = P + 500000000) := by
  have e1 := F.hQ
  unfold probeT at e1
  split at e1 <;> omega

/-! ### The first law -/
set_option maxHeartbeats 2000000 in
set_option maxRecDepth 100000 in
theorem meets_walk (lease hl H C P J : Int) (mc : Bool) (w : World) :
    Calls Try.prog 5 #[.int .i64 lease, .int .i64 hl, .int .i64 H, .int .i64 C, .int .i64 P, .int .i64 J, .bool mc] w fun e w' => e = .returned (.bool true) ∧ Below w.heap.size w w' := by
  by_cases g0 : lease < -2305843009213693952 ∨ 2305843009213693952 < lease
  · go_enter Try.func5, Try.ntmps5
    go_wp2_with fail
    refine (outside_yes lease _ (by omega) (by omega) g0 _).mono ?_
    rintro e w1 ⟨rfl, rfl⟩
    go_wp2_with fail
    go_ret
    exact ⟨rfl, Below.refl _ _⟩
  by_cases g1 : hl < -2305843009213693952 ∨ 2305843009213693952 < hl
  · go_enter Try.func5, Try.ntmps5
    go_wp2_with fail
    refine (outside_no lease _ (by omega) (by omega) (by omega) (by omega) _).mono ?_
    rintro e w1 ⟨rfl, rfl⟩
    go_wp2_with fail
    refine (outside_yes hl _ (by omega) (by omega) g1 _).mono ?_
    rintro e w1 ⟨rfl, rfl⟩
    go_wp2_with fail
    go_ret
    exact ⟨rfl, Below.refl _ _⟩
  by_cases g2 : H < -2305843009213693952 ∨ 2305843009213693952 < H
  · go_enter Try.func5, Try.ntmps5
    go_wp2_with fail
    refine (outside_no lease _ (by omega) (by omega) (by omega) (by omega) _).mono ?_
    rintro e w1 ⟨rfl, rfl⟩
    go_wp2_with fail
    refine (outside_no hl _ (by omega) (by omega) (by omega) (by omega) _).mono ?_
    rintro e w1 ⟨rfl, rfl⟩
    go_wp2_with fail
    refine (outside_yes H _ (by omega) (by omega) g2 _).mono ?_
    rintro e w1 ⟨rfl, rfl⟩
    go_wp2_with fail
    go_ret
    exact ⟨rfl, Below.refl _ _⟩
  by_cases g3 : C < -2305843009213693952 ∨ 2305843009213693952 < C
  · go_enter Try.func5, Try.ntmps5
    go_wp2_with fail
    refine (outside_no lease _ (by omega) (by omega) (by omega) (by omega) _).mono ?_
    rintro e w1 ⟨rfl, rfl⟩
    go_wp2_with fail
    refine (outside_no hl _ (by omega) (by omega) (by omega) (by omega) _).mono ?_
    rintro e w1 ⟨rfl, rfl⟩
    go_wp2_with fail
    refine (outside_no H _ (by omega) (by omega) (by omega) (by omega) _).mono ?_
    rintro e w1 ⟨rfl, rfl⟩
    go_wp2_with fail
    refine (outside_yes C _ (by omega) (by omega) g3 _).mono ?_
    rintro e w1 ⟨rfl, rfl⟩
    go_wp2_with fail
    go_ret
    exact ⟨rfl, Below.refl _ _⟩
  by_cases g4 : P < -2305843009213693952 ∨ 2305843009213693952 < P
  · go_enter Try.func5, Try.ntmps5
    go_wp2_with fail
    refine (outside_no lease _ (by omega) (by omega) (by omega) (by omega) _).mono ?_
    rintro e w1 ⟨rfl, rfl⟩
    go_wp2_with fail
    refine (outside_no hl _ (by omega) (by omega) (by omega) (by omega) _).mono ?_
    rintro e w1 ⟨rfl, rfl⟩
    go_wp2_with fail
    refine (outside_no H _ (by omega) (by omega) (by omega) (by omega) _).mono ?_
    rintro e w1 ⟨rfl, rfl⟩
    go_wp2_with fail
    refine (outside_no C _ (by omega) (by omega) (by omega) (by omega) _).mono ?_
    rintro e w1 ⟨rfl, rfl⟩
    go_wp2_with fail
    refine (outside_yes P _ (by omega) (by omega) g4 _).mono ?_
    rintro e w1 ⟨rfl, rfl⟩
    go_wp2_with fail
    go_ret
    exact ⟨rfl, Below.refl _ _⟩
  by_cases g5 : J < -2305843009213693952 ∨ 2305843009213693952 < J
  · go_enter Try.func5, Try.ntmps5
    go_wp2_with fail
    refine (outside_no lease _ (by omega) (by omega) (by omega) (by omega) _).mono ?_
    rintro e w1 ⟨rfl, rfl⟩
    go_wp2_with fail
    refine (outside_no hl _ (by omega) (by omega) (by omega) (by omega) _).mono ?_
    rintro e w1 ⟨rfl, rfl⟩
    go_wp2_with fail
    refine (outside_no H _ (by omega) (by omega) (by omega) (by omega) _).mono ?_
    rintro e w1 ⟨rfl, rfl⟩
    go_wp2_with fail
    refine (outside_no C _ (by omega) (by omega) (by omega) (by omega) _).mono ?_
    rintro e w1 ⟨rfl, rfl⟩
    go_wp2_with fail
    refine (outside_no P _ (by omega) (by omega) (by omega) (by omega) _).mono ?_
    rintro e w1 ⟨rfl, rfl⟩
    go_wp2_with fail
    refine (outside_yes J _ (by omega) (by omega) g5 _).mono ?_
    rintro e w1 ⟨rfl, rfl⟩
    go_wp2_with fail
    go_ret
    exact ⟨rfl, Below.refl _ _⟩
  obtain ⟨M, D, Q, F⟩ := fit_of lease hl H C P J (by omega) (by omega) (by omega) (by omega) (by omega) (by omega) (by omega) (by omega) (by omega) (by omega) (by omega) (by omega)
  have HF : Hid (Fit lease hl H C P M J D Q) := F
  obtain ⟨ka, kb, kc, kd⟩ := due_facts F
  have KD : Hid (D = H + lease + J ∨ D = H + hl + J ∨ D = C + 500000000 + J) := kd
  obtain ⟨kq1, kq2, kq3⟩ := probe_facts F
  have KQ : Hid (Q = H + 500000000 ∨ Q = P + 500000000) := kq3
  clear kd kq3
  have hD0 := F.hD0
  have hD1 := F.hD1
  clear F
  go_enter Try.func5, Try.ntmps5
  go_wp2_with fail
  refine (outside_no lease _ (by omega) (by omega) (by omega) (by omega) _).mono ?_
  rintro e w1 ⟨rfl, rfl⟩
  go_wp2_with fail
  refine (outside_no hl _ (by omega) (by omega) (by omega) (by omega) _).mono ?_
  rintro e w1 ⟨rfl, rfl⟩
  go_wp2_with fail
  refine (outside_no H _ (by omega) (by omega) (by omega) (by omega) _).mono ?_
  rintro e w1 ⟨rfl, rfl⟩
  go_wp2_with fail
  refine (outside_no C _ (by omega) (by omega) (by omega) (by omega) _).mono ?_
  rintro e w1 ⟨rfl, rfl⟩
  go_wp2_with fail
  refine (outside_no P _ (by omega) (by omega) (by omega) (by omega) _).mono ?_
  rintro e w1 ⟨rfl, rfl⟩
  go_wp2_with fail
  refine (outside_no J _ (by omega) (by omega) (by omega) (by omega) _).mono ?_
  rintro e w1 ⟨rfl, rfl⟩
  go_wp2_with fail
  refine (newNode_any lease hl H C P (by omega) (by omega) (by omega) (by omega) (by omega) (by omega) _).mono ?_
  rintro e w1 ⟨b, hb, rfl, hn, hb1⟩
  have HN : Hid (NodeT w1 b lease hl H C P) := hn
  have hbl := hn.lt
  clear hn
  go_wp2_with fail
  refine (nanos_may b lease hl H C P M J D Q HF.out w1 HN.out).mono ?_
  rintro e w2 ⟨rfl, hb2⟩
  have hn2 := HN.out.below hb2 hbl
  have HN2 : Hid (NodeT w2 b lease hl H C P) := hn2
  have hbW : Below w.heap.size w w2 := hb1.trans (hb2.mono hb1.size)
  clear hn2 HN hb1 hb2
  have ka' : ¬ D < H + lease + J := by omega
  have kb' : ¬ D < H + hl + J := by omega
  have kc' : ¬ D < C + 500000000 + J := by omega
  cases e1 : (D != H + lease + J)
  · go_wp2_with fail
    cases mc
    · by_cases hqd : Q < D
      · refine (nanos_not b lease hl H C P M J D Q Q HF.out (if_pos hqd) w2 HN2.out).mono ?_
        rintro e w3 ⟨rfl, hb3⟩
        rw [decide_eq_true hqd]
        cases f1 : (Q == H + 500000000)
        · have f2 : (Q == P + 500000000) = true := by
            have h1 : ¬ Q = H + 500000000 := by simpa using f1
            have h2 := KQ.out
            simp only [beq_iff_eq]; omega
          go_wp2_with fail
          go_ret
          exact ⟨by simp [kq1, kq2, hqd], hbW.trans (hb3.mono hbW.size)⟩
        · go_wp2_with fail
          go_ret
          exact ⟨by simp [kq1, kq2, hqd], hbW.trans (hb3.mono hbW.size)⟩
      · refine (nanos_not b lease hl H C P M J D Q D HF.out (if_neg hqd) w2 HN2.out).mono ?_
        rintro e w3 ⟨rfl, hb3⟩
        rw [decide_eq_false hqd]
        by_cases f1 : D ≤ H + 500000000
        · go_wp2_with fail
          go_ret
          exact ⟨by simp [f1], hbW.trans (hb3.mono hbW.size)⟩
        · have f2 : D ≤ P + 500000000 := by have h2 := KQ.out; omega
          go_wp2_with fail
          go_ret
          exact ⟨by simp [f2], hbW.trans (hb3.mono hbW.size)⟩
    · refine (nanos_may b lease hl H C P M J D Q HF.out w2 HN2.out).mono ?_
      rintro e w3 ⟨rfl, hb3⟩
      go_wp2_with fail
      go_ret
      exact ⟨by simp, hbW.trans (hb3.mono hbW.size)⟩
  · cases e2 : (D != H + hl + J)
    · go_wp2_with fail
      cases mc
      · by_cases hqd : Q < D
        · refine (nanos_not b lease hl H C P M J D Q Q HF.out (if_pos hqd) w2 HN2.out).mono ?_
          rintro e w3 ⟨rfl, hb3⟩
          rw [decide_eq_true hqd]
          cases f1 : (Q == H + 500000000)
          · have f2 : (Q == P + 500000000) = true := by
              have h1 : ¬ Q = H + 500000000 := by simpa using f1
              have h2 := KQ.out
              simp only [beq_iff_eq]; omega
            go_wp2_with fail
            go_ret
            exact ⟨by simp [kq1, kq2, hqd], hbW.trans (hb3.mono hbW.size)⟩
          · go_wp2_with fail
            go_ret
            exact ⟨by simp [kq1, kq2, hqd], hbW.trans (hb3.mono hbW.size)⟩
        · refine (nanos_not b lease hl H C P M J D Q D HF.out (if_neg hqd) w2 HN2.out).mono ?_
          rintro e w3 ⟨rfl, hb3⟩
          rw [decide_eq_false hqd]
          by_cases f1 : D ≤ H + 500000000
          · go_wp2_with fail
            go_ret
            exact ⟨by simp [f1], hbW.trans (hb3.mono hbW.size)⟩
          · have f2 : D ≤ P + 500000000 := by have h2 := KQ.out; omega
            go_wp2_with fail
            go_ret
            exact ⟨by simp [f2], hbW.trans (hb3.mono hbW.size)⟩
      · refine (nanos_may b lease hl H C P M J D Q HF.out w2 HN2.out).mono ?_
        rintro e w3 ⟨rfl, hb3⟩
        go_wp2_with fail
        go_ret
        exact ⟨by simp, hbW.trans (hb3.mono hbW.size)⟩
    · have e3 : (D != C + 500000000 + J) = false := by
        have h1 : ¬ D = H + lease + J := by simpa using e1
        have h2 : ¬ D = H + hl + J := by simpa using e2
        have h3 := KD.out
        simp only [bne_eq_false_iff_eq]; omega
      go_wp2_with fail
      cases mc
      · by_cases hqd : Q < D
        · refine (nanos_not b lease hl H C P M J D Q Q HF.out (if_pos hqd) w2 HN2.out).mono ?_
          rintro e w3 ⟨rfl, hb3⟩
          rw [decide_eq_true hqd]
          cases f1 : (Q == H + 500000000)
          · have f2 : (Q == P + 500000000) = true := by
              have h1 : ¬ Q = H + 500000000 := by simpa using f1
              have h2 := KQ.out
              simp only [beq_iff_eq]; omega
            go_wp2_with fail
            go_ret
            exact ⟨by simp [kq1, kq2, hqd], hbW.trans (hb3.mono hbW.size)⟩
          · go_wp2_with fail
            go_ret
            exact ⟨by simp [kq1, kq2, hqd], hbW.trans (hb3.mono hbW.size)⟩
        · refine (nanos_not b lease hl H C P M J D Q D HF.out (if_neg hqd) w2 HN2.out).mono ?_
          rintro e w3 ⟨rfl, hb3⟩
          rw [decide_eq_false hqd]
          by_cases f1 : D ≤ H + 500000000
          · go_wp2_with fail
            go_ret
            exact ⟨by simp [f1], hbW.trans (hb3.mono hbW.size)⟩
          · have f2 : D ≤ P + 500000000 := by have h2 := KQ.out; omega
            go_wp2_with fail
            go_ret
            exact ⟨by simp [f2], hbW.trans (hb3.mono hbW.size)⟩
      · refine (nanos_may b lease hl H C P M J D Q HF.out w2 HN2.out).mono ?_
        rintro e w3 ⟨rfl, hb3⟩
        go_wp2_with fail
        go_ret
        exact ⟨by simp, hbW.trans (hb3.mono hbW.size)⟩
end Go.Proofs.Qxb6605900a
