import Derived.Test.Qxb6605900aRows
import Derived.WalkKit
import Derived.WalkSpells
import Derived.WalkSmall
import Derived.Laws.BitsAllLaws
import Derived.Deep.QuietTactic
import Derived.BigQuiet
import Derived.Deep.OwnRows
import Derived.Deep.RegionWith
namespace Go.Proofs.Qxb6605900a
open Go.RowKit Go.Deep
set_option linter.unusedSimpArgs false

/-! ### Bits -/
theorem and30 (x : Int) (h0 : 0 ≤ x) (h1 : x < 1073741824) : bits .and .u64 x 1073741823 = x := by
  rw [u64_and x 1073741823 h0 (by omega) (by omega) (by omega)]
  have : x.toNat &&& 1073741823 = x.toNat := by
    have h := Nat.and_two_pow_sub_one_eq_mod x.toNat 30
    rw [show (2 ^ 30 - 1 : Nat) = 1073741823 from rfl] at h
    rw [h]
    exact Nat.mod_eq_of_lt (by omega)
  rw [show (1073741823 : Int).toNat = 1073741823 from rfl, this]
  omega

theorem and63 (x : Int) (h0 : 0 ≤ x) (h1 : x < 9223372036854775808) : bits .and .u64 x 9223372036854775808 = 0 := by
  rw [u64_and x 9223372036854775808 h0 (by omega) (by omega) (by omega)]
  rw [show (9223372036854775808 : Int).toNat = 2 ^ 63 from rfl]
  have : x.toNat &&& 2 ^ 63 = 0 := by
    apply Nat.eq_of_testBit_eq
    intro i
    rw [Nat.testBit_and, Nat.testBit_two_pow, Nat.zero_testBit]
    by_cases h : 63 = i
    · subst h
      have : x.toNat.testBit 63 = false := Nat.testBit_lt_two_pow (by omega)
      simp [this]
    · simp [h]
  rw [this]; rfl

theorem and2 (x y : Int) (h0 : 0 ≤ x) (h1 : x < 9223372036854775808) (h2 : 0 ≤ y) (h3 : y < 9223372036854775808) : bits .and .u64 (bits .and .u64 x y) 9223372036854775808 = 0 := by
  rw [u64_and x y h0 (by omega) h2 (by omega)]
  have := Nat.and_le_left (n := x.toNat) (m := y.toNat)
  exact and63 _ (by omega) (by omega)

theorem andNot30 (x : Int) (h0 : 0 ≤ x) (h1 : x < 1073741824) : bits .andNot .u64 x 1073741823 = 0 := by
  rw [u64_andNot x 1073741823 h0 (by omega) (by omega) (by omega)]
  rw [show (18446744073709551615 - (1073741823 : Int).toNat) = 17179869183 <<< 30 from rfl]
  have : x.toNat &&& 17179869183 <<< 30 = 0 := by
    apply Nat.eq_of_testBit_eq
    intro i
    rw [Nat.testBit_and, Nat.testBit_shiftLeft, Nat.zero_testBit]
    by_cases h : i ≥ 30
    · have : x.toNat.testBit i = false := Nat.testBit_lt_two_pow (Nat.lt_of_lt_of_le (show x.toNat < 2 ^ 30 by omega) (Nat.pow_le_pow_right (by omega) h))
      simp [this]
    · simp [h]
  rw [this]; rfl

theorem or0 (x : Int) (h0 : 0 ≤ x) (h1 : x < 18446744073709551616) : bits .or .u64 0 x = x := by
  rw [u64_or 0 x (by omega) (by omega) h0 h1]
  rw [show (0 : Int).toNat = 0 from rfl, Nat.zero_or]
  omega

/-! ### nsec, sec -/
theorem nsec_any (b o : Nat) (ns : Int) (h0 : 0 ≤ ns) (h1 : ns < 1000000000) (w : World) (hc : w.cell? ⟨b, o, none⟩ = some (.int .u64 ns)) :
    Calls Try.prog 28 #[.pointer (some ⟨b, o, none⟩)] w fun e w' => e = .returned (.int .i32 ns) ∧ w' = w := by
  have hb := and30 ns h0 (by omega)
  go_enter Try.func28, Try.ntmps28
  go_wp2
  go_ret
  exact ⟨rfl, rfl⟩

theorem sec_any (b o : Nat) (ns s : Int) (h0 : 0 ≤ ns) (h1 : ns < 1000000000) (w : World) (hc : w.cell? ⟨b, o, none⟩ = some (.int .u64 ns)) (hs : w.cell? ⟨b, o + 1, none⟩ = some (.int .i64 s)) :
    Calls Try.prog 35 #[.pointer (some ⟨b, o, none⟩)] w fun e w' => e = .returned (.int .i64 s) ∧ w' = w := by
  have hb := and63 ns h0 (by omega)
  go_enter Try.func35, Try.ntmps35
  go_wp2
  go_ret
  exact ⟨rfl, rfl⟩

/-! ### addSec, Add -/
theorem addSec_any (b o : Nat) (ns s d : Int) (h0 : 0 ≤ ns) (h1 : ns < 1000000000) (hs0 : -1000000000000 ≤ s) (hs1 : s ≤ 1000000000000) (hd0 : -1000000000000 ≤ d) (hd1 : d ≤ 1000000000000) (w : World)
    (hc : w.cell? ⟨b, o, none⟩ = some (.int .u64 ns)) (hs : w.cell? ⟨b, o + 1, none⟩ = some (.int .i64 s)) (hf : w.frozen? ⟨b, o + 1, none⟩ = false) :
    Calls Try.prog 29 #[.pointer (some ⟨b, o, none⟩), .int .i64 d] w fun e w' => e = .returned (.tuple #[]) ∧ w' = w.setCell ⟨b, o + 1, none⟩ (.int .i64 (s + d)) := by
  have hb := and63 ns h0 (by omega)
  have hcmp : (decide (s < s + d) == decide (0 < d)) = true := by
    by_cases h : 0 < d
    · rw [decide_eq_true h, decide_eq_true (by omega)]; rfl
    · rw [decide_eq_false h, decide_eq_false (by omega)]; rfl
  go_enter Try.func29, Try.ntmps29
  go_wp2
  go_end0
  exact ⟨rfl, rfl⟩

set_option maxHeartbeats 1000000 in
theorem add_raw (ns s d D M ns' s' : Int) (h0 : 0 ≤ ns) (h1 : ns < 1000000000) (hs0 : -900000000000 ≤ s) (hs1 : s ≤ 900000000000) (_hd0 : -9223372036854775808 ≤ d) (_hd1 : d ≤ 9223372036854775807)
    (hD : d.tdiv 1000000000 = D) (hM : d.tmod 1000000000 = M) (hD0 : -9223372037 ≤ D) (hD1 : D ≤ 9223372037) (hM0 : -1000000000 < M) (hM1 : M < 1000000000)
    (hr : ns' = (if 1000000000 ≤ ns + M then ns + M - 1000000000 else if ns + M < 0 then ns + M + 1000000000 else ns + M)) (hr' : s' = (if 1000000000 ≤ ns + M then s + (D + 1) else if ns + M < 0 then s + (D - 1) else s + D)) (w : World) :
    Calls Try.prog 23 #[.agg #[.int .u64 ns, .int .i64 s, .pointer none], .int .i64 d] w fun e w' => e = .returned (.agg #[.int .u64 ns', .int .i64 s', .pointer none]) ∧ Below w.heap.size w w' := by
  have hb1 := andNot30 ns h0 (by omega)
  by_cases hA : 1000000000 ≤ ns + M
  · rw [if_pos hA] at hr hr'
    subst hr; subst hr'
    have hb2 := or0 (ns + M - 1000000000) (by omega) (by omega)
    have hb3 := and63 (ns + M - 1000000000) (by omega) (by omega)
    go_enter Try.func23, Try.ntmps23
    go_wp2_with fail
    refine (nsec_any _ _ ns h0 h1 _ ?_).mono ?_
    · simp [go_sem]
    rintro e w1 ⟨rfl, rfl⟩
    go_wp2_with fail
    refine (addSec_any w.heap.size 0 (ns + M - 1000000000) s (D + 1) (by omega) (by omega) (by omega) (by omega) (by omega) (by omega) _ ?_ ?_ ?_).mono ?_
    · simp [go_sem]
    · simp [go_sem]
    · simp [go_sem]
    rintro e w1 ⟨rfl, rfl⟩
    go_wp2_with fail
    exact bodyPost_ret (v := .agg #[.int .u64 (ns + M - 1000000000), .int .i64 (s + (D + 1)), .pointer none]) (by simp [results, Try.results23, go_sem]) rfl ⟨rfl, ((Below.refl _ _).alloc (Nat.le_refl _) _).alloc (by simp) _⟩
  · rw [if_neg hA] at hr hr'
    by_cases hB : ns + M < 0
    · rw [if_pos hB] at hr hr'
      subst hr; subst hr'
      have hb2 := or0 (ns + M + 1000000000) (by omega) (by omega)
      have hb3 := and63 (ns + M + 1000000000) (by omega) (by omega)
      go_enter Try.func23, Try.ntmps23
      go_wp2_with fail
      refine (nsec_any _ _ ns h0 h1 _ ?_).mono ?_
      · simp [go_sem]
      rintro e w1 ⟨rfl, rfl⟩
      go_wp2_with fail
      refine (addSec_any w.heap.size 0 (ns + M + 1000000000) s (D - 1) (by omega) (by omega) (by omega) (by omega) (by omega) (by omega) _ ?_ ?_ ?_).mono ?_
      · simp [go_sem]
      · simp [go_sem]
      · simp [go_sem]
      rintro e w1 ⟨rfl, rfl⟩
      go_wp2_with fail
      exact bodyPost_ret (v := .agg #[.int .u64 (ns + M + 1000000000), .int .i64 (s + (D - 1)), .pointer none]) (by simp [results, Try.results23, go_sem]) rfl ⟨rfl, ((Below.refl _ _).alloc (Nat.le_refl _) _).alloc (by simp) _⟩
    · rw [if_neg hB] at hr hr'
      subst hr; subst hr'
      have hb2 := or0 (ns + M) (by omega) (by omega)
      have hb3 := and63 (ns + M) (by omega) (by omega)
      go_enter Try.func23, Try.ntmps23
      go_wp2_with fail
      refine (nsec_any _ _ ns h0 h1 _ ?_).mono ?_
      · simp [go_sem]
      rintro e w1 ⟨rfl, rfl⟩
      go_wp2_with fail
      refine (addSec_any w.heap.size 0 (ns + M) s (D) (by omega) (by omega) (by omega) (by omega) (by omega) (by omega) _ ?_ ?_ ?_).mono ?_
      · simp [go_sem]
      · simp [go_sem]
      · simp [go_sem]
      rintro e w1 ⟨rfl, rfl⟩
      go_wp2_with fail
      exact bodyPost_ret (v := .agg #[.int .u64 (ns + M), .int .i64 (s + D), .pointer none]) (by simp [results, Try.results23, go_sem]) rfl ⟨rfl, ((Below.refl _ _).alloc (Nat.le_refl _) _).alloc (by simp) _⟩

/-- 'Add', of a time told by its nanoseconds. -/
theorem add_any (N d : Int) (hN0 : -18446744073709551616 ≤ N) (hN1 : N ≤ 18446744073709551616) (hd0 : -9223372036854775808 ≤ d) (hd1 : d ≤ 9223372036854775807) (w : World) :
    Calls Try.prog 23 #[.agg #[.int .u64 (N % 1000000000), .int .i64 (N / 1000000000), .pointer none], .int .i64 d] w fun e w' => e = .returned (.agg #[.int .u64 ((N + d) % 1000000000), .int .i64 ((N + d) / 1000000000), .pointer none]) ∧ Below w.heap.size w w' := by
  have e1 := Int.mul_tdiv_add_tmod d 1000000000
  have e2 := Int.tmod_lt_of_pos d (show (0 : Int) < 1000000000 by omega)
  have e3 := Int.lt_tmod_of_pos d (show (0 : Int) < 1000000000 by omega)
  refine add_raw _ _ d _ _ _ _ (by omega) (by omega) (by omega) (by omega) hd0 hd1 rfl rfl ?_ ?_ ?_ ?_ ?_ ?_ w
  all_goals generalize d.tdiv 1000000000 = D at *
  all_goals generalize d.tmod 1000000000 = M at *
  · omega
  · omega
  · omega
  · omega
  · split
    · omega
    · split <;> omega
  · split
    · omega
    · split <;> omega

/-! ### After, Before, Equal -/
set_option maxHeartbeats 1000000 in
theorem after_raw (n1 s1 n2 s2 : Int) (h0 : 0 ≤ n1) (h1 : n1 < 1000000000) (h2 : 0 ≤ n2) (h3 : n2 < 1000000000) (r : Bool) (hr : r = (decide (s2 < s1) || (s1 == s2 && decide (n2 < n1)))) (w : World) :
    Calls Try.prog 32 #[.agg #[.int .u64 n1, .int .i64 s1, .pointer none], .agg #[.int .u64 n2, .int .i64 s2, .pointer none]] w fun e w' => e = .returned (.bool r) ∧ Below w.heap.size w w' := by
  have hb := and2 n1 n2 h0 (by omega) h2 (by omega)
  have HR : Hid (r = (decide (s2 < s1) || (s1 == s2 && decide (n2 < n1)))) := hr
  clear hr
  go_enter Try.func32, Try.ntmps32
  go_wp2_with fail
  refine (sec_any _ _ n1 s1 h0 h1 _ ?_ ?_).mono ?_
  · simp [go_sem]
  · simp [go_sem]
  rintro e w1 ⟨rfl, rfl⟩
  go_wp2_with fail
  refine (sec_any _ _ n2 s2 h2 h3 _ ?_ ?_).mono ?_
  · simp [go_sem]
  · simp [go_sem]
  rintro e w1 ⟨rfl, rfl⟩
  by_cases hx : s1 = s2
  · subst hx
    go_wp2_with fail
    refine (nsec_any _ _ n1 h0 h1 _ ?_).mono ?_
    · simp [go_sem]
    rintro e w1 ⟨rfl, rfl⟩
    go_wp2_with fail
    refine (nsec_any _ _ n2 h2 h3 _ ?_).mono ?_
    · simp [go_sem]
    rintro e w1 ⟨rfl, rfl⟩
    go_wp2_with fail
    go_ret
    exact ⟨by rw [HR.out]; simp, ((Below.refl _ _).alloc (Nat.le_refl _) _).alloc (by simp) _⟩
  · have hx' : (s1 == s2) = false := by simpa using hx
    by_cases hlt : s2 < s1
    · have hlt' : ¬ s1 < s2 := by omega
      go_wp2_with fail
      go_ret
      exact ⟨by rw [HR.out, hx']; simp [hlt, hlt'], ((Below.refl _ _).alloc (Nat.le_refl _) _).alloc (by simp) _⟩
    · have hlt' : s1 < s2 := by omega
      go_wp2_with fail
      go_ret
      exact ⟨by rw [HR.out, hx']; simp [hlt, hlt'], ((Below.refl _ _).alloc (Nat.le_refl _) _).alloc (by simp) _⟩

set_option maxHeartbeats 1000000 in
theorem before_raw (n1 s1 n2 s2 : Int) (h0 : 0 ≤ n1) (h1 : n1 < 1000000000) (h2 : 0 ≤ n2) (h3 : n2 < 1000000000) (r : Bool) (hr : r = (decide (s1 < s2) || (s1 == s2 && decide (n1 < n2)))) (w : World) :
    Calls Try.prog 33 #[.agg #[.int .u64 n1, .int .i64 s1, .pointer none], .agg #[.int .u64 n2, .int .i64 s2, .pointer none]] w fun e w' => e = .returned (.bool r) ∧ Below w.heap.size w w' := by
  have hb := and2 n1 n2 h0 (by omega) h2 (by omega)
  have HR : Hid (r = (decide (s1 < s2) || (s1 == s2 && decide (n1 < n2)))) := hr
  clear hr
  go_enter Try.func33, Try.ntmps33
  go_wp2_with fail
  refine (sec_any _ _ n1 s1 h0 h1 _ ?_ ?_).mono ?_
  · simp [go_sem]
  · simp [go_sem]
  rintro e w1 ⟨rfl, rfl⟩
  go_wp2_with fail
  refine (sec_any _ _ n2 s2 h2 h3 _ ?_ ?_).mono ?_
  · simp [go_sem]
  · simp [go_sem]
  rintro e w1 ⟨rfl, rfl⟩
  by_cases hx : s1 = s2
  · subst hx
    go_wp2_with fail
    refine (nsec_any _ _ n1 h0 h1 _ ?_).mono ?_
    · simp [go_sem]
    rintro e w1 ⟨rfl, rfl⟩
    go_wp2_with fail
    refine (nsec_any _ _ n2 h2 h3 _ ?_).mono ?_
    · simp [go_sem]
    rintro e w1 ⟨rfl, rfl⟩
    go_wp2_with fail
    go_ret
    exact ⟨by rw [HR.out]; simp, ((Below.refl _ _).alloc (Nat.le_refl _) _).alloc (by simp) _⟩
  · have hx' : (s1 == s2) = false := by simpa using hx
    by_cases hlt : s2 < s1
    · have hlt' : ¬ s1 < s2 := by omega
      go_wp2_with fail
      go_ret
      exact ⟨by rw [HR.out, hx']; simp [hlt, hlt'], ((Below.refl _ _).alloc (Nat.le_refl _) _).alloc (by simp) _⟩
    · have hlt' : s1 < s2 := by omega
      go_wp2_with fail
      go_ret
      exact ⟨by rw [HR.out, hx']; simp [hlt, hlt'], ((Below.refl _ _).alloc (Nat.le_refl _) _).alloc (by simp) _⟩

set_option maxHeartbeats 1000000 in
theorem equal_raw (n1 s1 n2 s2 : Int) (h0 : 0 ≤ n1) (h1 : n1 < 1000000000) (h2 : 0 ≤ n2) (h3 : n2 < 1000000000) (r : Bool) (hr : r = (s1 == s2 && n1 == n2)) (w : World) :
    Calls Try.prog 36 #[.agg #[.int .u64 n1, .int .i64 s1, .pointer none], .agg #[.int .u64 n2, .int .i64 s2, .pointer none]] w fun e w' => e = .returned (.bool r) ∧ Below w.heap.size w w' := by
  have hb := and2 n1 n2 h0 (by omega) h2 (by omega)
  have HR : Hid (r = (s1 == s2 && n1 == n2)) := hr
  clear hr
  go_enter Try.func36, Try.ntmps36
  go_wp2_with fail
  refine (sec_any _ _ n1 s1 h0 h1 _ ?_ ?_).mono ?_
  · simp [go_sem]
  · simp [go_sem]
  rintro e w1 ⟨rfl, rfl⟩
  go_wp2_with fail
  refine (sec_any _ _ n2 s2 h2 h3 _ ?_ ?_).mono ?_
  · simp [go_sem]
  · simp [go_sem]
  rintro e w1 ⟨rfl, rfl⟩
  by_cases hx : s1 = s2
  · subst hx
    go_wp2_with fail
    refine (nsec_any _ _ n1 h0 h1 _ ?_).mono ?_
    · simp [go_sem]
    rintro e w1 ⟨rfl, rfl⟩
    go_wp2_with fail
    refine (nsec_any _ _ n2 h2 h3 _ ?_).mono ?_
    · simp [go_sem]
    rintro e w1 ⟨rfl, rfl⟩
    go_wp2_with fail
    go_ret
    exact ⟨by rw [HR.out]; simp, ((Below.refl _ _).alloc (Nat.le_refl _) _).alloc (by simp) _⟩
  · have hx' : (s1 == s2) = false := by simpa using hx
    by_cases hlt : s2 < s1
    · have hlt' : ¬ s1 < s2 := by omega
      go_wp2_with fail
      go_ret
      exact ⟨by rw [HR.out, hx']; simp [hlt, hlt'], ((Below.refl _ _).alloc (Nat.le_refl _) _).alloc (by simp) _⟩
    · have hlt' : s1 < s2 := by omega
      go_wp2_with fail
      go_ret
      exact ⟨by rw [HR.out, hx']; simp [hlt, hlt'], ((Below.refl _ _).alloc (Nat.le_refl _) _).alloc (by simp) _⟩

theorem after_any (A B : Int) (w : World) : Calls Try.prog 32 #[.agg #[.int .u64 (A % 1000000000), .int .i64 (A / 1000000000), .pointer none], .agg #[.int .u64 (B % 1000000000), .int .i64 (B / 1000000000), .pointer none]] w fun e w' => e = .returned (.bool (decide (B < A))) ∧ Below w.heap.size w w' :=
  after_raw _ _ _ _ (by omega) (by omega) (by omega) (by omega) _ (by rw [Bool.eq_iff_iff]; simp; omega) w
theorem before_any (A B : Int) (w : World) : Calls Try.prog 33 #[.agg #[.int .u64 (A % 1000000000), .int .i64 (A / 1000000000), .pointer none], .agg #[.int .u64 (B % 1000000000), .int .i64 (B / 1000000000), .pointer none]] w fun e w' => e = .returned (.bool (decide (A < B))) ∧ Below w.heap.size w w' :=
  before_raw _ _ _ _ (by omega) (by omega) (by omega) (by omega) _ (by rw [Bool.eq_iff_iff]; simp; omega) w
theorem equal_same (n s : Int) (h0 : 0 ≤ n) (h1 : n < 1000000000) (w : World) : Calls Try.prog 36 #[.agg #[.int .u64 n, .int .i64 s, .pointer none], .agg #[.int .u64 n, .int .i64 s, .pointer none]] w fun e w' => e = .returned (.bool true) ∧ Below w.heap.size w w' :=
  equal_raw _ _ _ _ h0 h1 h0 h1 _ (by simp) w

theorem add_zero_time (n s : Int) (h0 : 0 ≤ n) (h1 : n < 1000000000) (hs0 : -8000000000 ≤ s) (hs1 : s ≤ 8000000000) (w : World) :
    Calls Try.prog 23 #[.agg #[.int .u64 0, .int .i64 0, .pointer none], .int .i64 (s * 1000000000 + n)] w fun e w' => e = .returned (.agg #[.int .u64 n, .int .i64 s, .pointer none]) ∧ Below w.heap.size w w' := by
  have hadd := add_any 0 (s * 1000000000 + n) (by omega) (by omega) (by omega) (by omega) w
  have e1 : (0 + (s * 1000000000 + n)) % 1000000000 = n := by omega
  have e2 : (0 + (s * 1000000000 + n)) / 1000000000 = s := by omega
  rw [show (0 : Int) % 1000000000 = 0 from rfl, show (0 : Int) / 1000000000 = 0 from rfl, e1, e2] at hadd
  exact hadd

set_option maxHeartbeats 1000000 in
theorem sub_raw (n s d : Int) (h0 : 0 ≤ n) (h1 : n < 1000000000) (hs0 : -8000000000 ≤ s) (hs1 : s ≤ 8000000000) (hd : d = s * 1000000000 + n) (w : World) :
    Calls Try.prog 25 #[.agg #[.int .u64 n, .int .i64 s, .pointer none], .agg #[.int .u64 0, .int .i64 0, .pointer none]] w fun e w' => e = .returned (.int .i64 d) ∧ Below w.heap.size w w' := by
  have hb := and2 n 0 h0 (by omega) (by omega) (by omega)
  have HD : Hid (d = s * 1000000000 + n) := hd
  clear hd
  go_enter Try.func25, Try.ntmps25
  go_wp2_with fail
  refine (sec_any _ _ n s h0 h1 _ ?_ ?_).mono ?_
  · simp [go_sem]
  · simp [go_sem]
  rintro e w1 ⟨rfl, rfl⟩
  go_wp2_with fail
  refine (sec_any _ _ 0 0 (by omega) (by omega) _ ?_ ?_).mono ?_
  · simp [go_sem]
  · simp [go_sem]
  rintro e w1 ⟨rfl, rfl⟩
  go_wp2_with fail
  refine (nsec_any _ _ n h0 h1 _ ?_).mono ?_
  · simp [go_sem]
  rintro e w1 ⟨rfl, rfl⟩
  go_wp2_with fail
  refine (nsec_any _ _ 0 (by omega) (by omega) _ ?_).mono ?_
  · simp [go_sem]
  rintro e w1 ⟨rfl, rfl⟩
  go_wp2_with fail
  have hBW : Below w.heap.size w ((w.alloc (.cells #[.int .u64 n, .int .i64 s, .pointer none] 58)).alloc (.cells #[.int .u64 0, .int .i64 0, .pointer none] 58)) := ((Below.refl _ _).alloc (Nat.le_refl _) _).alloc (by simp) _
  have c0 : ((w.alloc (.cells #[.int .u64 n, .int .i64 s, .pointer none] 58)).alloc (.cells #[.int .u64 0, .int .i64 0, .pointer none] 58)).cell? ⟨w.heap.size, 0, none⟩ = some (.int .u64 n) := by simp [go_sem]
  have c1 : ((w.alloc (.cells #[.int .u64 n, .int .i64 s, .pointer none] 58)).alloc (.cells #[.int .u64 0, .int .i64 0, .pointer none] 58)).cell? ⟨w.heap.size, 1, none⟩ = some (.int .i64 s) := by simp [go_sem]
  have c2 : ((w.alloc (.cells #[.int .u64 n, .int .i64 s, .pointer none] 58)).alloc (.cells #[.int .u64 0, .int .i64 0, .pointer none] 58)).cell? ⟨w.heap.size, 2, none⟩ = some (.pointer none) := by simp [go_sem]
  have d0 : ((w.alloc (.cells #[.int .u64 n, .int .i64 s, .pointer none] 58)).alloc (.cells #[.int .u64 0, .int .i64 0, .pointer none] 58)).cell? ⟨w.heap.size + 1, 0, none⟩ = some (.int .u64 0) := by simp [go_sem]
  have d1 : ((w.alloc (.cells #[.int .u64 n, .int .i64 s, .pointer none] 58)).alloc (.cells #[.int .u64 0, .int .i64 0, .pointer none] 58)).cell? ⟨w.heap.size + 1, 1, none⟩ = some (.int .i64 0) := by simp [go_sem]
  have d2 : ((w.alloc (.cells #[.int .u64 n, .int .i64 s, .pointer none] 58)).alloc (.cells #[.int .u64 0, .int .i64 0, .pointer none] 58)).cell? ⟨w.heap.size + 1, 2, none⟩ = some (.pointer none) := by simp [go_sem]
  have hlt : w.heap.size < ((w.alloc (.cells #[.int .u64 n, .int .i64 s, .pointer none] 58)).alloc (.cells #[.int .u64 0, .int .i64 0, .pointer none] 58)).heap.size := by simp; omega
  generalize (w.alloc (.cells #[.int .u64 n, .int .i64 s, .pointer none] 58)).alloc (.cells #[.int .u64 0, .int .i64 0, .pointer none] 58) = W at *
  generalize hb0 : w.heap.size = b0 at *
  have HB0 : Hid (w.heap.size = b0) := hb0
  clear hb0 hb
  go_region_with (first
    | (go_at_call 23; refine (add_zero_time n s h0 h1 hs0 hs1 _).mono ?_; rintro e w1 ⟨rfl, hb1⟩; have g0 := (hb1.cell (p := ⟨b0, 0, none⟩) hlt).trans c0; have g1 := (hb1.cell (p := ⟨b0, 1, none⟩) hlt).trans c1; have g2 := (hb1.cell (p := ⟨b0, 2, none⟩) hlt).trans c2)
    | (go_at_call 36; refine (equal_same n s h0 h1 _).mono ?_; rintro e w2 ⟨rfl, hb2⟩))
  all_goals
    go_wp2_with fail
    go_ret
    refine ⟨by rw [HD.out]; rfl, ?_⟩
    have k1 : Below b0 w w1 := hBW.drew.trans (hb1.mono (Nat.le_of_lt hlt))
    have k2 := hb1.size
    rw [HB0.out]
    exact k1.trans (hb2.mono (Nat.le_trans (Nat.le_of_lt hlt) k2))

/-- 'Sub' of the zero time, of a time told by its nanoseconds. -/
theorem sub_any (N : Int) (h0 : -8000000000000000000 ≤ N) (h1 : N ≤ 8000000000000000000) (w : World) :
    Calls Try.prog 25 #[.agg #[.int .u64 (N % 1000000000), .int .i64 (N / 1000000000), .pointer none], .agg #[.int .u64 0, .int .i64 0, .pointer none]] w fun e w' => e = .returned (.int .i64 N) ∧ Below w.heap.size w w' :=
  sub_raw _ _ N (by omega) (by omega) (by omega) (by omega) (by omega) w
end Go.Proofs.Qxb6605900a
