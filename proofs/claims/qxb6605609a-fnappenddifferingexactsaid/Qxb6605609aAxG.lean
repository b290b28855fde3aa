import Derived.Test.Qxb6605609aAxF
import Derived.Test.Qxb6605609aAdH
namespace Go.Proofs.Qxb6605609a
open Go.ChangeShapes Go.WideShapes Go.ChangeAt Go.RowKit Go.Deep

theorem Try.cells22 : Try.prog.cellsOf 22 = 1 := by kernel_rfl

/-- A slice of slices of strings, opened. -/
theorem open23 {H : Type} {enc : TypeId × Value → H} {w : World} {base : Nat} {spare : Nat → Bool} {held : Bool} {fuel : Nat} {v : Value} {x : DataW H × List MemPlace} (h : DataW.trod enc Try.prog w base spare held fuel 23 [v] = some x) :
    ∃ ls, ls.length ≤ 9223372036854775807 ∧ RowsLe ls 9223372036854775807 ∧ ListsAt w v ls := by
  rcases open_slice1 Try.underlying23 Try.cells22 h with ⟨hcs, _⟩ | ⟨a, len, cap, m, n, V, D, Pl, hcs, _, hl, hm, hmm, _, hel⟩
  · simp at hcs
    subst hcs
    exact ⟨[], by simp, fun i hi => by simp at hi, lists_nil w⟩
  · simp at hcs
    subst hcs
    simp only [maxLen] at hm
    have hlm : len ≤ m := by rw [hmm]; split <;> omega
    obtain ⟨L, hL⟩ := @choose_lt (List ByteArray) ⟨[]⟩ len (fun i l => l.length ≤ 9223372036854775807 ∧ StrsAt w (V i) l) (fun i hi => open22 (hel i (by omega)).2)
    have hlen : ((List.range len).map L).length = len := by simp
    have hget : ∀ i, i < len → ((List.range len).map L).getD i [] = L i := fun i hi => by simp [List.getD, hi]
    refine ⟨(List.range len).map L, by rw [hlen]; omega, fun i hi => ?_, ?_⟩
    · rw [hlen] at hi
      rw [hget i hi]
      exact (hL i hi).1
    obtain ⟨b, off, spot⟩ := a
    refine ⟨_, cap, b, off, by rw [hlen], fun h => by simp at h, fun h0 => ?_, fun i hi => ?_⟩
    · rw [hlen] at h0
      have hspot : spot = none := by simpa [Addr.add] using World.cell?_spot (hel 0 (by omega)).1
      rw [hspot]
    · rw [hlen] at hi
      have hspot : spot = none := by simpa [Addr.add] using World.cell?_spot (hel 0 (by omega)).1
      have := (hel i (by omega)).1
      rw [hspot, add_plain] at this
      refine ⟨V i, this, ?_⟩
      rw [hget i hi]
      exact (hL i hi).2

set_option maxRecDepth 100000 in
theorem exact_lifted (os : Os) (started : os.Started) (H : Type) (enc : TypeId × Value → H) :
    ReturnsInHanded {} Try.checked os 3 .any (Rows.fnAppendDifferingExactSpec.pre6 enc Try.prog Try.f3 Rows.fnAppendDifferingExactRow.domain false) (Rows.fnAppendDifferingExactSpec.post enc Try.prog Try.f3 false true false false) := by
  refine returnsInHanded_of_change (C := Try.checked) Try.own started (by kernel_rfl) Try.func3
    (ChangeSpec.witness6 (enc := enc) (C := Try.checked) false ⟨#[], #[.slice none 0 0, .slice none 0 0, .slice none 0 0, .slice none 0 0, .slice none 0 0], []⟩ 8 (by kernel_rfl) (by kernel_rfl) (by kernel_rfl) (by kernel_rfl)) ?_
  intro W base args ds gs before hval0 hW _ _
  have hval : ∀ (j : Nat) t v, Try.f3.params[j]? = some t → args[j]? = some v → Value.okWide Try.prog W .any base t v := hval0
  have hW' := hW
  obtain ⟨p, q, hA0, hV, rfl, _, _⟩ := hW
  have hA : DataW.TrodAll enc Try.prog W 0 (fun _ => true) true Try.f3.params.toList args.toList ds p := hA0
  rw [Try.params3] at hA hval
  obtain ⟨v0, vs0, d0, ds0, p0, q0, hargs, rfl, rfl, h0, r0⟩ := trodAll_cons hA
  obtain ⟨v1, vs1, d1, ds1, p1, q1, rfl, rfl, rfl, h1, r1⟩ := trodAll_cons r0
  obtain ⟨v2, vs2, d2, ds2, p2, q2, rfl, rfl, rfl, h2, r2⟩ := trodAll_cons r1
  obtain ⟨v3, vs3, d3, ds3, p3, q3, rfl, rfl, rfl, h3, r3⟩ := trodAll_cons r2
  obtain ⟨v4, vs4, d4, ds4, p4, q4, rfl, rfl, rfl, h4, r4⟩ := trodAll_cons r3
  obtain ⟨rfl, rfl, rfl⟩ := trodAll_nil r4
  obtain rfl : args = #[v0, v1, v2, v3, v4] := by cases args; simp_all
  obtain ⟨rfl, rfl⟩ := trodVars_none hV
  obtain ⟨a0, n0, c0, rfl⟩ := okWide_slice Try.underlying22 (hval 0 22 v0 rfl rfl)
  obtain ⟨a1, n1, c1, rfl⟩ := okWide_slice Try.underlying22 (hval 1 22 v1 rfl rfl)
  obtain ⟨a2, n2, c2, rfl⟩ := okWide_slice Try.underlying23 (hval 2 23 v2 rfl rfl)
  obtain ⟨a3, n3, c3, rfl⟩ := okWide_slice Try.underlying22 (hval 3 22 v3 rfl rfl)
  obtain ⟨a4, n4, c4, rfl⟩ := okWide_slice Try.underlying23 (hval 4 23 v4 rfl rfl)
  have h0k := h0
  have h1k := h1
  have h2k := h2
  have h3k := h3
  have h4k := h4
  obtain ⟨f0, e0⟩ := h0
  obtain ⟨f1, e1⟩ := h1
  obtain ⟨f2, e2⟩ := h2
  obtain ⟨f3, e3⟩ := h3
  obtain ⟨f4, e4⟩ := h4
  clear hA0 hval0
  simp only [List.append_nil] at hW'
  have hlt : ∀ x ∈ p0 ++ (p1 ++ (p2 ++ (p3 ++ p4))), x.block < W.heap.size := fun x hx => by simpa using hW'.lt x (by simpa using hx)
  obtain ⟨lk, nk, sk⟩ := open22 (by simpa [Value.cells] using e0)
  obtain ⟨lb, nb, sb⟩ := open22 (by simpa [Value.cells] using e1)
  obtain ⟨mb, nmb, rmb, smb⟩ := open23 (by simpa [Value.cells] using e2)
  obtain ⟨la, na, sa⟩ := open22 (by simpa [Value.cells] using e3)
  obtain ⟨ma, nma, rma, sma⟩ := open23 (by simpa [Value.cells] using e4)
  refine (exact_walk _ _ _ _ _ lk lb mb la ma W sk sb smb sa sma nk nb nmb rmb na nma rma).mono fun e W' ⟨he, hnx⟩ => ?_
  subst he
  refine ⟨_, rfl, _, _, _, [], p0 ++ (p1 ++ (p2 ++ (p3 ++ (p4 ++ [])))), [], hW', ?_, ?_, rfl, hnx.frame _, fun h => by cases h⟩
  · exact trodAll_mk1 (shut_bool Try.underlying4 _)
  · exact trodAll_cons_mk (Below.trod Try.laidOut (by kernel_rfl) (of_decide_eq_true (by kernel_rfl)) h0k hnx (fun x hx => hlt x (by simp [hx])))
      (trodAll_cons_mk (Below.trod Try.laidOut (by kernel_rfl) (of_decide_eq_true (by kernel_rfl)) h1k hnx (fun x hx => hlt x (by simp [hx])))
      (trodAll_cons_mk (Below.trod Try.laidOut (by kernel_rfl) (of_decide_eq_true (by kernel_rfl)) h2k hnx (fun x hx => hlt x (by simp [hx])))
      (trodAll_cons_mk (Below.trod Try.laidOut (by kernel_rfl) (of_decide_eq_true (by kernel_rfl)) h3k hnx (fun x hx => hlt x (by simp [hx])))
      (trodAll_cons_mk (Below.trod Try.laidOut (by kernel_rfl) (of_decide_eq_true (by kernel_rfl)) h4k hnx (fun x hx => hlt x (by simp [hx]))) trodAll_mk0))))

theorem exact_proved : Rows.FnAppendDifferingExactSaid :=
  OpenClaim.holds_of_wide 3 Try.f3 rfl rfl rfl rfl rfl rfl rfl ⟨rfl, rfl, rfl, rfl, rfl⟩ rfl rfl rfl rfl rfl (by kernel_rfl) Try.func3 (by kernel_rfl)
    (of_decide_eq_true (by kernel_rfl)) (by unfold Func.isWrapper; first | (rw [if_pos (by decide +kernel)]; kernel_rfl) | (rw [if_neg (by decide +kernel)]; exact ⟨rfl, rfl⟩))
    (fun os started H enc _ => exact_lifted os started H enc)
#print axioms exact_proved
end Go.Proofs.Qxb6605609a
