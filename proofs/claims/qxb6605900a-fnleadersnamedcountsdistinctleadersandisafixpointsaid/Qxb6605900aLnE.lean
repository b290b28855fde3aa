import Derived.Test.Qxb6605900aLnD
import Derived.ProofKit
import Derived.Deep.Slices
namespace Go.Proofs.Qxb6605900a
open Go.ChangeShapes Go.WideShapes Go.ChangeAt Go.RowKit Go.Deep

theorem Try.own : ownKnob Try.prog.godebug = none := by kernel_rfl
theorem Try.laidOut : laidOutB Try.prog = true := by kernel_rfl
theorem Try.cells32 : Try.prog.cellsOf 32 = 8 := by kernel_rfl
theorem Try.cells9 : Try.prog.cellsOf 9 = 1 := by kernel_rfl
theorem Try.cells30 : Try.prog.cellsOf 30 = 1 := by kernel_rfl

section
variable {H : Type} {enc : TypeId × Value → H} {w : World} {base : Nat} {spare : Nat → Bool} {held : Bool}

/-- One answer, opened. -/
theorem open_ans {n : Nat} {cs : List Value} {x : DataW H × List MemPlace} (h : DataW.trod enc Try.prog w base spare held n 32 cs = some x) :
    ∃ a : Ans, cs.length = 8 ∧ ∀ j, j < 8 → cs[j]? = some (a.cell j) := by
  obtain ⟨xs, m, _, _, hl, hxl, hf⟩ := DataW.trod_struct Try.underlying32 h
  rw [Try.cells32] at hl
  have hxl' : xs.length = 8 := hxl
  match cs, hl with
  | [c0, c1, c2, c3, c4, c5, c6, c7], _ =>
    match xs, hxl' with
    | [x0, x1, x2, x3, x4, x5, x6, x7], _ =>
      have g0 := hf 0 _ rfl
      have g1 := hf 1 _ rfl
      have g2 := hf 2 _ rfl
      have g3 := hf 3 _ rfl
      have g4 := hf 4 _ rfl
      have g5 := hf 5 _ rfl
      have g6 := hf 6 _ rfl
      have g7 := hf 7 _ rfl
      simp [Try.cells9, Try.cells30] at g0 g1 g2 g3 g4 g5 g6 g7
      obtain ⟨s0, e0, _, _⟩ := DataW.trod_string Try.underlying9 g0
      obtain ⟨i1, e1, _, _⟩ := DataW.trod_int Try.underlying30 g1
      obtain ⟨i2, e2, _, _⟩ := DataW.trod_int Try.underlying30 g2
      obtain ⟨i3, e3, _, _⟩ := DataW.trod_int Try.underlying30 g3
      obtain ⟨i4, e4, _, _⟩ := DataW.trod_int Try.underlying30 g4
      obtain ⟨i5, e5, _, _⟩ := DataW.trod_int Try.underlying30 g5
      obtain ⟨i6, e6, _, _⟩ := DataW.trod_int Try.underlying30 g6
      obtain ⟨s7, e7, _, _⟩ := DataW.trod_string Try.underlying9 g7
      simp at e0 e1 e2 e3 e4 e5 e6 e7
      subst e0 e1 e2 e3 e4 e5 e6 e7
      refine ⟨⟨s0, i1, i2, i3, i4, i5, i6, s7⟩, rfl, fun j hj => ?_⟩
      match j, hj with
      | 0, _ => rfl
      | 1, _ => rfl
      | 2, _ => rfl
      | 3, _ => rfl
      | 4, _ => rfl
      | 5, _ => rfl
      | 6, _ => rfl
      | 7, _ => rfl

/-- The whole argument, opened. -/
theorem open_answers {fuel : Nat} {a0 : Option Addr} {len cap : Nat} {x : DataW H × List MemPlace} (h : DataW.trod enc Try.prog w 0 (fun _ => true) held fuel 22 [.slice a0 len cap] = some x) :
    ∃ b off an, len ≤ 9223372036854775807 ∧ (0 < len → b < w.heap.size) ∧ (a0 = none → len = 0 ∧ cap = 0) ∧ (0 < len → a0 = some ⟨b, off, none⟩) ∧ AnsAt w b off len an := by
  rcases open_slice Try.underlying22 h with ⟨hcs, _⟩ | ⟨a, len', cap', m, n, D, Pl, hcs, _, hl, hm, hmm, _, hel⟩
  · simp at hcs
    obtain ⟨rfl, rfl, rfl⟩ := hcs
    exact ⟨0, 0, fun _ => zeroAns, by omega, fun h => by omega, fun _ => ⟨rfl, rfl⟩, fun h => by omega, fun i hi => by omega⟩
  · simp at hcs
    obtain ⟨rfl, rfl, rfl⟩ := hcs
    simp only [if_true] at hmm
    subst hmm
    rw [Try.cells32] at hel
    simp only [maxLen] at hm
    obtain ⟨an, han⟩ := @choose_lt Ans ⟨zeroAns⟩ len ( fun i x => ∀ j, j < 8 → w.cell? ((a.add (i * 8)).add j) = some (x.cell j)) (fun i hi => by
      obtain ⟨cs, h1, h2⟩ := hel i (by omega)
      obtain ⟨x, _, hx⟩ := open_ans h2
      obtain ⟨_, _, hc⟩ := World.cells?_some h1
      exact ⟨x, fun j hj => (hc j hj).trans (hx j hj)⟩)
    obtain ⟨b, off, spot⟩ := a
    by_cases h0 : 0 < len
    · have hspot : spot = none := by simpa [Addr.add] using World.cell?_spot (han 0 h0 0 (by omega))
      subst hspot
      have hc : AnsAt w b off len an := fun i hi j hj => by
        have := han i hi j hj
        rw [add_plain, add_plain] at this
        exact this
      exact ⟨b, off, an, by omega, fun _ => World.block_lt_of_cell? w _ (hc 0 h0 0 (by omega)), fun h => by simp at h, fun _ => rfl, hc⟩
    · exact ⟨b, off, an, by omega, fun h => absurd h h0, fun h => by simp at h, fun h => absurd h h0, fun i hi => by omega⟩
end

set_option maxRecDepth 100000 in
theorem first_lifted (os : Os) (started : os.Started) (H : Type) (enc : TypeId × Value → H) :
    ReturnsInHanded {} Try.checked os 3 .any (Rows.fnLeadersNamedFirstNamingsInOrderSpec.pre6 enc Try.prog Try.f3 Rows.fnLeadersNamedFirstNamingsInOrderRow.domain false) (Rows.fnLeadersNamedFirstNamingsInOrderSpec.post enc Try.prog Try.f3 false true false false) := by
  refine returnsInHanded_of_change (C := Try.checked) Try.own started (by kernel_rfl) Try.func3
    (ChangeSpec.witness6 (enc := enc) (C := Try.checked) false ⟨#[], #[.slice none 0 0], []⟩ 8 (by kernel_rfl) (by kernel_rfl) (by kernel_rfl) (by kernel_rfl)) ?_
  intro W base args ds gs before hval0 hW _ _
  have hval : ∀ (j : Nat) t v, Try.f3.params[j]? = some t → args[j]? = some v → Value.okWide Try.prog W .any base t v := hval0
  have hW' := hW
  obtain ⟨p, q, hA0, hV, rfl, _, _⟩ := hW
  have hA : DataW.TrodAll enc Try.prog W 0 (fun _ => true) true Try.f3.params.toList args.toList ds p := hA0
  rw [Try.params3] at hA hval
  obtain ⟨v0, d0, rfl, rfl, h0⟩ := trodAll_one hA
  obtain ⟨rfl, rfl⟩ := trodVars_none hV
  obtain ⟨a0, len, cap, rfl⟩ := okWide_slice Try.underlying22 (hval 0 22 v0 rfl rfl)
  have h0k := h0
  obtain ⟨fuel, hf⟩ := h0
  clear hA0 hval0
  simp only [List.append_nil] at hW'
  have hlt : ∀ x ∈ p, x.block < W.heap.size := fun x hx => by simpa using hW'.lt x hx
  obtain ⟨b, off, an, h1, h2, h3, h4, h5⟩ := open_answers (by simpa [Value.cells] using hf)
  refine (first_walk a0 b off len cap an W h1 h2 h3 h4 h5).mono fun e W' ⟨he, hnx⟩ => ?_
  subst he
  refine ⟨_, rfl, _, _, _, [], p, [], hW', ?_, ?_, rfl, hnx.frame _, fun h => by cases h⟩
  · exact trodAll_mk1 (shut_bool Try.underlying4 _)
  · exact trodAll_mk1 (Below.trod Try.laidOut (by kernel_rfl) (of_decide_eq_true (by kernel_rfl)) h0k hnx hlt)

theorem first_proved : Rows.FnLeadersNamedFirstNamingsInOrderSaid :=
  OpenClaim.holds_of_wide 3 Try.f3 rfl rfl rfl rfl rfl rfl rfl ⟨rfl, rfl, rfl, rfl, rfl⟩ rfl rfl rfl rfl rfl (by kernel_rfl) Try.func3 (by kernel_rfl)
    (of_decide_eq_true (by kernel_rfl)) (by unfold Func.isWrapper; first | (rw [if_pos (by decide +kernel)]; kernel_rfl) | (rw [if_neg (by decide +kernel)]; exact ⟨rfl, rfl⟩))
    (fun os started H enc _ => first_lifted os started H enc)
#print axioms first_proved
end Go.Proofs.Qxb6605900a
