import Derived.Test.Qxb6605900aStB
import Derived.ProofKit
import Derived.ShutString
import Derived.OpenShut
import Derived.Deep.Strs
namespace Go.Proofs.Qxb6605900a
open Go.ChangeShapes Go.WideShapes Go.ChangeAt Go.RowKit Go.Deep
open Go.ChangeMaps (open_string shut_string)

theorem st_own : ownKnob Try.prog.godebug = none := by kernel_rfl
theorem st_laidOut : laidOutB Try.prog = true := by kernel_rfl
theorem st_cells49 : Try.prog.cellsOf 49 = 3 := by kernel_rfl
theorem st_cells30 : Try.prog.cellsOf 30 = 1 := by kernel_rfl

/-- The position, opened. -/
theorem open_pos {H : Type} {enc : TypeId × Value → H} {w : World} {base : Nat} {spare : Nat → Bool} {held : Bool} {r : Reach} {b0 : Nat} {v : Value} {d : DataW H} {p : List MemPlace}
    (hv : Value.okWide Try.prog w r b0 49 v) (h : DataW.Trod enc Try.prog w base spare held 49 v d p) :
    ∃ x y z : Int, v = .agg #[.int .u64 x, .int .u64 y, .int .u64 z] ∧ p = [] := by
  obtain ⟨cs, rfl, hsz⟩ := okWide_struct Try.underlying49 hv
  rw [st_cells49] at hsz
  obtain ⟨fuel, hf⟩ := h
  obtain ⟨y0, y1, y2, n, hx, _, h0, h1, h2⟩ := trod_struct3 Try.underlying49 hf
  obtain ⟨l⟩ := cs
  simp only [List.size_toArray] at hsz
  match l, hsz with
  | [c0, c1, c2], _ =>
    simp [st_cells30, Value.cells] at h0 h1 h2
    obtain ⟨x, e0, rfl, _⟩ := DataW.trod_int Try.underlying30 h0
    obtain ⟨y, e1, rfl, _⟩ := DataW.trod_int Try.underlying30 h1
    obtain ⟨z, e2, rfl, _⟩ := DataW.trod_int Try.underlying30 h2
    simp at e0 e1 e2 hx
    exact ⟨x, y, z, by rw [e0, e1, e2], hx.2⟩

set_option maxRecDepth 100000 in
theorem stand_lifted (os : Os) (started : os.Started) (H : Type) (enc : TypeId × Value → H) :
    ReturnsInHanded {} Try.checked os 7 .any (Rows.fnStandForgetsPriorVoteLeaderAndRoleSpec.pre6 enc Try.prog Try.f7 Rows.fnStandForgetsPriorVoteLeaderAndRoleRow.domain false) (Rows.fnStandForgetsPriorVoteLeaderAndRoleSpec.post enc Try.prog Try.f7 false true false false) := by
  refine returnsInHanded_of_change (C := Try.checked) st_own started (by kernel_rfl) Try.func7
    (ChangeSpec.witness6 (enc := enc) (C := Try.checked) false ⟨#[], #[.int .u64 0, .int .u64 0, .int .u64 0, .int .u64 0, .string ⟨#[]⟩, .int .u64 0, .int .u64 0, .string ⟨#[]⟩, .agg #[.int .u64 0, .int .u64 0, .int .u64 0], .bool false], []⟩ 8 (by kernel_rfl) (by kernel_rfl) (by kernel_rfl) (by kernel_rfl)) ?_
  intro W base args ds gs before hval0 hW hcnd _
  have hval : ∀ (j : Nat) t v, Try.f7.params[j]? = some t → args[j]? = some v → Value.okWide Try.prog W .any base t v := hval0
  have hW' := hW
  obtain ⟨p, q, hA0, hV, rfl, hfz, hnd⟩ := hW
  have hA : DataW.TrodAll enc Try.prog W 0 (fun _ => true) true Try.f7.params.toList args.toList ds p := hA0
  rw [Try.params7] at hA hval
  obtain ⟨v0, vs0, d0, ds0, p0, q0, hargs, rfl, rfl, h0, r0⟩ := trodAll_cons hA
  obtain ⟨v1, vs1, d1, ds1, p1, q1, rfl, rfl, rfl, h1, r1⟩ := trodAll_cons r0
  obtain ⟨v2, vs2, d2, ds2, p2, q2, rfl, rfl, rfl, h2, r2⟩ := trodAll_cons r1
  obtain ⟨v3, vs3, d3, ds3, p3, q3, rfl, rfl, rfl, h3, r3⟩ := trodAll_cons r2
  obtain ⟨v4, vs4, d4, ds4, p4, q4, rfl, rfl, rfl, h4, r4⟩ := trodAll_cons r3
  obtain ⟨v5, vs5, d5, ds5, p5, q5, rfl, rfl, rfl, h5, r5⟩ := trodAll_cons r4
  obtain ⟨v6, vs6, d6, ds6, p6, q6, rfl, rfl, rfl, h6, r6⟩ := trodAll_cons r5
  obtain ⟨v7, vs7, d7, ds7, p7, q7, rfl, rfl, rfl, h7, r7⟩ := trodAll_cons r6
  obtain ⟨v8, vs8, d8, ds8, p8, q8, rfl, rfl, rfl, h8, r8⟩ := trodAll_cons r7
  obtain ⟨v9, vs9, d9, ds9, p9, q9, rfl, rfl, rfl, h9, r9⟩ := trodAll_cons r8
  obtain ⟨rfl, rfl, rfl⟩ := trodAll_nil r9
  obtain rfl : args = #[v0, v1, v2, v3, v4, v5, v6, v7, v8, v9] := by cases args; simp_all
  obtain ⟨rfl, rfl⟩ := trodVars_none hV
  obtain ⟨a0, rfl, rfl, rfl, w0⟩ := open_int Try.underlying30 (hval 0 30 v0 rfl rfl) h0
  obtain ⟨a1, rfl, rfl, rfl, w1⟩ := open_int Try.underlying30 (hval 1 30 v1 rfl rfl) h1
  obtain ⟨a2, rfl, rfl, rfl, w2⟩ := open_int Try.underlying30 (hval 2 30 v2 rfl rfl) h2
  obtain ⟨a3, rfl, rfl, rfl, w3⟩ := open_int Try.underlying30 (hval 3 30 v3 rfl rfl) h3
  obtain ⟨a4, rfl, rfl, rfl, w4⟩ := open_string Try.underlying9 (hval 4 9 v4 rfl rfl) h4
  obtain ⟨a5, rfl, rfl, rfl, w5⟩ := open_int Try.underlying30 (hval 5 30 v5 rfl rfl) h5
  obtain ⟨a6, rfl, rfl, rfl, w6⟩ := open_int Try.underlying30 (hval 6 30 v6 rfl rfl) h6
  obtain ⟨a7, rfl, rfl, rfl, w7⟩ := open_string Try.underlying9 (hval 7 9 v7 rfl rfl) h7
  have h8k := h8
  obtain ⟨x, y, z, rfl, rfl⟩ := open_pos (hval 8 49 v8 rfl rfl) h8
  obtain ⟨a9, rfl, rfl, rfl⟩ := open_bool Try.underlying4 (hval 9 4 v9 rfl rfl) h9
  clear hA0 hval0
  simp only [List.append_nil] at hW'
  refine (stand_walk a0 a1 a2 a3 a4 a5 a6 a7 x y z a9 W w1).mono fun e W' ⟨he, hnx⟩ => ?_
  subst he
  refine ⟨_, rfl, _, _, _, [], [], [], hW', ?_, ?_, rfl, hnx.frame _, fun h => by cases h⟩
  · exact trodAll_mk1 (shut_bool Try.underlying4 _)
  · exact (trodAll_cons_mk (shut_int Try.underlying30 w0) (trodAll_cons_mk (shut_int Try.underlying30 w1) (trodAll_cons_mk (shut_int Try.underlying30 w2) (trodAll_cons_mk (shut_int Try.underlying30 w3) (trodAll_cons_mk (shut_string Try.underlying9 w4) (trodAll_cons_mk (shut_int Try.underlying30 w5) (trodAll_cons_mk (shut_int Try.underlying30 w6) (trodAll_cons_mk (shut_string Try.underlying9 w7)
      (trodAll_cons_mk (Below.trod st_laidOut (by kernel_rfl) (of_decide_eq_true (by kernel_rfl)) h8k hnx (fun x hx => by cases hx)) (trodAll_cons_mk (shut_bool Try.underlying4 _) trodAll_mk0))))))))))

theorem stand_proved : Rows.FnStandForgetsPriorVoteLeaderAndRoleSaid :=
  OpenClaim.holds_of_wide 7 Try.f7 rfl rfl rfl rfl rfl rfl rfl ⟨rfl, rfl, rfl, rfl, rfl⟩ rfl rfl rfl rfl rfl (by kernel_rfl) Try.func7 (by kernel_rfl)
    (of_decide_eq_true (by kernel_rfl)) (by unfold Func.isWrapper; first | (rw [if_pos (by decide +kernel)]; kernel_rfl) | (rw [if_neg (by decide +kernel)]; exact ⟨rfl, rfl⟩))
    (fun os started H enc _ => stand_lifted os started H enc)
#print axioms stand_proved
end Go.Proofs.Qxb6605900a
