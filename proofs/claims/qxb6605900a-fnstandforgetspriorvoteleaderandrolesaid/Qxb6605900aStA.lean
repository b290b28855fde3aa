import Derived.Test.Qxb6605900aRows
import Derived.WalkKit
import Derived.WalkSpells
import Derived.WalkSmall
import Derived.BigRegion
import Derived.Deep.QuietTactic
import Derived.BigQuiet
import Derived.Deep.OwnRows
namespace Go.Proofs.Qxb6605900a
open Go.RowKit Go.Deep

/-- The cells of a consensus.Node whose other fields are zero. -/
def nodeCell (id term vote leader : Int) (role : ByteArray) : Nat → Value
  | 0 => .int .u64 id | 1 => .int .i64 0 | 2 => .int .u64 0 | 3 => .int .u64 0 | 4 => .slice none 0 0 | 5 => .int .u64 0 | 6 => .int .u64 0 | 7 => .int .u64 0
  | 8 => .int .u64 term | 9 => .int .u64 vote | 10 => .string role | 11 => .int .u64 leader
  | 12 => .int .u64 0 | 13 => .int .i64 0 | 14 => .pointer none | 15 => .int .i64 0 | 16 => .int .u64 0 | 17 => .int .i64 0 | 18 => .pointer none | 19 => .int .u64 0 | 20 => .int .i64 0 | 21 => .pointer none
  | 22 => .int .u64 0 | 23 => .int .u64 0 | 24 => .slice none 0 0 | 25 => .bool false | 26 => .bool false | 27 => .bool false | 28 => .int .u64 0 | 29 => .int .u64 0 | 30 => .slice none 0 0
  | 31 => .int .u64 0 | 32 => .int .u64 0 | 33 => .int .u32 0 | 34 => .bool false | 35 => .int .u32 0 | _ => .bool false

abbrev cand : ByteArray := ⟨#[99, 97, 110, 100, 105, 100, 97, 116, 101]⟩

theorem zzbytes3_any (a b c d f g : Int) (r1 r2 : ByteArray) (p0 p1 p2 : Int) (h : Bool) (w : World) :
    Calls Try.prog 18 #[.int .u64 a, .int .u64 b, .int .u64 c, .int .u64 d, .string r1, .int .u64 f, .int .u64 g, .string r2, .agg #[.int .u64 p0, .int .u64 p1, .int .u64 p2], .bool h] w fun e w' => (∃ t : Bool, e = .returned (.bool t)) ∧ ∃ c, w' = w.alloc (.cells c 49) := by
  go_enter Try.func18, Try.ntmps18
  go_wp2
  all_goals (go_ret; exact ⟨⟨_, rfl⟩, _, rfl⟩)

theorem pos_any (p0 p1 p2 : Int) (w : World) :
    Calls Try.prog 20 #[.agg #[.int .u64 p0, .int .u64 p1, .int .u64 p2]] w fun e w' => e = .returned (.agg #[.int .u64 p0, .int .u64 p1, .int .u64 p2]) ∧ Below w.heap.size w w' := by
  go_enter Try.func20, Try.ntmps20
  go_wp2
  exact bodyPost_ret (v := .agg #[.int .u64 p0, .int .u64 p1, .int .u64 p2]) (by simp [results, Try.results20, go_sem]) rfl ⟨rfl, ((Below.refl _ _).alloc (Nat.le_refl _) _).alloc (by simp) _⟩

set_option maxHeartbeats 1000000 in
theorem stand_any (b : Nat) (id term vote leader : Int) (role : ByteArray) (p0 p1 p2 : Int) (h : Bool) (w : World) (hb : w.rowIs b 66 37 (nodeCell id term vote leader role)) :
    Calls Try.prog 19 #[.pointer (some ⟨b, 0, none⟩), .agg #[.int .u64 p0, .int .u64 p1, .int .u64 p2], .bool h] w fun e w' => e = .returned (.agg #[.int .u64 0, .int .u64 (IntKind.u64.wrap (term + 1)), .int .u64 id, .int .u64 0, .int .u64 p0, .int .u64 p1, .bool false, .bool h, .int .i64 0, .string ⟨#[]⟩]) ∧
      Below w.heap.size ((((w.setCell ⟨b, 8, none⟩ (.int .u64 (IntKind.u64.wrap (term + 1)))).setCell ⟨b, 9, none⟩ (.int .u64 id)).setCell ⟨b, 10, none⟩ (.string cand)).setCell ⟨b, 11, none⟩ (.int .u64 0)) w' := by
  have c0 := hb.cell (i := 0) (by omega)
  have c8 := hb.cell (i := 8) (by omega)
  have c9 := hb.cell (i := 9) (by omega)
  have c10 := hb.cell (i := 10) (by omega)
  have c11 := hb.cell (i := 11) (by omega)
  have hfz := hb.frozen
  have hlt := hb.lt
  simp only [nodeCell] at c0 c8 c9 c10 c11
  clear hb
  go_enter Try.func19, Try.ntmps19
  go_wp2
  go_region
  go_wp2
  go_region
  go_wp2
  exact bodyPost_ret (v := .agg #[.int .u64 0, .int .u64 (IntKind.u64.wrap (term + 1)), .int .u64 id, .int .u64 0, .int .u64 p0, .int .u64 p1, .bool false, .bool h, .int .i64 0, .string ⟨#[]⟩]) (by simp [results, Try.results19, go_sem]) rfl ⟨rfl, ((((Below.refl _ _).alloc (by simp) _).alloc (by simp) _).drew).drew⟩

theorem isZero_any (w : World) : Calls Try.prog 26 #[.agg #[.int .u64 0, .int .i64 0, .pointer none]] w fun e w' => e = .returned (.bool true) ∧ Below w.heap.size w w' := by
  go_enter Try.func26, Try.ntmps26
  go_wp2
  go_ret
  exact ⟨rfl, (Below.refl _ _).alloc (Nat.le_refl _) _⟩

theorem extras_any (t i p0 p1 : Int) (h : Bool) (w : World) : Calls Try.prog 22 #[.agg #[.int .u64 0, .int .u64 t, .int .u64 i, .int .u64 0, .int .u64 p0, .int .u64 p1, .bool false, .bool h, .int .i64 0, .string ⟨#[]⟩]] w fun e w' => e = .returned (.bool true) ∧ Below w.heap.size w w' := by
  go_enter Try.func22, Try.ntmps22
  go_wp2
  go_ret
  exact ⟨rfl, (Below.refl _ _).alloc (Nat.le_refl _) _⟩

set_option maxHeartbeats 1000000 in
set_option maxRecDepth 100000 in
theorem rest_any (b : Nat) (id term vote leader : Int) (role : ByteArray) (w : World) (hb : w.rowIs b 66 37 (nodeCell id term vote leader role)) :
    Calls Try.prog 21 #[.pointer (some ⟨b, 0, none⟩)] w fun e w' => e = .returned (.bool true) ∧ Below w.heap.size w w' := by
  have c1 := hb.cell (i := 1) (by omega)
  have c2 := hb.cell (i := 2) (by omega)
  have c3 := hb.cell (i := 3) (by omega)
  have c4 := hb.cell (i := 4) (by omega)
  have c5 := hb.cell (i := 5) (by omega)
  have c6 := hb.cell (i := 6) (by omega)
  have c7 := hb.cell (i := 7) (by omega)
  have c12 := hb.cell (i := 12) (by omega)
  have c13 := hb.cell (i := 13) (by omega)
  have c14 := hb.cell (i := 14) (by omega)
  have c15 := hb.cell (i := 15) (by omega)
  have c16 := hb.cell (i := 16) (by omega)
  have c17 := hb.cell (i := 17) (by omega)
  have c18 := hb.cell (i := 18) (by omega)
  have c19 := hb.cell (i := 19) (by omega)
  have c20 := hb.cell (i := 20) (by omega)
  have c21 := hb.cell (i := 21) (by omega)
  have c22 := hb.cell (i := 22) (by omega)
  have c23 := hb.cell (i := 23) (by omega)
  have c24 := hb.cell (i := 24) (by omega)
  have c25 := hb.cell (i := 25) (by omega)
  have c26 := hb.cell (i := 26) (by omega)
  have c27 := hb.cell (i := 27) (by omega)
  have c28 := hb.cell (i := 28) (by omega)
  have c29 := hb.cell (i := 29) (by omega)
  have c30 := hb.cell (i := 30) (by omega)
  have c31 := hb.cell (i := 31) (by omega)
  have c32 := hb.cell (i := 32) (by omega)
  have c33 := hb.cell (i := 33) (by omega)
  have c34 := hb.cell (i := 34) (by omega)
  have c35 := hb.cell (i := 35) (by omega)
  have c36 := hb.cell (i := 36) (by omega)
  have hlt := hb.lt
  simp only [nodeCell] at c1 c2 c3 c4 c5 c6 c7 c12 c13 c14 c15 c16 c17 c18 c19 c20 c21 c22 c23 c24 c25 c26 c27 c28 c29 c30 c31 c32 c33 c34 c35 c36
  have hneq := fun w a n c n' c' => run_neq_slice_nil_any (P := Try.prog) w 26 35 a n c n' c' Try.underlying26
  have hneq2 := fun w a n c n' c' => run_neq_slice_nil_any (P := Try.prog) w 59 109 a n c n' c' Try.underlying59
  clear hb
  go_enter Try.func21, Try.ntmps21
  go_wp2_with fail
  refine (isZero_any _).mono ?_
  rintro e w1 ⟨rfl, hb1⟩
  have e16 := (hb1.cell (p := ⟨b, 16, none⟩) hlt).trans c16
  have e17 := (hb1.cell (p := ⟨b, 17, none⟩) hlt).trans c17
  have e18 := (hb1.cell (p := ⟨b, 18, none⟩) hlt).trans c18
  have e19 := (hb1.cell (p := ⟨b, 19, none⟩) hlt).trans c19
  have e20 := (hb1.cell (p := ⟨b, 20, none⟩) hlt).trans c20
  have e21 := (hb1.cell (p := ⟨b, 21, none⟩) hlt).trans c21
  have hs1 := hb1.size
  clear hneq hneq2 c1 c2 c3 c4 c5 c6 c7 c12 c13 c14 c15 c16 c17 c18 c19 c20 c21 c22 c23 c24 c25 c26 c27 c28 c29 c30 c31 c32 c33 c34 c35 c36
  go_wp2_with fail
  refine (isZero_any _).mono ?_
  rintro e w2 ⟨rfl, hb2⟩
  have f19 := (hb2.cell (p := ⟨b, 19, none⟩) (by simp; omega)).trans e19
  have f20 := (hb2.cell (p := ⟨b, 20, none⟩) (by simp; omega)).trans e20
  have f21 := (hb2.cell (p := ⟨b, 21, none⟩) (by simp; omega)).trans e21
  have hs2 := hb2.size
  go_wp2_with fail
  refine (isZero_any _).mono ?_
  rintro e w3 ⟨rfl, hb3⟩
  go_wp2_with fail
  go_ret
  exact ⟨rfl, (hb1.trans (hb2.mono hs1)).trans (hb3.mono (by omega))⟩
end Go.Proofs.Qxb6605900a
