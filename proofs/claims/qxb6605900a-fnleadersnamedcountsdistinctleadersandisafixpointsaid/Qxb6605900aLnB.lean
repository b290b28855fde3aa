import Derived.Test.Qxb6605900aLnA
import Derived.Deep.OwnRows
namespace Go.Proofs.Qxb6605900a
open Go.RowKit Go.Deep

theorem Try.info32 : (Try.prog.info? 32).map (fun i => (i.zero, i.size, i.bytes)) = some (some (.agg #[.string ⟨#[]⟩, .int .u64 0, .int .u64 0, .int .u64 0, .int .u64 0, .int .u64 0, .int .u64 0, .string ⟨#[]⟩]), 8, 80) := by kernel_rfl

/-- make of n elements of whatever size. -/
theorem run_make_cells {P : Program} (t e : TypeId) (z : Value) (size bytes : Nat) (ht : P.underlying t = some (.slice e)) (hinfo : (P.info? e).map (fun i => (i.zero, i.size, i.bytes)) = some (some z, size, bytes))
    (kl kc : IntKind) (n : Nat) (hbytes : bytes * n ≤ 281474976710656) (h63 : n ≤ 9223372036854775807) (w : World) :
    (Instr.makeSlice t (.int kl (n : Int)) (.int kc (n : Int))).run P w = .ok (.slice (some ⟨w.heap.size, 0, none⟩) n n) (w.alloc (.cells (madeCells z.cells (n * size)) e)) := by
  obtain ⟨i, hi, hz, hs, hb⟩ := info_parts hinfo
  subst hs; subst hb
  have hb' : (i.bytes : Int) * (n : Int) ≤ 281474976710656 := by
    have h : ((i.bytes * n : Nat) : Int) ≤ 281474976710656 := by omega
    rwa [Int.natCast_mul] at h
  have hr := run_make (P := P) w t e i z ht hi hz kl kc n n (by omega) (Int.le_refl _) hb' (by omega)
  simpa only [Int.toNat_natCast] using hr

/-- The cells that a make lays, under a name. -/
def made (z : Array Value) (n : Nat) : Obj → Prop := fun o => ∃ e, o = .cells (madeCells z n) e

/-- What a round of the copy leaves. -/
theorem copied {f : Nat → Value} {k : Nat} {an : Nat → Ans} (x : Ans) (hx : an k = x) (hfk : ∀ i, i < k → ∀ j, j < 8 → f (i * 8 + j) = (an i).cell j) :
    ∀ i, i < k + 1 → ∀ j, j < 8 → (fun q => if q = k * 8 + 7 then Value.string x.laddr else if q = k * 8 + 6 then .int .u64 x.leader else if q = k * 8 + 5 then .int .u64 x.cv else if q = k * 8 + 4 then .int .u64 x.committed
      else if q = k * 8 + 3 then .int .u64 x.last else if q = k * 8 + 2 then .int .u64 x.term else if q = k * 8 + 1 then .int .u64 x.group else if q = k * 8 then .string x.addr else f q) (i * 8 + j) = (an i).cell j := by
  intro i hi j hj
  by_cases hik : i < k
  · simp only []
    rw [if_neg (by omega), if_neg (by omega), if_neg (by omega), if_neg (by omega), if_neg (by omega), if_neg (by omega), if_neg (by omega), if_neg (by omega)]
    exact hfk i hik j hj
  · obtain rfl : i = k := by omega
    subst hx
    match j, hj with
    | 0, _ => simp [Ans.cell]
    | 1, _ => simp [Ans.cell]
    | 2, _ => simp [Ans.cell]
    | 3, _ => simp [Ans.cell]
    | 4, _ => simp [Ans.cell]
    | 5, _ => simp [Ans.cell]
    | 6, _ => simp [Ans.cell]
    | 7, _ => simp [Ans.cell]

theorem getElem?_some_default {c : Array Value} {i : Nat} (h : i < c.size) : c[i]? = some (c[i]?.getD undef) := by
  rw [Array.getElem?_eq_getElem h]; rfl

theorem AnsAt.below {w w' : World} {b off n B : Nat} {an : Nat → Ans} (h : AnsAt w b off n an) (hb : Below B w w') (hlt : b < B) : AnsAt w' b off n an := fun i hi j hj => by
  rw [hb.cell (p := ⟨b, off + i * 8 + j, none⟩) hlt]; exact h i hi j hj

set_option maxHeartbeats 400000 in
/-- 'zzCopyAnswers' of a slice that is not nil. -/
theorem copy_any (a : Addr) (b off n cap : Nat) (an : Nat → Ans) (w : World) (hn : n ≤ 1000000) (hb : 0 < n → b < w.heap.size) (hao : 0 < n → a = ⟨b, off, none⟩) (ha : AnsAt w b off n an) :
    Calls Try.prog 10 #[.slice (some a) n cap] w fun e w' => e = .returned (.slice (some ⟨w.heap.size, 0, none⟩) n n) ∧ (∃ f, w'.rowIs w.heap.size 32 (n * 8) f ∧ ∀ i, i < n → ∀ j, j < 8 → f (i * 8 + j) = (an i).cell j) ∧ Below w.heap.size w w' := by
  have hmk := run_make_cells (P := Try.prog) 22 32 _ 8 80 Try.underlying22 Try.info32 .i64 .i64 n (by omega) (by omega)
  have hnil := fun w n c n' c' => Lib.run_eql_slice_nil (P := Try.prog) w 22 32 (some a) n c n' c' Try.underlying22
  go_enter Try.func10, Try.ntmps10
  go_wp2

  go_loopw [4] (fun i wr => ∃ k : Nat, k ≤ n ∧ i = .int .i64 k ∧ (∃ f, wr.rowIs w.heap.size 32 (n * 8) f ∧ ∀ i, i < k → ∀ j, j < 8 → f (i * 8 + j) = (an i).cell j) ∧ Below w.heap.size w wr) (fun i _ => n - (intOf i).toNat)
  case atStart => exact ⟨0, Nat.zero_le _, rfl, ⟨_, ⟨_, blk_alloc_new _ _, size_madeCells _ _, fun i hi => getElem?_some_default (by simpa [size_madeCells] using hi)⟩, fun i hi => by omega⟩, (Below.refl _ _).alloc (Nat.le_refl _) _⟩
  case round =>
    obtain ⟨k, hk, rfl, ⟨f, hf, hfk⟩, hbel⟩ := hrel
    by_cases hlt : k < n
    · obtain rfl := hao (by omega)
      have ha' : AnsAt wr b off n an := ha.below hbel (hb (by omega))
      obtain ⟨c0, c1, c2, c3, c4, c5, c6, c7⟩ := ha'.at hlt
      have d0 := hf.cell (i := k * 8) (by omega)
      have d1 := hf.cell (i := k * 8 + 1) (by omega)
      have d2 := hf.cell (i := k * 8 + 2) (by omega)
      have d3 := hf.cell (i := k * 8 + 3) (by omega)
      have d4 := hf.cell (i := k * 8 + 4) (by omega)
      have d5 := hf.cell (i := k * 8 + 5) (by omega)
      have d6 := hf.cell (i := k * 8 + 6) (by omega)
      have d7 := hf.cell (i := k * 8 + 7) (by omega)
      have hfz := hf.frozen
      clear ha ha' hao hb hmk hnil
      go_wp2
      go_roundw
      case rel =>
        refine ⟨k + 1, by omega, by go_num, ⟨_, (((((((hf.set _ _).set _ _).set _ _).set _ _).set _ _).set _ _).set _ _).set _ _, ?_⟩, (((((((hbel.setCell (Nat.le_refl _) _).setCell (Nat.le_refl _) _).setCell (Nat.le_refl _) _).setCell (Nat.le_refl _) _).setCell (Nat.le_refl _) _).setCell (Nat.le_refl _) _).setCell (Nat.le_refl _) _).setCell (Nat.le_refl _) _⟩
        exact copied (an k) rfl hfk
      case measure => simp [intOf]; omega
    · go_wp2
      go_ret
      exact ⟨rfl, ⟨f, hf, by have : k = n := by omega
                             subst this; exact hfk⟩, hbel⟩

theorem copy_nil (w : World) : Calls Try.prog 10 #[.slice none 0 0] w fun e w' => e = .returned (.slice none 0 0) ∧ w' = w := by
  have hnil := fun w n c n' c' => Lib.run_eql_slice_nil (P := Try.prog) w 22 32 none n c n' c' Try.underlying22
  go_enter Try.func10, Try.ntmps10
  go_wp2
  go_ret
  exact ⟨rfl, rfl⟩

theorem Try.info40 : (Try.prog.info? 40).map (fun i => (i.zero, i.size, i.bytes)) = some (some (.agg #[.string ⟨#[]⟩, .nilIface, .int .u64 0, .int .u64 0, .int .u64 0, .int .u64 0, .slice none 0 0, .slice none 0 0, .int .u64 0, .int .u64 0, .string ⟨#[]⟩]), 11, 144) := by kernel_rfl

/-- The cells of a consensus.Answer made of one. -/
def Ans.wcell (a : Ans) : Nat → Value
  | 0 => .string a.addr
  | 1 => .nilIface
  | 2 => .int .u64 a.group
  | 3 => .int .u64 a.term
  | 4 => .int .u64 a.last
  | 5 => .int .u64 a.committed
  | 6 => .slice none 0 0
  | 7 => .slice none 0 0
  | 8 => .int .u64 a.cv
  | 9 => .int .u64 a.leader
  | _ => .string a.laddr

def zeroAns : Ans := ⟨⟨#[]⟩, 0, 0, 0, 0, 0, 0, ⟨#[]⟩⟩

/-- What make lays for consensus.Answer. -/
theorem made40 (n : Nat) (w : World) : ∃ f, (w.alloc (.cells (madeCells (Value.agg #[.string ⟨#[]⟩, .nilIface, .int .u64 0, .int .u64 0, .int .u64 0, .int .u64 0, .slice none 0 0, .slice none 0 0, .int .u64 0, .int .u64 0, .string ⟨#[]⟩]).cells (n * 11)) 40)).rowIs w.heap.size 40 (n * 11) f ∧
    ∀ i, i < n → ∀ j, j < 11 → f (i * 11 + j) = zeroAns.wcell j := by
  refine ⟨fun q => zeroAns.wcell (q % 11), ⟨_, blk_alloc_new _ _, size_madeCells _ _, fun i hi => ?_⟩, fun i hi j hj => by simp only []; rw [show (i * 11 + j) % 11 = j by omega]⟩
  have h11 : i % 11 < 11 := Nat.mod_lt _ (by omega)
  simp only [madeCells, Array.getElem?_map, Array.getElem?_range, hi, if_true, Option.map_some, Option.some.injEq]
  simp [Value.cells]
  generalize i % 11 = m at h11
  match m, h11 with
  | 0, _ => rfl
  | 1, _ => rfl
  | 2, _ => rfl
  | 3, _ => rfl
  | 4, _ => rfl
  | 5, _ => rfl
  | 6, _ => rfl
  | 7, _ => rfl
  | 8, _ => rfl
  | 9, _ => rfl
  | 10, _ => rfl

theorem told {f : Nat → Value} {k n : Nat} {an : Nat → Ans} (x : Ans) (hx : an k = x) (hkn : k < n) (hfk : ∀ i, i < n → ∀ j, j < 11 → f (i * 11 + j) = (if i < k then an i else zeroAns).wcell j) :
    ∀ i, i < n → ∀ j, j < 11 → (fun q => if q = k * 11 + 10 then Value.string x.laddr else if q = k * 11 + 9 then .int .u64 x.leader else if q = k * 11 + 8 then .int .u64 x.cv else if q = k * 11 + 5 then .int .u64 x.committed
      else if q = k * 11 + 4 then .int .u64 x.last else if q = k * 11 + 3 then .int .u64 x.term else if q = k * 11 + 2 then .int .u64 x.group else if q = k * 11 then .string x.addr else f q) (i * 11 + j) = (if i < k + 1 then an i else zeroAns).wcell j := by
  intro i hi j hj
  by_cases hik : i = k
  · obtain rfl : i = k := by omega
    subst hx
    have h6 := hfk i hkn
    match j, hj with
    | 0, _ => simp [Ans.wcell]
    | 1, _ => simp [Ans.wcell, h6]
    | 2, _ => simp [Ans.wcell]
    | 3, _ => simp [Ans.wcell]
    | 4, _ => simp [Ans.wcell]
    | 5, _ => simp [Ans.wcell]
    | 6, _ => simp [Ans.wcell, h6]
    | 7, _ => simp [Ans.wcell, h6]
    | 8, _ => simp [Ans.wcell]
    | 9, _ => simp [Ans.wcell]
    | 10, _ => simp [Ans.wcell]
  · simp only []
    rw [if_neg (by omega), if_neg (by omega), if_neg (by omega), if_neg (by omega), if_neg (by omega), if_neg (by omega), if_neg (by omega), if_neg (by omega)]
    rw [hfk i hi j hj]
    by_cases h : i < k
    · rw [if_pos h, if_pos (by omega)]
    · rw [if_neg h, if_neg (by omega)]

set_option maxHeartbeats 1000000 in
/-- 'zzToAnswers'. -/
theorem toAns_any (ao : Option Addr) (b off n cap : Nat) (an : Nat → Ans) (w : World) (hn : n ≤ 1000000) (hb : 0 < n → b < w.heap.size) (hao : 0 < n → ao = some ⟨b, off, none⟩) (ha : AnsAt w b off n an) :
    Calls Try.prog 12 #[.slice ao n cap] w fun e w' => e = .returned (.slice (some ⟨w.heap.size, 0, none⟩) n n) ∧ (∃ f, w'.rowIs w.heap.size 40 (n * 11) f ∧ ∀ i, i < n → ∀ j, j < 11 → f (i * 11 + j) = (an i).wcell j) ∧ Below w.heap.size w w' := by
  have hmk := run_make_cells (P := Try.prog) 28 40 _ 11 144 Try.underlying28 Try.info40 .i64 .i64 n (by omega) (by omega)
  go_enter Try.func12, Try.ntmps12
  go_wp2
  go_loopw [4] (fun i wr => ∃ k : Nat, k ≤ n ∧ i = .int .i64 k ∧ (∃ f, wr.rowIs w.heap.size 40 (n * 11) f ∧ ∀ i, i < n → ∀ j, j < 11 → f (i * 11 + j) = (if i < k then an i else zeroAns).wcell j) ∧ Below w.heap.size w wr) (fun i _ => n - (intOf i).toNat)
  case atStart =>
    obtain ⟨f, hf1, hf2⟩ := made40 n w
    exact ⟨0, Nat.zero_le _, rfl, ⟨f, hf1, fun i hi j hj => by rw [hf2 i hi j hj]; simp⟩, (Below.refl _ _).alloc (Nat.le_refl _) _⟩
  case round =>
    obtain ⟨k, hk, rfl, ⟨f, hf, hfk⟩, hbel⟩ := hrel
    by_cases hlt : k < n
    · obtain rfl := hao (by omega)
      have ha' : AnsAt wr b off n an := ha.below hbel (hb (by omega))
      obtain ⟨c0, c1, c2, c3, c4, c5, c6, c7⟩ := ha'.at hlt
      have hsz := hf.lt
      have d0 := hf.cell (i := k * 11) (by omega)
      have d2 := hf.cell (i := k * 11 + 2) (by omega)
      have d3 := hf.cell (i := k * 11 + 3) (by omega)
      have d4 := hf.cell (i := k * 11 + 4) (by omega)
      have d5 := hf.cell (i := k * 11 + 5) (by omega)
      have d8 := hf.cell (i := k * 11 + 8) (by omega)
      have d9 := hf.cell (i := k * 11 + 9) (by omega)
      have d10 := hf.cell (i := k * 11 + 10) (by omega)
      have hfz := hf.frozen
      clear ha ha' hao hb hmk
      go_wp2
      go_roundw
      case rel =>
        refine ⟨k + 1, by omega, by go_num, ⟨_, ((((((((hf.set _ _).set _ _).set _ _).set _ _).set _ _).set _ _).set _ _).set _ _).alloc _, ?_⟩, ((((((((hbel.setCell (Nat.le_refl _) _).setCell (Nat.le_refl _) _).setCell (Nat.le_refl _) _).setCell (Nat.le_refl _) _).setCell (Nat.le_refl _) _).setCell (Nat.le_refl _) _).setCell (Nat.le_refl _) _).setCell (Nat.le_refl _) _).alloc (by simp; omega) _⟩
        exact told (an k) rfl hlt hfk
      case measure => simp [intOf]; omega
    · go_wp2
      go_ret
      exact ⟨rfl, ⟨f, hf, by have : k = n := by omega
                             subst this; intro i hi j hj; rw [hfk i hi j hj, if_pos hi]⟩, hbel⟩
end Go.Proofs.Qxb6605900a
