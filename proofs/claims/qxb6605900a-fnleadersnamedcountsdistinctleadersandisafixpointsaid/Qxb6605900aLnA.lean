import Derived.Test.Qxb6605900aRows
import Derived.WalkKit
import Derived.WalkSpells
import Derived.Deep.QuietTactic
import Derived.BigQuiet
namespace Go.Proofs.Qxb6605900a
open Go.RowKit

/-- One answer, as the law hands it over. -/
structure Ans where
  addr : ByteArray
  group : Int
  term : Int
  last : Int
  committed : Int
  cv : Int
  leader : Int
  laddr : ByteArray

def Ans.cell (a : Ans) : Nat → Value
  | 0 => .string a.addr
  | 1 => .int .u64 a.group
  | 2 => .int .u64 a.term
  | 3 => .int .u64 a.last
  | 4 => .int .u64 a.committed
  | 5 => .int .u64 a.cv
  | 6 => .int .u64 a.leader
  | _ => .string a.laddr

def Ans.agg (a : Ans) : Value := .agg #[.string a.addr, .int .u64 a.group, .int .u64 a.term, .int .u64 a.last, .int .u64 a.committed, .int .u64 a.cv, .int .u64 a.leader, .string a.laddr]

def names (id : Int) (ad : ByteArray) : Bool := (id != 0) && !ad.toList.isEmpty

theorem names_any (ad la : ByteArray) (g t l c v id : Int) (w : World) :
    Calls Try.prog 13 #[.agg #[.string ad, .int .u64 g, .int .u64 t, .int .u64 l, .int .u64 c, .int .u64 v, .int .u64 id, .string la]] w fun e w' =>
      e = .returned (.bool (names id la)) ∧ ∃ c : Array Value, w' = w.alloc (.cells c 32) := by
  unfold names
  by_cases h : id = 0
  · subst h
    go_enter Try.func13, Try.ntmps13
    go_wp2
    go_ret
    exact ⟨by simp, _, rfl⟩
  · have h1 : (id != 0) = true := by simp [h]
    go_enter Try.func13, Try.ntmps13
    go_wp2
    go_ret
    exact ⟨by simp [h1], _, rfl⟩

/-- Element i of the slice that begins at ⟨b, off⟩ is 'an i'. -/
def AnsAt (w : World) (b off n : Nat) (an : Nat → Ans) : Prop := ∀ i, i < n → ∀ j, j < 8 → w.cell? ⟨b, off + i * 8 + j, none⟩ = some ((an i).cell j)

theorem AnsAt.at {w : World} {b off n : Nat} {an : Nat → Ans} (h : AnsAt w b off n an) {i : Nat} (hi : i < n) :
    w.cell? ⟨b, off + i * 8, none⟩ = some (.string (an i).addr) ∧ w.cell? ⟨b, off + i * 8 + 1, none⟩ = some (.int .u64 (an i).group) ∧ w.cell? ⟨b, off + i * 8 + 2, none⟩ = some (.int .u64 (an i).term) ∧
    w.cell? ⟨b, off + i * 8 + 3, none⟩ = some (.int .u64 (an i).last) ∧ w.cell? ⟨b, off + i * 8 + 4, none⟩ = some (.int .u64 (an i).committed) ∧ w.cell? ⟨b, off + i * 8 + 5, none⟩ = some (.int .u64 (an i).cv) ∧
    w.cell? ⟨b, off + i * 8 + 6, none⟩ = some (.int .u64 (an i).leader) ∧ w.cell? ⟨b, off + i * 8 + 7, none⟩ = some (.string (an i).laddr) :=
  ⟨h i hi 0 (by omega), h i hi 1 (by omega), h i hi 2 (by omega), h i hi 3 (by omega), h i hi 4 (by omega), h i hi 5 (by omega), h i hi 6 (by omega), h i hi 7 (by omega)⟩

set_option maxHeartbeats 400000 in
/-- 'zzAnswerBytes': some number; nothing is written. -/
theorem abytes_any (ao : Option Addr) (b off n cap : Nat) (an : Nat → Ans) (w : World) (hn : n ≤ 9223372036854775807) (hao : 0 < n → ao = some ⟨b, off, none⟩) (ha : AnsAt w b off n an) :
    Calls Try.prog 9 #[.slice ao n cap] w fun e w' => (∃ t : Int, e = .returned (.int .i64 t)) ∧ ∃ q, w' = w.drewN q := by
  go_enter Try.func9, Try.ntmps9
  go_wp2
  go_loopw [3, 4] (fun t i wr => ∃ (k : Nat) (x : Int), k ≤ n ∧ i = .int .i64 k ∧ t = .int .i64 x ∧ ∃ q, wr = w.drewN q) (fun _ i _ => n - (intOf i).toNat)
  case atStart => exact ⟨0, 0, Nat.zero_le _, rfl, rfl, 0, rfl⟩
  case round =>
    obtain ⟨k, x, hk, rfl, rfl, q, rfl⟩ := hrel
    by_cases hlt : k < n
    · obtain rfl := hao (by omega)
      obtain ⟨c0, c1, c2, c3, c4, c5, c6, c7⟩ := ha.at hlt
      clear ha hao
      go_wp2
      go_quiet (fail)
      go_wp2
      · go_ret
        exact ⟨⟨_, rfl⟩, _, rfl⟩
      · go_roundw
        case rel => exact ⟨k + 1, _, by omega, by go_num, rfl, _, rfl⟩
        case measure => simp [intOf]; omega
    · go_wp2
      go_ret
      exact ⟨⟨_, rfl⟩, _, rfl⟩

set_option maxHeartbeats 400000 in
/-- 'zzBytes_..': some answer; nothing is written. -/
theorem zzbytes_any (ao : Option Addr) (b off n cap : Nat) (an : Nat → Ans) (w : World) (hn : n ≤ 9223372036854775807) (hao : 0 < n → ao = some ⟨b, off, none⟩) (ha : AnsAt w b off n an) :
    Calls Try.prog 8 #[.slice ao n cap] w fun e w' => (∃ t : Bool, e = .returned (.bool t)) ∧ ∃ q, w' = w.drewN q := by
  go_enter Try.func8, Try.ntmps8
  go_wp2
  · go_ret
    exact ⟨⟨_, rfl⟩, 0, rfl⟩
  go_loopw [3, 4] (fun t i wr => ∃ (k : Nat) (x : Int), k ≤ n ∧ i = .int .i64 k ∧ t = .int .i64 x ∧ 0 ≤ x ∧ x ≤ 1048576 ∧ wr = w) (fun _ i _ => n - (intOf i).toNat)
  case atStart => exact ⟨0, _, Nat.zero_le _, rfl, rfl, by omega, by omega, rfl⟩
  case round =>
    obtain ⟨k, x, hk, rfl, rfl, hx0, hx1, rfl⟩ := hrel
    by_cases hlt : k < n
    · obtain rfl := hao (by omega)
      obtain ⟨c0, c1, c2, c3, c4, c5, c6, c7⟩ := ha.at hlt
      clear ha hao
      go_wp2
      any_goals (go_ret; exact ⟨⟨_, rfl⟩, 0, rfl⟩)
      go_roundw
      case rel => exact ⟨k + 1, _, by omega, by go_num, rfl, by omega, by omega, trivial⟩
      case measure => simp [intOf]; omega
    · go_wp2
      go_ret
      exact ⟨⟨_, rfl⟩, 0, rfl⟩

set_option maxHeartbeats 400000 in
/-- 'zzBytes_..': some answer; nothing is written. -/
theorem zzbytes2_any (ao : Option Addr) (b off n cap : Nat) (an : Nat → Ans) (w : World) (hn : n ≤ 9223372036854775807) (hao : 0 < n → ao = some ⟨b, off, none⟩) (ha : AnsAt w b off n an) :
    Calls Try.prog 14 #[.slice ao n cap] w fun e w' => (∃ t : Bool, e = .returned (.bool t)) ∧ ∃ q, w' = w.drewN q := by
  go_enter Try.func14, Try.ntmps14
  go_wp2
  · go_ret
    exact ⟨⟨_, rfl⟩, 0, rfl⟩
  go_loopw [3, 4] (fun t i wr => ∃ (k : Nat) (x : Int), k ≤ n ∧ i = .int .i64 k ∧ t = .int .i64 x ∧ 0 ≤ x ∧ x ≤ 1048576 ∧ wr = w) (fun _ i _ => n - (intOf i).toNat)
  case atStart => exact ⟨0, _, Nat.zero_le _, rfl, rfl, by omega, by omega, rfl⟩
  case round =>
    obtain ⟨k, x, hk, rfl, rfl, hx0, hx1, rfl⟩ := hrel
    by_cases hlt : k < n
    · obtain rfl := hao (by omega)
      obtain ⟨c0, c1, c2, c3, c4, c5, c6, c7⟩ := ha.at hlt
      clear ha hao
      go_wp2
      any_goals (go_ret; exact ⟨⟨_, rfl⟩, 0, rfl⟩)
      go_roundw
      case rel => exact ⟨k + 1, _, by omega, by go_num, rfl, by omega, by omega, trivial⟩
      case measure => simp [intOf]; omega
    · go_wp2
      go_ret
      exact ⟨⟨_, rfl⟩, 0, rfl⟩

end Go.Proofs.Qxb6605900a
