import Derived.Test.Qxb6605609aRows
import Derived.WalkKit
import Derived.WalkSpells
import Derived.WalkSmall
import Derived.Deep.QuietTactic
import Derived.BigQuiet
import Derived.Deep.OwnRows
import Derived.Laws.CopyOwn
import Derived.ArgAppend
namespace Go.Proofs.Qxb6605609a
open Go.RowKit Go.Deep

/-- The value v is a slice of strings that reads as l. -/
def StrsAt (w : World) (v : Value) (l : List ByteArray) : Prop :=
  ∃ ao cap b off, v = .slice ao l.length cap ∧ (ao = none → l = [] ∧ cap = 0) ∧ (0 < l.length → ao = some ⟨b, off, none⟩) ∧ ∀ i, i < l.length → w.cell? ⟨b, off + i, none⟩ = some (.string (l.getD i ⟨#[]⟩))

theorem StrsAt.below {w w' : World} {v : Value} {l : List ByteArray} (h : StrsAt w v l) (hb : Below w.heap.size w w') : StrsAt w' v l := by
  obtain ⟨ao, cap, b, off, h1, h2, h3, h4⟩ := h
  refine ⟨ao, cap, b, off, h1, h2, h3, fun i hi => ?_⟩
  rw [hb.cell (p := ⟨b, off + i, none⟩) (World.block_lt_of_cell? w _ (h4 i hi))]
  exact h4 i hi

theorem StrsAt.drewN {w : World} {v : Value} {l : List ByteArray} (h : StrsAt w v l) (q : Nat) : StrsAt (w.drewN q) v l :=
  h.below (below_drewN (Below.refl _ _) q)

def sameB (la lb : List ByteArray) : Bool := decide (la = lb)

theorem getD_mem (l : List ByteArray) (i : Nat) (h : i < l.length) : l[i] = l.getD i ⟨#[]⟩ := by simp [List.getD, h]

theorem same_of {la lb : List ByteArray} (h : la.length = lb.length) (hk : ∀ j, j < la.length → la.getD j ⟨#[]⟩ = lb.getD j ⟨#[]⟩) : la = lb := by
  apply List.ext_getElem h
  intro i h1 h2
  rw [getD_mem la i h1, getD_mem lb i h2]
  exact hk i h1

theorem bytes_inj {x y : ByteArray} (h : x.toList = y.toList) : x = y := by
  rw [ByteArray.toList_eq, ByteArray.toList_eq] at h
  obtain ⟨⟨x⟩⟩ := x
  obtain ⟨⟨y⟩⟩ := y
  simp at h
  rw [h]

theorem all_succ {k : Nat} {p : Nat → Prop} (h : ∀ j, j < k → p j) (hk : p k) : Hid (∀ j, j < k + 1 → p j) := fun j hj => by
  by_cases e : j = k
  · subst e; exact hk
  · exact h j (by omega)

set_option maxHeartbeats 400000 in
theorem sameList_any (va vb : Value) (la lb : List ByteArray) (w : World) (ha : StrsAt w va la) (hb : StrsAt w vb lb) (hn : la.length ≤ 1048576) :
    Calls Try.prog 13 #[va, vb] w fun e w' => e = .returned (.bool (sameB la lb)) ∧ ∃ q, w' = w.drewN q := by
  obtain ⟨ao, capa, ba, offa, rfl, _, haA, hcA⟩ := ha
  obtain ⟨bo, capb, bb, offb, rfl, _, hbB, hcB⟩ := hb
  by_cases hl : la.length = lb.length
  · have hne : ((la.length : Int) != (lb.length : Int)) = false := by simp [hl]
    have HA : Hid (0 < la.length → ao = some ⟨ba, offa, none⟩) := haA
    have HB : Hid (0 < lb.length → bo = some ⟨bb, offb, none⟩) := hbB
    have HL : Hid (la.length = lb.length) := hl
    clear hl haA hbB
    go_enter Try.func13, Try.ntmps13
    go_wp2
    go_loopw [5] (fun i wr => ∃ k : Nat, k ≤ la.length ∧ i = .int .i64 k ∧ Hid (∀ j, j < k → la.getD j ⟨#[]⟩ = lb.getD j ⟨#[]⟩) ∧ ∃ q, wr = w.drewN q) (fun i _ => la.length - (intOf i).toNat)
    case atStart => exact ⟨0, Nat.zero_le _, rfl, fun j hj => by omega, 0, rfl⟩
    case round =>
      obtain ⟨k, hk, rfl, HK, q, rfl⟩ := hrel
      by_cases hlt : k < la.length
      · obtain rfl := HA.out (by omega)
        have hlt2 : k < lb.length := by rw [← HL.out]; exact hlt
        obtain rfl := HB.out (by omega)
        have c1 := hcA k hlt
        have c2 := hcB k hlt2
        have i1 : (k : Int) < (la.length : Int) := by omega
        have i2 : (k : Int) < (lb.length : Int) := by omega
        clear hcA hcB
        obtain ⟨x, hx⟩ : ∃ x, x = la.getD k ⟨#[]⟩ := ⟨_, rfl⟩
        obtain ⟨y, hy⟩ : ∃ y, y = lb.getD k ⟨#[]⟩ := ⟨_, rfl⟩
        rw [← hx] at c1
        rw [← hy] at c2
        have HX : Hid (x = la.getD k ⟨#[]⟩) := hx
        have HY : Hid (y = lb.getD k ⟨#[]⟩) := hy
        clear hx hy
        by_cases hxy : x = y
        · have hxy' : (x.toList == y.toList) = true := by rw [hxy]; exact beq_self_eq_true _
          have HE : Hid (x = y) := hxy
          clear hxy
          go_wp2
          go_quiet (fail)
          go_wp2
          go_roundw
          case rel => exact ⟨k + 1, by omega, by go_num, all_succ HK.out (by rw [← HX.out, ← HY.out, HE.out]), _, rfl⟩
          case measure => simp [intOf]; omega
        · have hxy' : (x.toList == y.toList) = false := by rw [beq_eq_false_iff_ne]; exact fun e => hxy (bytes_inj e)
          have HS : Hid (sameB la lb = false) := by unfold sameB Hid; exact decide_eq_false (fun e => hxy (by rw [HX.out, HY.out, e]))
          clear hxy
          go_wp2
          go_quiet (fail)
          go_wp2
          go_ret
          exact ⟨by rw [HS.out]; rfl, q + nq, by first | rfl | rw [World.drewN_drewN]⟩
      · obtain rfl : k = la.length := by omega
        have HS : Hid (sameB la lb = true) := by unfold sameB Hid; exact decide_eq_true (same_of HL.out HK.out)
        go_wp2
        go_ret
        exact ⟨by rw [HS.out]; rfl, _, rfl⟩
  · have hne : ((la.length : Int) != (lb.length : Int)) = true := by rw [bne_iff_ne]; omega
    have hs : sameB la lb = false := by unfold sameB; exact decide_eq_false (fun e => hl (by rw [e]))
    have HS : Hid (sameB la lb = false) := hs
    clear hs
    go_enter Try.func13, Try.ntmps13
    go_wp2
    go_ret
    exact ⟨by rw [HS.out]; rfl, 0, rfl⟩
set_option maxHeartbeats 400000 in
theorem equalLists_any (va vb : Value) (la lb : List ByteArray) (w : World) (ha : StrsAt w va la) (hb : StrsAt w vb lb) (hn : la.length ≤ 1048576) :
    Calls Try.prog 26 #[va, vb] w fun e w' => e = .returned (.bool (sameB la lb)) ∧ ∃ q, w' = w.drewN q := by
  obtain ⟨ao, capa, ba, offa, rfl, _, haA, hcA⟩ := ha
  obtain ⟨bo, capb, bb, offb, rfl, _, hbB, hcB⟩ := hb
  by_cases hl : la.length = lb.length
  · have hne : ((la.length : Int) != (lb.length : Int)) = false := by simp [hl]
    have HA : Hid (0 < la.length → ao = some ⟨ba, offa, none⟩) := haA
    have HB : Hid (0 < lb.length → bo = some ⟨bb, offb, none⟩) := hbB
    have HL : Hid (la.length = lb.length) := hl
    clear hl haA hbB
    go_enter Try.func26, Try.ntmps26
    go_wp2
    go_loopw [13] (fun i wr => ∃ k : Nat, k ≤ la.length ∧ i = .int .i64 k ∧ Hid (∀ j, j < k → la.getD j ⟨#[]⟩ = lb.getD j ⟨#[]⟩) ∧ ∃ q, wr = w.drewN q) (fun i _ => la.length - (intOf i).toNat)
    case atStart => exact ⟨0, Nat.zero_le _, rfl, fun j hj => by omega, 0, rfl⟩
    case round =>
      obtain ⟨k, hk, rfl, HK, q, rfl⟩ := hrel
      by_cases hlt : k < la.length
      · obtain rfl := HA.out (by omega)
        have hlt2 : k < lb.length := by rw [← HL.out]; exact hlt
        obtain rfl := HB.out (by omega)
        have c1 := hcA k hlt
        have c2 := hcB k hlt2
        have i1 : (k : Int) < (la.length : Int) := by omega
        have i2 : (k : Int) < (lb.length : Int) := by omega
        clear hcA hcB
        obtain ⟨x, hx⟩ : ∃ x, x = la.getD k ⟨#[]⟩ := ⟨_, rfl⟩
        obtain ⟨y, hy⟩ : ∃ y, y = lb.getD k ⟨#[]⟩ := ⟨_, rfl⟩
        rw [← hx] at c1
        rw [← hy] at c2
        have HX : Hid (x = la.getD k ⟨#[]⟩) := hx
        have HY : Hid (y = lb.getD k ⟨#[]⟩) := hy
        clear hx hy
        by_cases hxy : x = y
        · have hxy' : (x.toList == y.toList) = true := by rw [hxy]; exact beq_self_eq_true _
          have HE : Hid (x = y) := hxy
          clear hxy
          go_wp2
          go_quiet (fail)
          go_wp2
          go_roundw
          case rel => exact ⟨k + 1, by omega, by go_num, all_succ HK.out (by rw [← HX.out, ← HY.out, HE.out]), _, rfl⟩
          case measure => simp [intOf]; omega
        · have hxy' : (x.toList == y.toList) = false := by rw [beq_eq_false_iff_ne]; exact fun e => hxy (bytes_inj e)
          have HS : Hid (sameB la lb = false) := by unfold sameB Hid; exact decide_eq_false (fun e => hxy (by rw [HX.out, HY.out, e]))
          clear hxy
          go_wp2
          go_quiet (fail)
          go_wp2
          go_ret
          exact ⟨by rw [HS.out]; rfl, q + nq, by first | rfl | rw [World.drewN_drewN]⟩
      · obtain rfl : k = la.length := by omega
        have HS : Hid (sameB la lb = true) := by unfold sameB Hid; exact decide_eq_true (same_of HL.out HK.out)
        go_wp2
        go_ret
        exact ⟨by rw [HS.out]; rfl, _, rfl⟩
  · have hne : ((la.length : Int) != (lb.length : Int)) = true := by rw [bne_iff_ne]; omega
    have hs : sameB la lb = false := by unfold sameB; exact decide_eq_false (fun e => hl (by rw [e]))
    have HS : Hid (sameB la lb = false) := hs
    clear hs
    go_enter Try.func26, Try.ntmps26
    go_wp2
    go_ret
    exact ⟨by rw [HS.out]; rfl, 0, rfl⟩
end Go.Proofs.Qxb6605609a
